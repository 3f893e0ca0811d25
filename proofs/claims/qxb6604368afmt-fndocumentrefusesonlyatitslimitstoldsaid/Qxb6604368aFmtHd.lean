/-
  WALKS: header.
-/
import Derived.Test.Qxb6604368aFmtKv
namespace Go.Proofs.Qxb6604368aFmt
open Go.RowKit Go.Extern.Stop Go.Stop Go.Extern
set_option linter.unusedVariables false

/-- Past one or two opening brackets. -/
def hdp (S : Src) (p : Nat) : Nat := if p + 1 < S.n ∧ S.d (p + 1) = 91 then p + 1 + 1 else p + 1
theorem hdp_bd (S : Src) (p : Nat) (h : p < S.n) : p < hdp S p ∧ hdp S p ≤ S.n := by
  unfold hdp
  by_cases h2 : p + 1 < S.n ∧ S.d (p + 1) = 91
  · rw [if_pos h2]; omega
  · rw [if_neg h2]; omega

/-- What header leaves. -/
def HdrPost (B : Nat) (S : Src) (L : Lim) (e : Int) (r : Nat × Nat) (w : World) (en : Ending) (w' : World) : Prop :=
  Fr B w w' ∧ ((∃ a b : Int, a ≤ 9223372036854775807 ∧ b ≤ 9223372036854775807 ∧ en = .returned (.tuple #[.int .i64 a, .int .i64 b, .nilIface]) ∧ e + (r.2 : Int) ≤ L.en ∧ St w' B S L r.1 (e + (r.2 : Int))) ∨ ((∃ v, en = .returned (.tuple #[.int .i64 0, .int .i64 0, .iface 56 v])) ∧ (Top L → L.en < e + (r.2 : Int))))

set_option maxHeartbeats 4000000 in
set_option maxRecDepth 100000 in
theorem header_st (F : Interp) (B : Nat) (S : Src) (L : Lim) (p : Nat) (e : Int) (w : World) (hF : F.answers w.tape) (hn : S.n ≤ 65536) (hp : p < S.n) (he : 0 ≤ e) (hE : e ≤ 1000000000) (h : St w B S L p e) :
    Calls Tryf.prog 15 #[.pointer (some ⟨B, 0, none⟩)] w (HdrPost B S L e (Pl.key S.d S.n (hdp S p)) w) := by
  have HFa : Hid (F.answers w.tape) := hF
  have H : Hid (St w B S L p e) := h
  have hd := hdp_bd S p hp
  have hk := Pl.key_bd S.d S.n (hdp S p) hd.2
  have c1 := h.c1
  have f1 := h.free 1
  have y0 : (p : Int) ≤ 65536 := by omega
  clear h hF
  have HQ : Hid (hdp S p = if p + 1 < S.n ∧ S.d (p + 1) = 91 then p + 1 + 1 else p + 1) := rfl
  generalize hdp S p = q at HQ hd hk ⊢
  have y1 : (((Pl.key S.d S.n q).2 : Nat) : Int) ≤ 65536 := by omega
  go_enter Tryf.func15, Tryf.ntmps15
  go_upto_region 1 with fail
  go_cut [2] from 6 (fun v w2 => v = .int .i64 0 ∧ Hid (St w2 B S L (p + 1) e) ∧ Hid (Fr B w w2))
  case first =>
    go_wp2_with fail
    go_meet
    case rel => exact ⟨rfl, H.out.setPos (p + 1), (Fr.refl _ _).set _ _⟩
  case rest =>
  obtain ⟨rfl, HS1, HF1⟩ := hcut
  have hp1 : p + 1 ≤ S.n := by omega
  clear c1 f1 H
  generalize p + 1 = p1 at HQ HS1 hp1
  have c1 := HS1.out.c1
  have c0 := HS1.out.c0
  have f1 := HS1.out.free 1
  go_upto_region 2 with fail
  go_cut [35] from 6 (fun v w2 => v = .bool (decide (p1 < S.n ∧ S.d p1 = 91)) ∧ Hid (St w2 B S L p1 e) ∧ Hid (Fr B w w2))
  case first =>
    by_cases hlt : p1 < S.n
    · have cx := HS1.out.dat p1 hlt
      rw [HS1.out.adr (by omega)] at c0
      have z0 : (0 : Int) ≤ (p1 : Int) := by omega
      have z1 : (p1 : Int) < (S.n : Int) := by omega
      have z2 : decide ((p1 : Int) < (S.n : Int)) = true := decide_eq_true z1
      by_cases h91 : S.d p1 = 91
      · have HP : Hid (decide (p1 < S.n ∧ S.d p1 = 91) = true) := decide_eq_true ⟨hlt, h91⟩
        rw [h91] at cx
        clear h91
        go_quiet (fail)
        go_wp2_with fail
        go_meet
        case rel => exact ⟨by rw [HP.out], HS1.out.drewN _, HF1.out.drewN _⟩
      · have HP : Hid (decide (p1 < S.n ∧ S.d p1 = 91) = false) := decide_eq_false (fun h => h91 h.2)
        have b1 : (S.d p1 == 91) = false := beq_eq_false_iff_ne.2 h91
        clear h91
        go_quiet (fail)
        go_wp2_with fail
        go_meet
        case rel => exact ⟨by rw [HP.out], HS1.out.drewN _, HF1.out.drewN _⟩
    · have HP : Hid (decide (p1 < S.n ∧ S.d p1 = 91) = false) := decide_eq_false (fun h => hlt h.1)
      have z2 : decide ((p1 : Int) < (S.n : Int)) = false := decide_eq_false (by omega)
      go_quiet (fail)
      go_wp2_with fail
      go_meet
      case rel => exact ⟨by rw [HP.out], HS1.out.drewN _, HF1.out.drewN _⟩
  case rest =>
    obtain ⟨rfl, HS2, HF2⟩ := hcut
    clear HS1 HF1 c1 f1 c0
    have c1 := HS2.out.c1
    have f1 := HS2.out.free 1
    have y2 : (p1 : Int) ≤ 65536 := by omega
    go_upto_if 35 with fail
    go_cut [2] from 6 (fun v w3 => v = .int .i64 0 ∧ Hid (St w3 B S L q e) ∧ Hid (Fr B w w3))
    case first =>
      by_cases h2 : p1 < S.n ∧ S.d p1 = 91
      · have HP : Hid (q = p1 + 1) := by rw [HQ.out]; exact if_pos h2
        have b1 : decide (p1 < S.n ∧ S.d p1 = 91) = true := decide_eq_true h2
        rw [b1]
        clear h2 b1 HQ
        go_wp2_with fail
        go_meet
        case rel => exact ⟨rfl, by rw [HP.out]; exact HS2.out.setPos (p1 + 1), HF2.out.set _ _⟩
      · have HP : Hid (q = p1) := by rw [HQ.out]; exact if_neg h2
        have b1 : decide (p1 < S.n ∧ S.d p1 = 91) = false := decide_eq_false h2
        rw [b1]
        clear h2 b1 HQ
        go_wp2_with fail
        go_meet
        case rel => exact ⟨rfl, by rw [HP.out]; exact HS2, HF2⟩
    case rest =>
      obtain ⟨rfl, HS3, HF3⟩ := hcut
      clear HS2 HF2 c1 f1
      go_wp2_with fail
      refine (key_st B S L q e _ hn hd.2 HS3.out).mono ?_
      rintro en w4 ⟨⟨z, hz, rfl⟩, hs4, hf4⟩
      have HS4 : Hid (St w4 B S L (Pl.key S.d S.n q).1 e) := hs4
      have HF4 : Hid (Fr B w w4) := HF3.out.trans hf4
      clear hs4 hf4
      go_wp2_with fail
      refine (check_st F B S L (Pl.key S.d S.n q).1 e _ z (Pl.key S.d S.n q).2 _ (tape_fr HF4.out HFa.out) hn (by omega) (by omega) he hE (by omega) HS4.out).mono ?_
      rintro en w5 ⟨hf, ⟨rfl, hen, hs⟩ | ⟨⟨v, rfl⟩, herr⟩⟩
      · have HR : Hid (HdrPost B S L e (Pl.key S.d S.n q) w (.returned (.tuple #[.int .i64 (((Pl.key S.d S.n q).2 : Nat) : Int), .int .i64 z, .nilIface])) w5) := ⟨HF4.out.trans hf, .inl ⟨_, _, by omega, hz, rfl, hen, hs⟩⟩
        clear hf hen hs
        go_wp2_with fail
        go_ret3
        exact HR
      · have HR : Hid (HdrPost B S L e (Pl.key S.d S.n q) w (.returned (.tuple #[.int .i64 0, .int .i64 0, .iface 56 v])) w5) := ⟨HF4.out.trans hf, .inr ⟨⟨v, rfl⟩, top_le herr (by omega) hz⟩⟩
        clear hf herr
        go_wp2_with fail
        go_ret3
        exact HR
end Go.Proofs.Qxb6604368aFmt
