/-
  WALKS: check.
-/
import Derived.Test.Qxb6604368aFmtChk
namespace Go.Proofs.Qxb6604368aFmt
open Go.RowKit Go.Extern.Stop Go.Stop Go.Extern
set_option linter.unusedVariables false

theorem tape_of {F : Interp} {B q : Nat} {wc w2 : World} (h : Fr B (wc.drewN q) w2) (hF : Hid (F.answers wc.tape)) : F.answers w2.tape := by
  rw [h.tape]; exact hF.out
theorem tape_of2 {F : Interp} {B q r : Nat} {wc w2 : World} (h : Fr B ((wc.drewN q).drewN r) w2) (hF : Hid (F.answers wc.tape)) : F.answers w2.tape := by
  rw [h.tape]; exact hF.out

/-- What check leaves. -/
def ChkPost (B : Nat) (S : Src) (L : Lim) (p : Nat) (e : Int) (lvl nm : Int) (k : Nat) (w : World) (en : Ending) (w' : World) : Prop :=
  Fr B w w' ∧ ((en = .returned .nilIface ∧ e + k ≤ L.en ∧ St w' B S L p (e + k)) ∨ ((∃ v, en = .returned (.iface 56 v)) ∧ (L.lv < lvl ∨ L.nm < nm ∨ L.en < e + k)))

set_option maxHeartbeats 2000000 in
set_option maxRecDepth 100000 in
theorem check_st (F : Interp) (B : Nat) (S : Src) (L : Lim) (p : Nat) (e : Int) (lvl nm : Int) (k : Nat) (w : World) (hF : F.answers w.tape) (hn : S.n ≤ 65536) (h0 : 0 < S.n) (hp : p ≤ S.n) (he0 : 0 ≤ e) (he1 : e ≤ 1000000000) (hk : (k : Int) ≤ 1000000) (h : St w B S L p e) :
    Calls Tryf.prog 21 #[.pointer (some ⟨B, 0, none⟩), .int .i64 lvl, .int .i64 nm, .int .i64 k] w (ChkPost B S L p e lvl nm k w) := by
  have H : Hid (St w B S L p e) := h
  have c5 := h.c5
  have f5 := h.free 5
  have hk0 : (0 : Int) ≤ (k : Int) := by omega
  clear h
  go_enter Tryf.func21, Tryf.ntmps21
  go_upto_region 1 with fail
  go_cut [8] from 9 (fun v w2 => v = .nilIface ∧ Kp B S L p (e + k) w w2)
  case first =>
    go_wp2_with fail
    go_meet
    case rel => exact ⟨rfl, H.out.setEnt _, (Fr.refl _ _).set _ _⟩
  case rest =>
    obtain ⟨rfl, hS, hF2⟩ := hcut
    clear c5 f5
    have HFw : Hid (F.answers wc.tape) := by rw [hF2.tape]; exact hF
    have c2 := hS.c2
    have c3 := hS.c3
    have c4 := hS.c4
    have c5 := hS.c5
    by_cases h1 : L.lv < lvl
    · have g1 : decide (lvl > L.lv) = true := decide_eq_true h1
      go_wp2_with fail
      go_region_held3 (fun w' => w'.cell? ⟨B, 2, none⟩ = some (.int .i64 L.lv) ∧ Kp B S L p (e + k) w w') ((first | exact ⟨St.c2 (hS.drewN 1), hS.drewN 1, hF2.drewN 1⟩ | exact ⟨St.c2 (hS.drewN _), hS.drewN _, hF2.drewN _⟩ | exact ⟨St.c2 ((hS.drewN _).drewN 1), (hS.drewN _).drewN 1, (hF2.drewN _).drewN 1⟩ | exact ⟨hs2.c2, hs2, (hF2.drewN _).trans hf2⟩ | exact ⟨St.c2 (hs2.alloc _), hs2.alloc _, ((hF2.drewN _).trans hf2).alloc _⟩ | exact ⟨St.c2 (((hs2.alloc _).alloc _).drewN 1), ((hs2.alloc _).alloc _).drewN 1, ((((hF2.drewN _).trans hf2).alloc _).alloc _).drewN 1⟩)) ((first | (go_at_call 27; refine (line_st B S L p (e + k) _ hn h0 hp (hS.drewN 1)).mono ?_; rintro e1 w2 ⟨x, rfl, hs2, hf2⟩) | (go_at_call 26; refine (errorf0 F x L.lv _ _ ?_ ?_ ?_).mono ?_; (exact (tape_of (hf2.alloc _) HFw)); (exact cell_new w2 _ _ _ _ _ rfl); (exact cell_new w2 _ _ _ _ _ rfl); rintro e3 w3 ⟨v, o, rfl, rfl⟩)))
      go_wp2_with fail
      go_ret
      exact ⟨((((hF2.drewN _).trans hf2).alloc _).alloc _).drewN 1, .inr ⟨⟨_, rfl⟩, .inl h1⟩⟩
    · have g1 : decide (lvl > L.lv) = false := decide_eq_false h1
      by_cases h2 : L.nm < nm
      · have g2 : decide (nm > L.nm) = true := decide_eq_true h2
        go_wp2_with fail
        go_region_held3 (fun w' => w'.cell? ⟨B, 3, none⟩ = some (.int .i64 L.nm) ∧ Kp B S L p (e + k) w w') ((first | exact ⟨St.c3 (hS.drewN 1), hS.drewN 1, hF2.drewN 1⟩ | exact ⟨St.c3 (hS.drewN _), hS.drewN _, hF2.drewN _⟩ | exact ⟨St.c3 ((hS.drewN _).drewN 1), (hS.drewN _).drewN 1, (hF2.drewN _).drewN 1⟩ | exact ⟨hs2.c3, hs2, (hF2.drewN _).trans hf2⟩ | exact ⟨St.c3 (hs2.alloc _), hs2.alloc _, ((hF2.drewN _).trans hf2).alloc _⟩ | exact ⟨St.c3 (((hs2.alloc _).alloc _).drewN 1), ((hs2.alloc _).alloc _).drewN 1, ((((hF2.drewN _).trans hf2).alloc _).alloc _).drewN 1⟩)) ((first | (go_at_call 27; refine (line_st B S L p (e + k) _ hn h0 hp (hS.drewN 1)).mono ?_; rintro e1 w2 ⟨x, rfl, hs2, hf2⟩) | (go_at_call 26; refine (errorf1 F x L.nm _ _ ?_ ?_ ?_).mono ?_; (exact (tape_of (hf2.alloc _) HFw)); (exact cell_new w2 _ _ _ _ _ rfl); (exact cell_new w2 _ _ _ _ _ rfl); rintro e3 w3 ⟨v, o, rfl, rfl⟩)))
        go_wp2_with fail
        go_ret
        exact ⟨((((hF2.drewN _).trans hf2).alloc _).alloc _).drewN 1, .inr ⟨⟨_, rfl⟩, .inr (.inl h2)⟩⟩
      · have g2 : decide (nm > L.nm) = false := decide_eq_false h2
        by_cases h3 : L.en < e + k
        · have g3 : decide (e + (k : Int) > L.en) = true := decide_eq_true h3
          go_wp2_with fail
          go_quiet (fail)
          go_wp2_with fail
          go_region_held3 (fun w' => w'.cell? ⟨B, 4, none⟩ = some (.int .i64 L.en) ∧ Kp B S L p (e + k) w w') ((first | exact ⟨St.c4 (hS.drewN 1), hS.drewN 1, hF2.drewN 1⟩ | exact ⟨St.c4 (hS.drewN _), hS.drewN _, hF2.drewN _⟩ | exact ⟨St.c4 ((hS.drewN _).drewN 1), (hS.drewN _).drewN 1, (hF2.drewN _).drewN 1⟩ | exact ⟨hs2.c4, hs2, ((hF2.drewN _).drewN _).trans hf2⟩ | exact ⟨St.c4 (hs2.alloc _), hs2.alloc _, (((hF2.drewN _).drewN _).trans hf2).alloc _⟩ | exact ⟨St.c4 (((hs2.alloc _).alloc _).drewN 1), ((hs2.alloc _).alloc _).drewN 1, (((((hF2.drewN _).drewN _).trans hf2).alloc _).alloc _).drewN 1⟩)) ((first | (go_at_call 27; refine (line_st B S L p (e + k) _ hn h0 hp (St.drewN (St.drewN hS _) 1)).mono ?_; rintro e1 w2 ⟨x, rfl, hs2, hf2⟩) | (go_at_call 26; refine (errorf2 F x L.en _ _ ?_ ?_ ?_).mono ?_; (exact (tape_of2 (hf2.alloc _) HFw)); (exact cell_new w2 _ _ _ _ _ rfl); (exact cell_new w2 _ _ _ _ _ rfl); rintro e3 w3 ⟨v, o, rfl, rfl⟩)))
          go_wp2_with fail
          go_ret
          exact ⟨(((((hF2.drewN _).drewN _).trans hf2).alloc _).alloc _).drewN 1, .inr ⟨⟨_, rfl⟩, .inr (.inr h3)⟩⟩
        · have g3 : decide (e + (k : Int) > L.en) = false := decide_eq_false h3
          go_wp2_with fail
          go_quiet (fail)
          go_wp2_with fail
          go_ret
          exact ⟨hF2.drewN _, .inl ⟨rfl, by omega, hS.drewN _⟩⟩
end Go.Proofs.Qxb6604368aFmt
