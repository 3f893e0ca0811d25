/-
  WALKS: keyValue.
-/
import Derived.Test.Qxb6604368aFmtVal
namespace Go.Proofs.Qxb6604368aFmt
open Go.RowKit Go.Extern.Stop Go.Stop Go.Extern
set_option linter.unusedVariables false

/-- Past an equals sign, if there is one. -/
def eqp (S : Src) (q : Nat) : Nat := if q < S.n ∧ S.d q = 61 then q + 1 else q
/-- Where keyValue's value begins. -/
def kvp (S : Src) (p : Nat) : Nat := eqp S (Pl.skb S.d S.n false (Pl.key S.d S.n p).1)

set_option maxHeartbeats 4000000 in
set_option maxRecDepth 100000 in
theorem kv_st (F : Interp) (S : Src) (hn : S.n ≤ 65536) (h0 : 0 < S.n) (p : Nat) (hp : p ≤ S.n) (rv : Nat × Nat) (hV : Does F S 23 (kvp S p) rv) : Does F S 16 p (rv.1, (Pl.key S.d S.n p).2 + 1 + rv.2) := by
  intro B L e lvl nm w hF hS he hE hl hm
  have HFa : Hid (F.answers w.tape) := hF
  have H : Hid (St w B S L p e) := hS
  have HV : Hid (Does F S 23 (kvp S p) rv) := hV
  have HL : Hid (e + (((Pl.key S.d S.n p).2 + 1 + rv.2 : Nat) : Int) ≤ 1000000000 ∧ lvl ≤ 9223372036854775807 ∧ nm ≤ 9223372036854775807) := ⟨hE, hl, hm⟩
  have hk := Pl.key_bd S.d S.n p hp
  have hb := Pl.skb_bd S.d S.n false (Pl.key S.d S.n p).1 hk.2.1
  have y1 : (((Pl.key S.d S.n p).2 : Nat) : Int) ≤ 65536 := by omega
  clear hF hS hV hl hm hE
  go_enter Tryf.func16, Tryf.ntmps16
  go_wp2_with fail
  refine (key_st B S L p e _ hn hp H.out).mono ?_
  rintro en w2 ⟨⟨z, hz, rfl⟩, hs2, hf2⟩
  have HS2 : Hid (St w2 B S L (Pl.key S.d S.n p).1 e) := hs2
  have HF2 : Hid (Fr B w w2) := hf2
  clear hs2 hf2
  go_wp2_with fail
  refine (join_any nm z _).mono ?_
  rintro en w3 ⟨⟨z2, rfl, hz2⟩, rfl⟩
  go_wp2_with fail
  refine (check_st F B S L (Pl.key S.d S.n p).1 e _ z2 ((Pl.key S.d S.n p).2 + 1) _ (tape_fr HF2.out HFa.out) hn h0 (by omega) he (by have := HL.out.1; omega) (by omega) HS2.out).mono ?_
  rintro en w4 ⟨hf, ⟨rfl, hen, hs⟩ | ⟨⟨v, rfl⟩, herr⟩⟩
  case inr =>
    have HR : Hid (Res B S L e (rv.1, (Pl.key S.d S.n p).2 + 1 + rv.2) w (.returned (.iface 56 v)) w4) := ⟨HF2.out.trans hf, .inr ⟨⟨v, rfl⟩, fun t => by have := top_le herr (wrap64_le _) hz2 t; show L.en < e + (((Pl.key S.d S.n p).2 + 1 + rv.2 : Nat) : Int); omega⟩⟩
    clear hf herr
    go_wp2_with fail
    go_ret
    exact HR
  have HS4 : Hid (St w4 B S L (Pl.key S.d S.n p).1 (e + (((Pl.key S.d S.n p).2 + 1 : Nat) : Int))) := hs
  have HF4 : Hid (Fr B w w4) := HF2.out.trans hf
  have HN4 : Hid (e + (((Pl.key S.d S.n p).2 + 1 : Nat) : Int) ≤ L.en) := hen
  clear hs hf hen
  go_wp2_with fail
  refine (skipBlank_st false B S L (Pl.key S.d S.n p).1 _ _ hn (by omega) HS4.out).mono ?_
  rintro en w5 ⟨rfl, hs5, hf5⟩
  have HQ : Hid (kvp S p = eqp S (Pl.skb S.d S.n false (Pl.key S.d S.n p).1)) := rfl
  generalize Pl.skb S.d S.n false (Pl.key S.d S.n p).1 = q at HQ hb hs5
  have HS5 : Hid (St w5 B S L q (e + (((Pl.key S.d S.n p).2 + 1 : Nat) : Int))) := hs5
  have HF5 : Hid (Fr B w w5) := HF4.out.trans hf5
  clear hs5 hf5
  have c1 := HS5.out.c1
  have c0 := HS5.out.c0
  have f1 := HS5.out.free 1
  by_cases hlt : q < S.n
  case neg =>
    have HP : Hid (kvp S p = q) := by
      rw [HQ.out]
      exact if_neg (fun h => hlt h.1)
    have z2' : decide ((q : Int) < (S.n : Int)) = false := decide_eq_false (by omega)
    go_wp2_with fail
    go_quiet (fail)
    go_wp2_with fail
    refine (HV.out B L (e + (((Pl.key S.d S.n p).2 + 1 : Nat) : Int)) _ z2 _ (tape_fr (HF5.out.drewN _) HFa.out) (by rw [HP.out]; exact HS5.out.drewN _) (by omega) (by have := HL.out.1; omega) (wrap64_le _) hz2).mono ?_
    rintro en w9 ⟨hf, ⟨rfl, hen, hs⟩ | ⟨⟨v, rfl⟩, herr⟩⟩
    · have hec : e + (((Pl.key S.d S.n p).2 + 1 : Nat) : Int) + (rv.2 : Int) = e + (((Pl.key S.d S.n p).2 + 1 + rv.2 : Nat) : Int) := by omega
      have HR : Hid (Res B S L e (rv.1, (Pl.key S.d S.n p).2 + 1 + rv.2) w (.returned .nilIface) w9) := ⟨(HF5.out.drewN _).trans hf, .inl ⟨rfl, fun _ => by rw [← hec]; exact hen HN4.out, by rw [← hec]; exact hs⟩⟩
      clear hf hen hs hec
      go_wp2_with fail
      go_ret
      exact HR
    · have HR : Hid (Res B S L e (rv.1, (Pl.key S.d S.n p).2 + 1 + rv.2) w (.returned (.iface 56 v)) w9) := ⟨(HF5.out.drewN _).trans hf, .inr ⟨⟨v, rfl⟩, fun t => by have := herr t; show L.en < e + (((Pl.key S.d S.n p).2 + 1 + rv.2 : Nat) : Int); omega⟩⟩
      clear hf herr
      go_wp2_with fail
      go_ret
      exact HR
  have cx := HS5.out.dat q hlt
  rw [HS5.out.adr (by omega)] at c0
  have z0 : (0 : Int) ≤ (q : Int) := by omega
  have z1 : (q : Int) < (S.n : Int) := by omega
  have z2' : decide ((q : Int) < (S.n : Int)) = true := decide_eq_true z1
  by_cases h61 : S.d q = 61
  · have HP : Hid (kvp S p = q + 1) := by
      rw [HQ.out]
      exact if_pos ⟨hlt, h61⟩
    rw [h61] at cx
    clear h61
    go_wp2_with fail
    go_quiet (fail)
    go_wp2_with fail
    refine (HV.out B L (e + (((Pl.key S.d S.n p).2 + 1 : Nat) : Int)) _ z2 _ (tape_fr ((HF5.out.drewN _).set _ _) HFa.out) (by rw [HP.out]; exact (HS5.out.drewN _).setPos (q + 1)) (by omega) (by have := HL.out.1; omega) (wrap64_le _) hz2).mono ?_
    rintro en w9 ⟨hf, ⟨rfl, hen, hs⟩ | ⟨⟨v, rfl⟩, herr⟩⟩
    · have hec : e + (((Pl.key S.d S.n p).2 + 1 : Nat) : Int) + (rv.2 : Int) = e + (((Pl.key S.d S.n p).2 + 1 + rv.2 : Nat) : Int) := by omega
      have HR : Hid (Res B S L e (rv.1, (Pl.key S.d S.n p).2 + 1 + rv.2) w (.returned .nilIface) w9) := ⟨((HF5.out.drewN _).set _ _).trans hf, .inl ⟨rfl, fun _ => by rw [← hec]; exact hen HN4.out, by rw [← hec]; exact hs⟩⟩
      clear hf hen hs hec
      go_wp2_with fail
      go_ret
      exact HR
    · have HR : Hid (Res B S L e (rv.1, (Pl.key S.d S.n p).2 + 1 + rv.2) w (.returned (.iface 56 v)) w9) := ⟨((HF5.out.drewN _).set _ _).trans hf, .inr ⟨⟨v, rfl⟩, fun t => by have := herr t; show L.en < e + (((Pl.key S.d S.n p).2 + 1 + rv.2 : Nat) : Int); omega⟩⟩
      clear hf herr
      go_wp2_with fail
      go_ret
      exact HR
  · have HP : Hid (kvp S p = q) := by
      rw [HQ.out]
      exact if_neg (fun h => h61 h.2)
    have b1 : (S.d q == 61) = false := beq_eq_false_iff_ne.2 h61
    clear h61
    go_wp2_with fail
    go_quiet (fail)
    go_wp2_with fail
    refine (HV.out B L (e + (((Pl.key S.d S.n p).2 + 1 : Nat) : Int)) _ z2 _ (tape_fr (HF5.out.drewN _) HFa.out) (by rw [HP.out]; exact HS5.out.drewN _) (by omega) (by have := HL.out.1; omega) (wrap64_le _) hz2).mono ?_
    rintro en w9 ⟨hf, ⟨rfl, hen, hs⟩ | ⟨⟨v, rfl⟩, herr⟩⟩
    · have hec : e + (((Pl.key S.d S.n p).2 + 1 : Nat) : Int) + (rv.2 : Int) = e + (((Pl.key S.d S.n p).2 + 1 + rv.2 : Nat) : Int) := by omega
      have HR : Hid (Res B S L e (rv.1, (Pl.key S.d S.n p).2 + 1 + rv.2) w (.returned .nilIface) w9) := ⟨(HF5.out.drewN _).trans hf, .inl ⟨rfl, fun _ => by rw [← hec]; exact hen HN4.out, by rw [← hec]; exact hs⟩⟩
      clear hf hen hs hec
      go_wp2_with fail
      go_ret
      exact HR
    · have HR : Hid (Res B S L e (rv.1, (Pl.key S.d S.n p).2 + 1 + rv.2) w (.returned (.iface 56 v)) w9) := ⟨(HF5.out.drewN _).trans hf, .inr ⟨⟨v, rfl⟩, fun t => by have := herr t; show L.en < e + (((Pl.key S.d S.n p).2 + 1 + rv.2 : Nat) : Int); omega⟩⟩
      clear hf herr
      go_wp2_with fail
      go_ret
      exact HR
end Go.Proofs.Qxb6604368aFmt
