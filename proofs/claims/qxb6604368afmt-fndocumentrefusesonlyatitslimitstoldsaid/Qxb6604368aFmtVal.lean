/-
  WALKS: value.
-/
import Derived.Test.Qxb6604368aFmtAr
namespace Go.Proofs.Qxb6604368aFmt
open Go.RowKit Go.Extern.Stop Go.Stop Go.Extern
set_option linter.unusedVariables false

/-- Past a string value that begins at s. -/
def strEnd (S : Src) (s : Nat) : Nat := Pl.skq S.d S.n (S.d s) (if (true && pre S s [S.d s, S.d s, S.d s]) = true then 3 else 1) (s + if (true && pre S s [S.d s, S.d s, S.d s]) = true then 3 else 1)

/-- What value comes to, at the first byte that is no blank. -/
def ValAt (F : Interp) (S : Src) (s : Nat) (r : Nat × Nat) : Prop :=
  (¬ s < S.n ∧ r = (s, 0)) ∨ (s < S.n ∧ S.d s = 91 ∧ Does F S 28 s r) ∨ (s < S.n ∧ S.d s = 123 ∧ Does F S 29 s r) ∨ (s < S.n ∧ (S.d s = 34 ∨ S.d s = 39) ∧ r = (strEnd S s, 0)) ∨ (s < S.n ∧ (S.d s ≠ 91 ∧ S.d s ≠ 123 ∧ S.d s ≠ 34 ∧ S.d s ≠ 39) ∧ r = (Pl.skc S.d S.n s, 0))

set_option maxHeartbeats 4000000 in
set_option maxRecDepth 100000 in
theorem value_st (F : Interp) (S : Src) (hn : S.n ≤ 65536) (p : Nat) (hp : p ≤ S.n) (r : Nat × Nat) (hV : ValAt F S (Pl.skb S.d S.n false p) r) : Does F S 23 p r := by
  intro B L e lvl nm w hF hS he hE hl hm
  have HFa : Hid (F.answers w.tape) := hF
  have H : Hid (St w B S L p e) := hS
  have HV : Hid (ValAt F S (Pl.skb S.d S.n false p) r) := hV
  have HL : Hid (e + (r.2 : Int) ≤ 1000000000 ∧ lvl ≤ 9223372036854775807 ∧ nm ≤ 9223372036854775807) := ⟨hE, hl, hm⟩
  have hb := Pl.skb_bd S.d S.n false p hp
  clear hF hS hV hl hm hE
  go_enter Tryf.func23, Tryf.ntmps23
  go_wp2_with fail
  refine (skipBlank_st false B S L p e _ hn hp H.out).mono ?_
  rintro en w2 ⟨rfl, hs2, hf2⟩
  generalize Pl.skb S.d S.n false p = s at HV hb hs2
  have HS2 : Hid (St w2 B S L s e) := hs2
  have HF2 : Hid (Fr B w w2) := hf2
  clear hs2 hf2
  have c1 := HS2.out.c1
  have c0 := HS2.out.c0
  by_cases hlt : s < S.n
  case neg =>
    have HR : Hid (r = (s, 0)) := by
      rcases HV.out with h | h | h | h | h
      · exact h.2
      all_goals exact absurd h.1 hlt
    have z3 : ((s : Int) == (S.n : Int)) = true := beq_iff_eq.2 (by omega)
    go_wp2_with fail
    go_quiet (fail)
    go_wp2_with fail
    go_ret
    rw [HR.out]
    refine ⟨HF2.out.drewN _, .inl ⟨rfl, fun h => ?_, ?_⟩⟩
    · show e + ((0 : Nat) : Int) ≤ L.en
      omega
    · show St _ B S L s (e + ((0 : Nat) : Int))
      rw [show e + ((0 : Nat) : Int) = e by omega]
      exact HS2.out.drewN _
  have cx := HS2.out.dat s hlt
  rw [HS2.out.adr (by omega)] at c0
  have z0 : (0 : Int) ≤ (s : Int) := by omega
  have z1 : (s : Int) < (S.n : Int) := by omega
  have z3 : ((s : Int) == (S.n : Int)) = false := beq_eq_false_iff_ne.2 (by omega)
  rcases HV.out with h | h | h | h | h
  · exact absurd hlt h.1
  · have HD : Hid (Does F S 28 s r) := h.2.2
    rw [h.2.1] at cx
    clear h
    go_wp2_with fail
    go_quiet (fail)
    go_wp2_with fail
    go_quiet (fail)
    go_wp2_with fail
    refine (HD.out B L e lvl nm _ (tape_fr (HF2.out.drewN _) HFa.out) (HS2.out.drewN _) he HL.out.1 HL.out.2.1 HL.out.2.2).mono ?_
    rintro en w3 ⟨hf, ⟨rfl, hen, hs⟩ | ⟨⟨v, rfl⟩, herr⟩⟩
    · have HR : Hid (Res B S L e r w (.returned .nilIface) w3) := ⟨(HF2.out.drewN _).trans hf, .inl ⟨rfl, hen, hs⟩⟩
      clear hf hen hs
      go_wp2_with fail
      go_ret
      exact HR
    · have HR : Hid (Res B S L e r w (.returned (.iface 56 v)) w3) := ⟨(HF2.out.drewN _).trans hf, .inr ⟨⟨v, rfl⟩, herr⟩⟩
      clear hf herr
      go_wp2_with fail
      go_ret
      exact HR
  · have HD : Hid (Does F S 29 s r) := h.2.2
    rw [h.2.1] at cx
    clear h
    go_wp2_with fail
    go_quiet (fail)
    go_wp2_with fail
    go_quiet (fail)
    go_wp2_with fail
    refine (HD.out B L e lvl nm _ (tape_fr (HF2.out.drewN _) HFa.out) (HS2.out.drewN _) he HL.out.1 HL.out.2.1 HL.out.2.2).mono ?_
    rintro en w3 ⟨hf, ⟨rfl, hen, hs⟩ | ⟨⟨v, rfl⟩, herr⟩⟩
    · have HR : Hid (Res B S L e r w (.returned .nilIface) w3) := ⟨(HF2.out.drewN _).trans hf, .inl ⟨rfl, hen, hs⟩⟩
      clear hf hen hs
      go_wp2_with fail
      go_ret
      exact HR
    · have HR : Hid (Res B S L e r w (.returned (.iface 56 v)) w3) := ⟨(HF2.out.drewN _).trans hf, .inr ⟨⟨v, rfl⟩, herr⟩⟩
      clear hf herr
      go_wp2_with fail
      go_ret
      exact HR
  · have HR : Hid (r = (strEnd S s, 0)) := h.2.2
    have hq := h.2.1
    clear h
    rcases hq with hq | hq
    all_goals
      rw [hq] at cx
      clear hq
      go_wp2_with fail
      go_quiet (fail)
      go_wp2_with fail
      go_quiet (fail)
      go_wp2_with fail
      refine (skipString_st true B S L s e _ hn hlt (HS2.out.drewN _)).mono ?_
      rintro en w3 ⟨rfl, hs3, hf3⟩
      have HS3 : Hid (St w3 B S L (strEnd S s) e) := hs3
      have HF3 : Hid (Fr B w w3) := (HF2.out.drewN _).trans hf3
      clear hs3 hf3
      go_wp2_with fail
      go_ret
      rw [HR.out]
      refine ⟨HF3.out, .inl ⟨rfl, fun h => ?_, ?_⟩⟩
      · show e + ((0 : Nat) : Int) ≤ L.en
        omega
      · show St _ B S L (strEnd S s) (e + ((0 : Nat) : Int))
        rw [show e + ((0 : Nat) : Int) = e by omega]
        exact HS3
  · have HR : Hid (r = (Pl.skc S.d S.n s, 0)) := h.2.2
    have b1 : (S.d s == 91) = false := beq_eq_false_iff_ne.2 h.2.1.1
    have b2 : (S.d s == 123) = false := beq_eq_false_iff_ne.2 h.2.1.2.1
    have b3 : (S.d s == 34) = false := beq_eq_false_iff_ne.2 h.2.1.2.2.1
    have b4 : (S.d s == 39) = false := beq_eq_false_iff_ne.2 h.2.1.2.2.2
    clear h
    go_wp2_with fail
    go_quiet (fail)
    go_wp2_with fail
    go_quiet (fail)
    go_wp2_with fail
    refine (skipScalar_st B S L s e _ hn (by omega) (HS2.out.drewN _)).mono ?_
    rintro en w3 ⟨rfl, hs3, hf3⟩
    have HS3 : Hid (St w3 B S L (Pl.skc S.d S.n s) e) := hs3
    have HF3 : Hid (Fr B w w3) := (HF2.out.drewN _).trans hf3
    clear hs3 hf3
    go_wp2_with fail
    go_ret
    rw [HR.out]
    refine ⟨HF3.out, .inl ⟨rfl, fun h => ?_, ?_⟩⟩
    · show e + ((0 : Nat) : Int) ≤ L.en
      omega
    · show St _ B S L (Pl.skc S.d S.n s) (e + ((0 : Nat) : Int))
      rw [show e + ((0 : Nat) : Int) = e by omega]
      exact HS3
end Go.Proofs.Qxb6604368aFmt
