/-
  WALKS: the law.
-/
import Derived.Test.Qxb6604368aFmtZz
namespace Go.Proofs.Qxb6604368aFmt
open Go.RowKit Go.Extern.Stop Go.Stop Go.Extern
set_option linter.unusedVariables false

theorem zzb_ok (a : Option Addr) (n c : Nat) (i j k : Int) (w : World) (h : n ≤ 1048576) : Calls Tryf.prog 5 #[.slice a n c, .int .i64 i, .int .i64 j, .int .i64 k] w fun e w' => e = .returned (.bool true) ∧ w' = w := by
  go_enter Tryf.func5, Tryf.ntmps5
  go_wp2
  go_ret
  exact ⟨rfl, rfl⟩
theorem zzb_no (a : Option Addr) (n c : Nat) (i j k : Int) (w : World) (h : ¬ n ≤ 1048576) : Calls Tryf.prog 5 #[.slice a n c, .int .i64 i, .int .i64 j, .int .i64 k] w fun e w' => e = .returned (.bool false) ∧ w' = w := by
  go_enter Tryf.func5, Tryf.ntmps5
  go_wp2
  go_ret
  exact ⟨rfl, rfl⟩

set_option maxHeartbeats 2000000 in
theorem law (F : Interp) (a0 : Option Addr) (len0 cap0 : Nat) (z0 : List Int) (a1 a2 a3 : Int) (w : World) (hF : F.answers w.tape) (w0 : IsRow .u8 w a0 len0 cap0 z0) :
    Calls Tryf.prog 3 #[.slice a0 len0 cap0, .int .i64 a1, .int .i64 a2, .int .i64 a3] w fun e w' => e = .returned (.bool true) ∧ Below w.heap.size w w' := by
  have HFa : Hid (F.answers w.tape) := hF
  have H0 : Hid (IsRow .u8 w a0 len0 cap0 z0) := w0
  clear hF w0
  by_cases hbig : len0 ≤ 1048576
  case neg =>
    go_enter Tryf.func3, Tryf.ntmps3
    go_wp2_with fail
    refine (zzb_no _ _ _ _ _ _ _ hbig).mono ?_
    rintro e w' ⟨rfl, rfl⟩
    go_wp2
    go_ret
    exact ⟨rfl, Below.refl _ _⟩
  by_cases h65 : len0 ≤ 65536
  case neg =>
    have z1 : decide ((len0 : Int) > 65536) = true := decide_eq_true (by omega)
    go_enter Tryf.func3, Tryf.ntmps3
    go_wp2_with fail
    refine (zzb_ok _ _ _ _ _ _ _ hbig).mono ?_
    rintro e w' ⟨rfl, rfl⟩
    go_wp2
    go_ret
    exact ⟨rfl, Below.refl _ _⟩
  have z1 : decide ((len0 : Int) > 65536) = false := decide_eq_false (by omega)
  by_cases hneg : a3 < 0
  case pos =>
    have z2 : decide (a3 < 0) = true := decide_eq_true hneg
    go_enter Tryf.func3, Tryf.ntmps3
    go_wp2_with fail
    refine (zzb_ok _ _ _ _ _ _ _ hbig).mono ?_
    rintro e w' ⟨rfl, rfl⟩
    go_wp2
    go_ret
    exact ⟨rfl, Below.refl _ _⟩
  have z2 : decide (a3 < 0) = false := decide_eq_false hneg
  go_enter Tryf.func3, Tryf.ntmps3
  go_wp2_with fail
  refine (zzb_ok _ _ _ _ _ _ _ hbig).mono ?_
  rintro e w' ⟨rfl, rfl⟩
  go_wp2_with fail
  refine (clone_any H0.out hbig).mono ?_
  rintro e w1 ⟨⟨a', rfl, hdat⟩, hbel⟩
  have HD1 : Hid (Dat w1 a' len0 (by8 z0)) := hdat
  have HB1 : Hid (Below w'.heap.size w' w1) := hbel
  obtain ⟨C, hC1, hC2⟩ := doc_any F a' len0 (by8 z0) h65
  have HC : Hid _ := hC2
  clear hdat hbel hC2 H0
  have z3 : decide ((C : Int) < 0) = false := decide_eq_false (by omega)
  go_wp2_with fail
  refine (zz_st F a' len0 (by8 z0) C HC.out 9223372036854775807 9223372036854775807 9223372036854775807 w1 (by rw [HB1.out.tape]; exact HFa.out) HD1.out).mono ?_
  rintro e w2 ⟨hb2, ⟨rfl, _⟩ | ⟨⟨v1, v2, v, rfl⟩, herr⟩⟩
  case inr =>
    exfalso
    have := herr rfl rfl
    omega
  have HB2 : Hid (Below w'.heap.size w' w2) := HB1.out.trans (hb2.mono HB1.out.size)
  have HD2 : Hid (Dat w2 a' len0 (by8 z0)) := HD1.out.below hb2
  clear hb2
  go_wp2_with fail
  refine (zz_st F a' len0 (by8 z0) C HC.out 9223372036854775807 9223372036854775807 a3 w2 (by rw [HB2.out.tape]; exact HFa.out) HD2.out).mono ?_
  rintro e w3 ⟨hb3, ⟨rfl, hle⟩ | ⟨⟨v1, v2, v, rfl⟩, herr⟩⟩
  · have HB3 : Hid (Below w'.heap.size w' w3) := HB2.out.trans (hb3.mono HB2.out.size)
    have HD3 : Hid (Dat w3 a' len0 (by8 z0)) := HD2.out.below hb3
    have z4 : decide ((C : Int) ≤ a3) = true := decide_eq_true (hle (by omega))
    clear hb3 hle
    go_wp2_with fail
    refine (zz_st F a' len0 (by8 z0) C HC.out a1 a2 a3 w3 (by rw [HB3.out.tape]; exact HFa.out) HD3.out).mono ?_
    rintro e w4 ⟨hb4, ⟨rfl, hle4⟩ | ⟨⟨v1, v2, v, rfl⟩, herr4⟩⟩
    · have HB4 : Hid (Below w'.heap.size w' w4) := HB3.out.trans (hb4.mono HB3.out.size)
      clear hb4 hle4
      go_wp2
      go_ret
      exact ⟨by simp, HB4.out⟩
    · have HB4 : Hid (Below w'.heap.size w' w4) := HB3.out.trans (hb4.mono HB3.out.size)
      clear hb4 herr4
      go_wp2
      go_ret
      exact ⟨by simp, HB4.out⟩
  · have HB3 : Hid (Below w'.heap.size w' w3) := HB2.out.trans (hb3.mono HB2.out.size)
    have HD3 : Hid (Dat w3 a' len0 (by8 z0)) := HD2.out.below hb3
    have z4 : decide ((C : Int) ≤ a3) = false := decide_eq_false (by have := herr rfl rfl; omega)
    clear hb3 herr
    go_wp2_with fail
    refine (zz_st F a' len0 (by8 z0) C HC.out a1 a2 a3 w3 (by rw [HB3.out.tape]; exact HFa.out) HD3.out).mono ?_
    rintro e w4 ⟨hb4, ⟨rfl, hle4⟩ | ⟨⟨v1, v2, v, rfl⟩, herr4⟩⟩
    · exfalso
      have h8 := hle4 (by omega)
      have h9 := of_decide_eq_false z4
      exact h9 h8
    · have HB4 : Hid (Below w'.heap.size w' w4) := HB3.out.trans (hb4.mono HB3.out.size)
      clear hb4 herr4
      go_wp2
      go_ret
      exact ⟨by simp, HB4.out⟩
end Go.Proofs.Qxb6604368aFmt
