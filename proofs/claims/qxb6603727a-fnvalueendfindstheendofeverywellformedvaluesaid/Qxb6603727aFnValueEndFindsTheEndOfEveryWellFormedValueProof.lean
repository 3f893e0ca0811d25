/-
  The walk's hole filled; the frame is the shell's.
-/
import Derived.Test.Qxb6603727aRows
import Derived.Test.Qxb6603727aJp5
import Derived.WalkKit
import Derived.ProofKit
import Derived.OpenShut
import Derived.ShutString
import Derived.ChangeOld
import Derived.Below
namespace Go.Proofs.Qxb6603727a.fnValueEndFindsTheEndOfEveryWellFormedValue
open Go.ChangeShapes Go.WideShapes Go.ChangeAt Go.RowKit
open Go.ChangeMaps (open_string shut_string)
set_option linter.unusedVariables false

theorem own : ownKnob Try.prog.godebug = none := by kernel_rfl
theorem laidOut : laidOutB Try.prog = true := by kernel_rfl

/-! ### STEP 1: THE WALK -/
theorem zzb_ok (a : Option Addr) (n c : Nat) (i : Int) (w : World) (h : n ≤ 1048576) : Calls Try.prog 14 #[.slice a n c, .int .i64 i] w fun e w' => e = .returned (.bool true) ∧ w' = w := by
  go_enter Try.func14, Try.ntmps14
  go_wp2
  go_ret
  exact ⟨rfl, rfl⟩
theorem zzb_no (a : Option Addr) (n c : Nat) (i : Int) (w : World) (h : ¬ n ≤ 1048576) : Calls Try.prog 14 #[.slice a n c, .int .i64 i] w fun e w' => e = .returned (.bool false) ∧ w' = w := by
  go_enter Try.func14, Try.ntmps14
  go_wp2
  go_ret
  exact ⟨rfl, rfl⟩

theorem walk (a0 : Option Addr) (len0 cap0 : Nat) (z0 : List Int) (a1 : Int) (w : World) (w0 : IsRow .u8 w a0 len0 cap0 z0) (w1 : (Lit.int .i64 a1).wf = true) :
    Calls Try.prog 5 #[.slice a0 len0 cap0, .int .i64 a1] w fun e w' => e = .returned (.bool true) ∧ Below w.heap.size w w' := by
  by_cases hbig : len0 ≤ 1048576
  · by_cases hi : 0 ≤ a1 ∧ a1 < len0
    · obtain ⟨h0, h1⟩ := hi
      obtain ⟨i, rfl⟩ := Int.eq_ofNat_of_zero_le h0
      have h1' : i < len0 := by omega
      have hby := w0.byte
      have H0 : Hid (IsRow .u8 w a0 len0 cap0 z0) := w0
      clear w0 w1
      go_enter Try.func5, Try.ntmps5
      go_wp2_with fail
      refine (zzb_ok _ _ _ _ _ hbig).mono ?_
      rintro e w' ⟨rfl, rfl⟩
      go_wp2_with fail
      refine (clone_any H0.out hbig).mono ?_
      rintro e w1 ⟨⟨a', rfl, hrow⟩, hbel⟩
      have HY : Hid (∀ j, 0 ≤ by8 z0 j ∧ by8 z0 j ≤ 255) := hby
      obtain ⟨b, o, rfl, hc⟩ : ∃ b o, a' = some ⟨b, o, none⟩ ∧ Cells w1 b o len0 (by8 z0) := by
        rcases hrow with h | h
        · omega
        · exact h
      have HB : Hid (Below w'.heap.size w' w1) := hbel
      clear hrow hby H0 hbel
      generalize by8 z0 = d at HY hc
      go_wp2_with fail
      refine (jpValue_any b o len0 len0 d hbig (len0 - i) i (Nat.le_refl _) (by omega) w1 hc).mono ?_
      rintro e w2 ⟨⟨x, ok, rfl, hok⟩, ⟨q, rfl⟩⟩
      have HB2 : Hid (Below w'.heap.size w' (w1.drewN q)) := HB.out.trans ⟨rfl, rfl, rfl, Nat.le_refl _, fun _ _ => rfl⟩
      have HR : Hid (Row (w1.drewN q) (some ⟨b, o, none⟩) len0 d) := .inr ⟨b, o, rfl, hc.drewN q⟩
      cases ok
      · clear hok
        go_wp2
        go_ret
        exact ⟨rfl, HB2.out⟩
      obtain ⟨m, rfl, hval⟩ := hok rfl
      have him : i < m := hval.1
      have hmn : m ≤ len0 := hval.2.1
      have HV : Hid (Pl.Val d len0 i m) := hval
      have hcx := hc i h1'
      clear hok hval HB
      have H17 : ∀ w, Hid (Row w (some ⟨b, o, none⟩) len0 d → Pl.vend d len0 i = m → Calls Try.prog 17 #[.slice (some ⟨b, o, none⟩) len0 len0, .int .i64 i] w fun e w' => e = .returned (.int .i64 (m : Int)) ∧ w' = w) := fun w h1 h2 => by
        rw [← h2]; exact valueEnd_any _ len0 len0 d i w hbig (Nat.le_refl _) hbig (by omega) h1 (fun j _ => HY.out j)
      by_cases h3 : d i = 34 ∨ d i = 123 ∨ d i = 91
      · have HE : Hid (Pl.vend d len0 i = m) := HV.out.vend (fun e1 e2 e3 _ => by omega)
        have H3 : Hid (d i = 34 ∨ d i = 123 ∨ d i = 91) := h3
        clear h3 HV
        rcases H3.out with h | h | h
        all_goals
          rw [h] at hcx
          clear h H3
          go_wp2_with fail
          refine ((H17 _).out HR.out HE.out).mono ?_
          rintro e w4 ⟨rfl, rfl⟩
          go_wp2
          go_ret
          exact ⟨by simp, HB2.out⟩
      · have e1 : (d i != 34) = true := by rw [bne_iff_ne]; omega
        have e2 : (d i != 123) = true := by rw [bne_iff_ne]; omega
        have e3 : (d i != 91) = true := by rw [bne_iff_ne]; omega
        clear h3
        by_cases hlt : m < len0
        · have hcm := hc m hlt
          go_wp2_with fail
          refine (follows_any (d m) _).mono ?_
          rintro e w3 ⟨rfl, rfl⟩
          cases hdel : Pl.del (d m)
          · clear hdel
            go_wp2
            go_ret
            exact ⟨rfl, HB2.out⟩
          · have HE : Hid (Pl.vend d len0 i = m) := HV.out.vend (fun _ _ _ _ => hdel)
            clear hdel HV
            go_wp2_with fail
            refine ((H17 _).out HR.out HE.out).mono ?_
            rintro e w4 ⟨rfl, rfl⟩
            go_wp2
            go_ret
            exact ⟨by simp, HB2.out⟩
        · have HE : Hid (Pl.vend d len0 i = m) := HV.out.vend (fun _ _ _ h => absurd h hlt)
          clear HV
          go_wp2_with fail
          refine ((H17 _).out HR.out HE.out).mono ?_
          rintro e w4 ⟨rfl, rfl⟩
          go_wp2
          go_ret
          exact ⟨by simp, HB2.out⟩
    · clear w0 w1
      by_cases hneg : a1 < 0
      · go_enter Try.func5, Try.ntmps5
        go_wp2_with fail
        refine (zzb_ok _ _ _ _ _ hbig).mono ?_
        rintro e w' ⟨rfl, rfl⟩
        go_wp2
        go_ret
        exact ⟨rfl, Below.refl _ _⟩
      · have hgt : (len0 : Int) ≤ a1 := by omega
        clear hi
        go_enter Try.func5, Try.ntmps5
        go_wp2_with fail
        refine (zzb_ok _ _ _ _ _ hbig).mono ?_
        rintro e w' ⟨rfl, rfl⟩
        go_wp2
        go_ret
        exact ⟨rfl, Below.refl _ _⟩
  · clear w0 w1
    go_enter Try.func5, Try.ntmps5
    go_wp2_with fail
    refine (zzb_no _ _ _ _ _ hbig).mono ?_
    rintro e w' ⟨rfl, rfl⟩
    go_wp2
    go_ret
    exact ⟨rfl, Below.refl _ _⟩


/-! ### THE ROW's STEP: WRITTEN OUT: LEAVE IT -/
set_option maxRecDepth 100000 in
theorem lifted (os : Os) (started : os.Started) (H : Type) (enc : TypeId × Value → H) :
    ReturnsInHanded {} Try.checked os 5 .any (Rows.fnValueEndFindsTheEndOfEveryWellFormedValueSpec.pre6 enc Try.prog Try.f5 Rows.fnValueEndFindsTheEndOfEveryWellFormedValueRow.domain false) (Rows.fnValueEndFindsTheEndOfEveryWellFormedValueSpec.post enc Try.prog Try.f5 false true false false) := by
  refine returnsInHanded_of_change (C := Try.checked) own started (by kernel_rfl) Try.func5
    (ChangeSpec.witness6 (enc := enc) (C := Try.checked) false ⟨#[], #[.slice none 0 0, .int .i64 0], []⟩ 8 (by kernel_rfl) (by kernel_rfl) (by kernel_rfl) (by kernel_rfl)) ?_
  intro W base args ds gs before hval0 hW hcnd _
  have hval : ∀ (j : Nat) t v, Try.f5.params[j]? = some t → args[j]? = some v → Value.okWide Try.prog W .any base t v := hval0
  have hW' := hW
  obtain ⟨p, q, hA0, hV, rfl, hfz, hnd⟩ := hW
  have hA : DataW.TrodAll enc Try.prog W 0 (fun _ => true) true Try.f5.params.toList args.toList ds p := hA0
  rw [Try.params5] at hA hval
  obtain ⟨v0, vs0, d0, ds0, p0, q0, hargs, rfl, rfl, h0, r0⟩ := trodAll_cons hA
  obtain ⟨v1, vs1, d1, ds1, p1, q1, rfl, rfl, rfl, h1, r1⟩ := trodAll_cons r0
  obtain ⟨rfl, rfl, rfl⟩ := trodAll_nil r1
  obtain rfl : args = #[v0, v1] := by cases args; simp_all
  obtain ⟨rfl, rfl⟩ := trodVars_none hV
  obtain ⟨a0, len0, cap0, rfl⟩ := okWide_slice Try.underlying22 (hval 0 22 v0 rfl rfl)
  have k0 := h0
  have lt0 : ∀ x ∈ p0, x.block < W.heap.size := by obtain ⟨m, hm⟩ := k0; exact DataW.trod_lt m _ _ _ hm
  obtain ⟨z0, w0⟩ : ∃ zs, IsRow .u8 W a0 len0 cap0 zs := by
    obtain ⟨fuel, hf⟩ := h0
    rcases open_ints Try.underlying22 Try.underlying5 (by kernel_rfl) hf with ⟨hcs, _⟩ | ⟨x, l, c, zs, hcs, _, hl, hm, hz, _, hcell, hwz⟩
    · simp [Value.cells] at hcs
      obtain ⟨rfl, rfl, rfl⟩ := hcs
      exact ⟨[], .inl ⟨rfl, rfl, rfl, rfl⟩⟩
    · simp [Value.cells] at hcs
      obtain ⟨rfl, rfl, rfl⟩ := hcs
      exact ⟨zs, .inr ⟨_, rfl, hl, hm, by simpa using hz, hcell, hwz⟩⟩
  obtain ⟨a1, rfl, rfl, rfl, w1⟩ := open_int Try.underlying3 (hval 1 3 v1 rfl rfl) h1
  clear hA0 hval0
  refine (walk a0 len0 cap0 z0 a1 W w0 w1).mono fun e W' ⟨he, bel⟩ => ?_
  subst he
  exact ⟨_, rfl, _, _, _, [], _, [], hW', trodAll_mk1 (shut_bool Try.underlying4 _), (trodAll_cons_mk (Below.trod laidOut (by kernel_rfl) (of_decide_eq_true (by kernel_rfl)) k0 bel lt0) (trodAll_cons_mk (shut_int Try.underlying3 w1) trodAll_mk0)), rfl, bel.frame _, fun h => by cases h⟩

theorem over : Rows.fnValueEndFindsTheEndOfEveryWellFormedValueRow.holds Try.pinned (OpenSpec.ofChange Rows.fnValueEndFindsTheEndOfEveryWellFormedValueSpec) :=
  OpenClaim.holds_of_wide 5 Try.f5 rfl rfl rfl rfl rfl rfl rfl ⟨rfl, rfl, rfl, rfl, rfl⟩ rfl rfl rfl rfl rfl (by kernel_rfl) Try.func5 (by kernel_rfl)
    (of_decide_eq_true (by kernel_rfl)) (by unfold Func.isWrapper; first | (rw [if_pos (by decide +kernel)]; kernel_rfl) | (rw [if_neg (by decide +kernel)]; exact ⟨rfl, rfl⟩))
    (fun os started H enc _ => lifted os started H enc)

/-- ████ THE STATEMENT ████ -/
theorem proved : Rows.FnValueEndFindsTheEndOfEveryWellFormedValueSaid := over
#print axioms proved
end Go.Proofs.Qxb6603727a.fnValueEndFindsTheEndOfEveryWellFormedValue
