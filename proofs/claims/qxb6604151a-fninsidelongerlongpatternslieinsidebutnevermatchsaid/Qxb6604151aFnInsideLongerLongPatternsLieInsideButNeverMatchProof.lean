/-
  The walk's hole filled; the frame is the shell's, its end by 'Below'.
-/
import Derived.Test.Qxb6604151aRows
import Derived.Test.Qxb6604151aBody
import Derived.WalkKit
import Derived.ProofKit
import Derived.OpenShut
import Derived.ShutString
import Derived.ChangeOld
import Derived.Below
namespace Go.Proofs.Qxb6604151a.fnInsideLongerLongPatternsLieInsideButNeverMatch
open Go.ChangeShapes Go.WideShapes Go.ChangeAt Go.RowKit
open Go.ChangeMaps (open_string shut_string)
set_option linter.unusedVariables false

theorem own : ownKnob Try.prog.godebug = none := by kernel_rfl

/-! ### STEP 1: THE WALK -/
theorem ret_bool {a b : Bool} (h : a = b) : Ending.returned (.bool a) = .returned (.bool b) := by rw [h]

/-- One byte more of the haystack. -/
theorem ones_d (m k : Nat) (h : hayF m k = 100) : (k + 1) - cntB (hayF m) 100 (k + 1) = k - cntB (hayF m) 100 k := by
  show (k + 1) - (cntB (hayF m) 100 k + if hayF m k = 100 then 1 else 0) = _
  rw [if_pos h]; omega
theorem ones_ab (m k : Nat) (h : hayF m k ≠ 100) : (k + 1) - cntB (hayF m) 100 (k + 1) = k - cntB (hayF m) 100 k + 1 := by
  have := cntB_le (hayF m) 100 k
  show (k + 1) - (cntB (hayF m) 100 k + if hayF m k = 100 then 1 else 0) = _
  rw [if_neg h]; omega

set_option maxHeartbeats 8000000 in
set_option maxRecDepth 100000 in
theorem walk (a0 : Int) (w0 : (Lit.int .i64 a0).wf = true) (w : World) :
    Calls Try.prog 4 #[.int .i64 a0] w fun e w' => e = .returned (.bool true) ∧ Below w.heap.size w w' := by
  by_cases hr : 0 ≤ a0 ∧ a0 ≤ 65536
  · obtain ⟨h0, h1⟩ := hr
    obtain ⟨m, rfl⟩ := Int.eq_ofNat_of_zero_le h0
    have hm : m ≤ 65536 := by omega
    clear w0
    go_enter Try.func4, Try.ntmps4
    go_wp2_with fail
    refine (zzInside_row m w hm).mono ?_
    rintro e w1 ⟨hf, hb, T, pb, g0, c0, g1, c1, b2, b3, cn, rfl, hin, hbel⟩
    have HI : Hid (Inside w1 m hf hb pb g0 c0 g1 c1 b2 b3 cn) := hin
    have HB : Hid (Below w.heap.size w w1) := hbel
    clear hin hbel hm
    have q0 := HI.out.q0
    have q1 := HI.out.q1
    have q2 := HI.out.q2
    have q3 := HI.out.q3
    have r2 := HI.out.r2
    have r3 := HI.out.r3
    have e0 : ((1 : Int) + 2 * (m : Int) + 1 == 0) = false := beq_eq_false_iff_ne.2 (by omega)
    have e1 : ((2 : Int) * (hf : Int) + 1 == 0) = false := beq_eq_false_iff_ne.2 (by omega)
    have HB0 : ∀ q, Hid (Calls Try.prog 6 #[.slice (some ⟨hb, 0, none⟩) 1000000 T, .slice (some ⟨g0, 0, none⟩) (1 + 2 * m + 1) c0, .int .i64 0] (w1.drewN q) fun e w' => e = .returned (.bool true) ∧ Drw (w1.drewN q) w') := fun q =>
      bodyAt_row hb 1000000 T g0 (1 + 2 * m) c0 0 (hayF m) (p0F m) (w1.drewN q) (by omega) (by omega) (fun j hj => by rw [World.cell?_drewN]; exact HI.out.hay j hj) (fun j hj => by rw [World.cell?_drewN]; exact HI.out.r0 j hj) (fun j hj => by
        unfold hayF p0F
        rw [if_pos hj, Nat.zero_add, Nat.mod_eq_of_lt hj])
    have HB1 : ∀ q, Hid (Calls Try.prog 6 #[.slice (some ⟨hb, 0, none⟩) 1000000 T, .slice (some ⟨g1, 0, none⟩) (2 * hf + 1) c1, .int .i64 1] (w1.drewN q) fun e w' => e = .returned (.bool true) ∧ Drw (w1.drewN q) w') := fun q => by
      have hhf := HI.out.half
      exact bodyAt_row hb 1000000 T g1 (2 * hf) c1 1 (hayF m) (p1F hf) (w1.drewN q) (by omega) (by omega) (fun j hj => by rw [World.cell?_drewN]; exact HI.out.hay j hj) (fun j hj => by rw [World.cell?_drewN]; exact HI.out.r1 j hj) (fun j hj => by
        unfold hayF p1F blkF
        rw [if_pos hj, Nat.mod_eq_of_lt (by omega), if_neg (by omega), show 1 + j - 1 = j by omega])
    go_wp2_with fail
    go_quiet (fail)
    go_wp2_with fail
    refine (HB0 _).out.mono ?_
    rintro e w2 ⟨rfl, ⟨d1, rfl⟩⟩
    go_wp2_with fail
    refine (HB1 _).out.mono ?_
    rintro e w2 ⟨rfl, ⟨d2, rfl⟩⟩
    clear HB0 HB1 e0 e1
    have rz : w1.cell? ⟨g0, 1 + 2 * m, none⟩ = some (.int .u8 122) := by
      have := HI.out.r0 (1 + 2 * m) (by omega)
      unfold p0F at this
      rwa [if_neg (by omega)] at this
    have rc : w1.cell? ⟨g1, 2 * hf, none⟩ = some (.int .u8 99) := by
      have := HI.out.r1 (2 * hf) (by omega)
      unfold p1F at this
      rwa [if_neg (by omega)] at this
    have hf1 : (hf : Int) ≤ 65536 := by have := HI.out.half; omega
    go_wp2_with fail
    clear q0 q1 q2 q3 rz rc hf1
    go_loop [12, 13] (fun o i => ∃ k : Nat, k ≤ 1000000 ∧ i = .int .i64 k ∧ o = .int .i64 ((k - cntB (hayF m) 100 k : Nat) : Int)) (fun _ i => mil - (intOf i).toNat)
    case atStart => exact ⟨0, by omega, rfl, rfl⟩
    case round =>
      obtain ⟨k, hk, rfl, rfl⟩ := hrel
      by_cases hlt : k < 1000000
      · have HMIL : Hid (k < mil) := hlt
        have hcx := HI.out.hay k hlt
        have hltI : (k : Int) < 1000000 := by omega
        have ob : k - cntB (hayF m) 100 k ≤ 1000000 := by omega
        clear hlt hk
        by_cases hd : hayF m k = 100
        · have HO : Hid ((k + 1) - cntB (hayF m) 100 (k + 1) = k - cntB (hayF m) 100 k) := ones_d m k hd
          rw [hd] at hcx
          generalize k - cntB (hayF m) 100 k = on at HO ob ⊢
          have obI : (on : Int) ≤ 1000000 := by omega
          clear hd ob
          go_wp2
          go_round
          case rel => exact ⟨k + 1, by omega, by go_num, by rw [HO.out]⟩
          case measure => simp [intOf]; have := HMIL.out; omega
        · have HO : Hid ((k + 1) - cntB (hayF m) 100 (k + 1) = k - cntB (hayF m) 100 k + 1) := ones_ab m k hd
          have hab : hayF m k = 97 ∨ hayF m k = 98 := by have := hayF_cases m k; omega
          generalize k - cntB (hayF m) 100 k = on at HO ob ⊢
          have obI : (on : Int) ≤ 1000000 := by omega
          have HAB : Hid (hayF m k = 97 ∨ hayF m k = 98) := hab
          clear hd ob hab
          rcases HAB.out with h | h
          all_goals
            rw [h] at hcx
            clear h HAB
            go_wp2
            go_round
            case rel => exact ⟨k + 1, by omega, by go_num, by rw [HO.out]; go_num⟩
            case measure => simp [intOf]; have := HMIL.out; omega
      · have hkk : k = 1000000 := by omega
        have HK : Hid (k - cntB (hayF m) 100 k = cn) := by
          have h1 := HI.out.count
          have h2 : k = mil := hkk
          show k - cntB (hayF m) 100 k = cn
          rw [h2]; omega
        rw [HK.out]
        have hge : ¬ (k : Int) < 1000000 := by omega
        clear hk hlt hkk HK
        go_upto_region 25 with fail
        clear hge
        go_wp2
        go_ret
        exact ⟨ret_bool (by simp), HB.out.trans ⟨rfl, rfl, rfl, Nat.le_refl _, fun _ _ => rfl⟩⟩
  · clear w0
    by_cases hneg : a0 < 0
    · go_enter Try.func4, Try.ntmps4
      go_wp2
      go_ret
      exact ⟨rfl, Below.refl _ _⟩
    · have hgt : 65536 < a0 := by omega
      clear hr
      go_enter Try.func4, Try.ntmps4
      go_wp2
      go_ret
      exact ⟨rfl, Below.refl _ _⟩

/-! ### THE ROW's STEP: WRITTEN OUT: LEAVE IT -/
set_option maxRecDepth 100000 in
theorem lifted (os : Os) (started : os.Started) (H : Type) (enc : TypeId × Value → H) :
    ReturnsInHanded {} Try.checked os 4 .any (Rows.fnInsideLongerLongPatternsLieInsideButNeverMatchSpec.pre6 enc Try.prog Try.f4 Rows.fnInsideLongerLongPatternsLieInsideButNeverMatchRow.domain false) (Rows.fnInsideLongerLongPatternsLieInsideButNeverMatchSpec.post enc Try.prog Try.f4 false true false false) := by
  refine returnsInHanded_of_change (C := Try.checked) own started (by kernel_rfl) Try.func4
    (ChangeSpec.witness6 (enc := enc) (C := Try.checked) false ⟨#[], #[.int .i64 0], []⟩ 8 (by kernel_rfl) (by kernel_rfl) (by kernel_rfl) (by kernel_rfl)) ?_
  intro W base args ds gs before hval0 hW hcnd _
  have hval : ∀ (j : Nat) t v, Try.f4.params[j]? = some t → args[j]? = some v → Value.okWide Try.prog W .any base t v := hval0
  have hW' := hW
  obtain ⟨p, q, hA0, hV, rfl, hfz, hnd⟩ := hW
  have hA : DataW.TrodAll enc Try.prog W 0 (fun _ => true) true Try.f4.params.toList args.toList ds p := hA0
  rw [Try.params4] at hA hval
  obtain ⟨v0, vs0, d0, ds0, p0, q0, hargs, rfl, rfl, h0, r0⟩ := trodAll_cons hA
  obtain ⟨rfl, rfl, rfl⟩ := trodAll_nil r0
  obtain rfl : args = #[v0] := by cases args; simp_all
  obtain ⟨rfl, rfl⟩ := trodVars_none hV
  obtain ⟨a0, rfl, rfl, rfl, w0⟩ := open_int Try.underlying3 (hval 0 3 v0 rfl rfl) h0
  clear hA0 hval0
  simp only [List.append_nil] at hW'
  refine (walk a0 w0 W).mono fun e W' ⟨he, bel⟩ => ?_
  subst he
  exact ⟨_, rfl, _, _, _, [], _, [], hW', trodAll_mk1 (shut_bool Try.underlying4 _), (trodAll_cons_mk (shut_int Try.underlying3 w0) trodAll_mk0), rfl, bel.frame _, fun h => by cases h⟩

theorem over : Rows.fnInsideLongerLongPatternsLieInsideButNeverMatchRow.holds Try.pinned (OpenSpec.ofChange Rows.fnInsideLongerLongPatternsLieInsideButNeverMatchSpec) :=
  OpenClaim.holds_of_wide 4 Try.f4 rfl rfl rfl rfl rfl rfl rfl ⟨rfl, rfl, rfl, rfl, rfl⟩ rfl rfl rfl rfl rfl (by kernel_rfl) Try.func4 (by kernel_rfl)
    (of_decide_eq_true (by kernel_rfl)) (by unfold Func.isWrapper; first | (rw [if_pos (by decide +kernel)]; kernel_rfl) | (rw [if_neg (by decide +kernel)]; exact ⟨rfl, rfl⟩))
    (fun os started H enc _ => lifted os started H enc)

/-- ████ THE STATEMENT ████ -/
theorem proved : Rows.FnInsideLongerLongPatternsLieInsideButNeverMatchSaid :=
  over
#print axioms proved
end Go.Proofs.Qxb6604151a.fnInsideLongerLongPatternsLieInsideButNeverMatch
