/-
  The walk's hole filled; the frame is the shell's, its end by 'Below'.
-/
import Derived.Test.Qxb6604151aRows
import Derived.Test.Qxb6604151aHay
import Derived.WalkKit
import Derived.ProofKit
import Derived.OpenShut
import Derived.ShutString
import Derived.ChangeOld
import Derived.Below
namespace Go.Proofs.Qxb6604151a.fnInsideLongerExact
open Go.ChangeShapes Go.WideShapes Go.ChangeAt Go.RowKit
open Go.ChangeMaps (open_string shut_string)
set_option linter.unusedVariables false

theorem own : ownKnob Try.prog.godebug = none := by kernel_rfl

/-! ### STEP 1: THE WALK -/
theorem ret_bool {a b : Bool} (h : a = b) : Ending.returned (.bool a) = .returned (.bool b) := by rw [h]

set_option maxHeartbeats 8000000 in
set_option maxRecDepth 100000 in
theorem walk (a0 : Int) (w0 : (Lit.int .i64 a0).wf = true) (w : World) :
    Calls Try.prog 3 #[.int .i64 a0] w fun e w' => e = .returned (.bool true) ∧ Below w.heap.size w w' := by
  by_cases hr : 0 ≤ a0 ∧ a0 ≤ 65536
  · obtain ⟨h0, h1⟩ := hr
    obtain ⟨m, rfl⟩ := Int.eq_ofNat_of_zero_le h0
    have hm : m ≤ 65536 := by omega
    clear w0
    go_enter Try.func3, Try.ntmps3
    go_wp2_with fail
    refine (zzInside_row m w hm).mono ?_
    rintro e w1 ⟨hf, hb, T, pb, g0, c0, g1, c1, b2, b3, cn, rfl, hin, hbel⟩
    have HI : Hid (Inside w1 m hf hb pb g0 c0 g1 c1 b2 b3 cn) := hin
    have HB : Hid (Below w.heap.size w w1) := hbel
    clear hin hbel
    go_wp2_with fail
    go_loop [7, 8] (fun r i => ∃ k : Nat, k ≤ 1000000 ∧ i = .int .i64 k ∧ r = .int .i64 ((k % (1 + 2 * m) : Nat) : Int)) (fun _ i => mil - (intOf i).toNat)
    case atStart => exact ⟨0, by omega, rfl, by rw [Nat.zero_mod]; rfl⟩
    case round =>
      obtain ⟨k, hk, rfl, rfl⟩ := hrel
      by_cases hlt : k < 1000000
      · have HMIL : Hid (k < mil) := hlt
        have hcx := HI.out.hay k hlt
        have hltI : (k : Int) < 1000000 := by omega
        clear hlt hk
        have hnx := mod_next k (1 + 2 * m) (by omega)
        have hrl := Nat.mod_lt k (show 0 < 1 + 2 * m by omega)
        unfold hayF at hcx
        generalize k % (1 + 2 * m) = r at hcx hnx hrl ⊢
        have HN : Hid ((k + 1) % (1 + 2 * m) = if r + 1 = 1 + 2 * m then 0 else r + 1) := hnx
        clear hnx
        by_cases hr0 : r = 0
        · skip
          rw [hr0, blkF_zero] at hcx
          have hrb : ((r : Int) == 0) = true := beq_iff_eq.2 (by omega)
          clear hr0
          by_cases hp : r + 1 = 1 + 2 * m
          · have hpb : ((r : Int) + 1 == 2 * (m : Int) + 1) = true := beq_iff_eq.2 (by omega)
            have HM : Hid ((k + 1) % (1 + 2 * m) = 0) := by show (k + 1) % (1 + 2 * m) = 0; rw [HN.out, if_pos hp]
            clear HN hp
            go_wp2
            go_round
            case rel => exact ⟨k + 1, by omega, by go_num, by rw [HM.out]; rfl⟩
            case measure => simp [intOf]; have := HMIL.out; omega
          · have hpb : ((r : Int) + 1 == 2 * (m : Int) + 1) = false := beq_eq_false_iff_ne.2 (by omega)
            have HM : Hid ((k + 1) % (1 + 2 * m) = r + 1) := by show (k + 1) % (1 + 2 * m) = r + 1; rw [HN.out, if_neg hp]
            clear HN hp
            go_wp2
            go_round
            case rel => exact ⟨k + 1, by omega, by go_num, by rw [HM.out]; go_num⟩
            case measure => simp [intOf]; have := HMIL.out; omega
        · by_cases ho : r % 2 = 1
          · skip
            rw [blkF_odd r ho] at hcx
            have hrb : ((r : Int) == 0) = false := beq_eq_false_iff_ne.2 (by omega)
            have hob : ((r : Int) % 2 == 1) = true := beq_iff_eq.2 (by omega)
            clear ho hr0
            by_cases hp : r + 1 = 1 + 2 * m
            · have hpb : ((r : Int) + 1 == 2 * (m : Int) + 1) = true := beq_iff_eq.2 (by omega)
              have HM : Hid ((k + 1) % (1 + 2 * m) = 0) := by show (k + 1) % (1 + 2 * m) = 0; rw [HN.out, if_pos hp]
              clear HN hp
              go_wp2
              go_round
              case rel => exact ⟨k + 1, by omega, by go_num, by rw [HM.out]; rfl⟩
              case measure => simp [intOf]; have := HMIL.out; omega
            · have hpb : ((r : Int) + 1 == 2 * (m : Int) + 1) = false := beq_eq_false_iff_ne.2 (by omega)
              have HM : Hid ((k + 1) % (1 + 2 * m) = r + 1) := by show (k + 1) % (1 + 2 * m) = r + 1; rw [HN.out, if_neg hp]
              clear HN hp
              go_wp2
              go_round
              case rel => exact ⟨k + 1, by omega, by go_num, by rw [HM.out]; go_num⟩
              case measure => simp [intOf]; have := HMIL.out; omega
          · skip
            rw [blkF_even r hr0 (by omega)] at hcx
            have hrb : ((r : Int) == 0) = false := beq_eq_false_iff_ne.2 (by omega)
            have hob : ((r : Int) % 2 == 1) = false := beq_eq_false_iff_ne.2 (by omega)
            clear ho hr0
            by_cases hp : r + 1 = 1 + 2 * m
            · have hpb : ((r : Int) + 1 == 2 * (m : Int) + 1) = true := beq_iff_eq.2 (by omega)
              have HM : Hid ((k + 1) % (1 + 2 * m) = 0) := by show (k + 1) % (1 + 2 * m) = 0; rw [HN.out, if_pos hp]
              clear HN hp
              go_wp2
              go_round
              case rel => exact ⟨k + 1, by omega, by go_num, by rw [HM.out]; rfl⟩
              case measure => simp [intOf]; have := HMIL.out; omega
            · have hpb : ((r : Int) + 1 == 2 * (m : Int) + 1) = false := beq_eq_false_iff_ne.2 (by omega)
              have HM : Hid ((k + 1) % (1 + 2 * m) = r + 1) := by show (k + 1) % (1 + 2 * m) = r + 1; rw [HN.out, if_neg hp]
              clear HN hp
              go_wp2
              go_round
              case rel => exact ⟨k + 1, by omega, by go_num, by rw [HM.out]; go_num⟩
              case measure => simp [intOf]; have := HMIL.out; omega
      · have hge : ¬ (k : Int) < 1000000 := by omega
        clear hk hlt
        go_upto_region 22 with fail
        clear hge hm
        have q0 := HI.out.q0
        have c00 : w1.cell? ⟨g0, 0, none⟩ = some (.int .u8 100) := by
          have := HI.out.r0 0 (by omega)
          unfold p0F at this
          rw [if_pos (by omega)] at this
          exact this
        have c01 : w1.cell? ⟨g0, 2 * m + 1, none⟩ = some (.int .u8 122) := by
          have := HI.out.r0 (2 * m + 1) (by omega)
          unfold p0F at this
          rwa [if_neg (by omega)] at this
        have bl : ((1 + 2 * (m : Int) + 1) != 2 * (m : Int) + 2) = false := by rw [bne_eq_false_iff_eq]; omega
        go_wp2_with fail
        clear q0 c00 c01 bl
        go_loop [11] (fun v => ∃ j : Nat, 1 ≤ j ∧ j ≤ 2 * m + 1 ∧ v = .int .i64 j) (fun v => 2 * m + 1 - (intOf v).toNat)
        case atStart => exact ⟨1, by omega, by omega, rfl⟩
        case round =>
          obtain ⟨j, hj1, hj2, rfl⟩ := hrel
          by_cases hjl : j ≤ 2 * m
          · have hcj := HI.out.r0 j (by omega)
            unfold p0F at hcj
            rw [if_pos (by omega)] at hcj
            by_cases ho : j % 2 = 1
            · rw [blkF_odd j ho] at hcj
              have o1 : ((j : Int) % 2 == 1) = true := beq_iff_eq.2 (by omega)
              have o0 : ((j : Int) % 2 == 0) = false := beq_eq_false_iff_ne.2 (by omega)
              clear ho
              go_wp2
              go_round
              case rel => exact ⟨j + 1, by omega, by omega, by go_num⟩
              case measure => simp [intOf]; omega
            · rw [blkF_even j (by omega) (by omega)] at hcj
              have o1 : ((j : Int) % 2 == 1) = false := beq_eq_false_iff_ne.2 (by omega)
              have o0 : ((j : Int) % 2 == 0) = true := beq_iff_eq.2 (by omega)
              clear ho
              go_wp2
              go_round
              case rel => exact ⟨j + 1, by omega, by omega, by go_num⟩
              case measure => simp [intOf]; omega
          · have hhf := HI.out.half
            have hhI : (m : Int) / 2 = (hf : Int) := by omega
            have hf0 : (0 : Int) ≤ (hf : Int) := by omega
            have hf1 : (hf : Int) ≤ 65536 := by omega
            clear hhf
            have q1 := HI.out.q1
            have c11 : w1.cell? ⟨g1, 2 * hf, none⟩ = some (.int .u8 99) := by
              have := HI.out.r1 (2 * hf) (by omega)
              unfold p1F at this
              rwa [if_neg (by omega)] at this
            go_wp2_with fail
            clear q1 c11 hhI hjl hj1 hj2
            go_loop [14] (fun v => ∃ j : Nat, j ≤ 2 * hf ∧ v = .int .i64 j) (fun v => 2 * hf - (intOf v).toNat)
            case atStart => exact ⟨0, by omega, rfl⟩
            case round =>
              obtain ⟨j2, hj2, rfl⟩ := hrel
              by_cases hjl : j2 < 2 * hf
              · have hcj := HI.out.r1 j2 (by omega)
                unfold p1F at hcj
                rw [if_pos hjl] at hcj
                by_cases ho : j2 % 2 = 1
                · rw [abF_odd j2 ho] at hcj
                  have o1 : ((j2 : Int) % 2 == 1) = true := beq_iff_eq.2 (by omega)
                  have o0 : ((j2 : Int) % 2 == 0) = false := beq_eq_false_iff_ne.2 (by omega)
                  clear ho
                  go_wp2
                  go_round
                  case rel => exact ⟨j2 + 1, by omega, by go_num⟩
                  case measure => simp [intOf]; omega
                · rw [abF_even j2 (by omega)] at hcj
                  have o1 : ((j2 : Int) % 2 == 1) = false := beq_eq_false_iff_ne.2 (by omega)
                  have o0 : ((j2 : Int) % 2 == 0) = true := beq_iff_eq.2 (by omega)
                  clear ho
                  go_wp2
                  go_round
                  case rel => exact ⟨j2 + 1, by omega, by go_num⟩
                  case measure => simp [intOf]; omega
              · have q2 := HI.out.q2
                have q3 := HI.out.q3
                have r2 := HI.out.r2
                have r3 := HI.out.r3
                go_upto_region 45 with fail
                clear hjl hj2 hf0 hf1
                go_wp2
                go_ret
                exact ⟨ret_bool (cnt_want m cn HI.out.count), HB.out⟩
  · clear w0
    by_cases hneg : a0 < 0
    · go_enter Try.func3, Try.ntmps3
      go_wp2
      go_ret
      exact ⟨rfl, Below.refl _ _⟩
    · have hgt : 65536 < a0 := by omega
      clear hr
      go_enter Try.func3, Try.ntmps3
      go_wp2
      go_ret
      exact ⟨rfl, Below.refl _ _⟩

/-! ### THE ROW's STEP: WRITTEN OUT: LEAVE IT -/
set_option maxRecDepth 100000 in
theorem lifted (os : Os) (started : os.Started) (H : Type) (enc : TypeId × Value → H) :
    ReturnsInHanded {} Try.checked os 3 .any (Rows.fnInsideLongerExactSpec.pre6 enc Try.prog Try.f3 Rows.fnInsideLongerExactRow.domain false) (Rows.fnInsideLongerExactSpec.post enc Try.prog Try.f3 false true false false) := by
  refine returnsInHanded_of_change (C := Try.checked) own started (by kernel_rfl) Try.func3
    (ChangeSpec.witness6 (enc := enc) (C := Try.checked) false ⟨#[], #[.int .i64 0], []⟩ 8 (by kernel_rfl) (by kernel_rfl) (by kernel_rfl) (by kernel_rfl)) ?_
  intro W base args ds gs before hval0 hW hcnd _
  have hval : ∀ (j : Nat) t v, Try.f3.params[j]? = some t → args[j]? = some v → Value.okWide Try.prog W .any base t v := hval0
  have hW' := hW
  obtain ⟨p, q, hA0, hV, rfl, hfz, hnd⟩ := hW
  have hA : DataW.TrodAll enc Try.prog W 0 (fun _ => true) true Try.f3.params.toList args.toList ds p := hA0
  rw [Try.params3] at hA hval
  obtain ⟨v0, vs0, d0, ds0, p0, q0, hargs, rfl, rfl, h0, r0⟩ := trodAll_cons hA
  obtain ⟨rfl, rfl, rfl⟩ := trodAll_nil r0
  obtain rfl : args = #[v0] := by cases args; simp_all
  obtain ⟨rfl, rfl⟩ := trodVars_none hV
  obtain ⟨a0, rfl, rfl, rfl, w0⟩ := open_int Try.underlying3 (hval 0 3 v0 rfl rfl) h0
  clear hA0 hval0
  simp only [List.append_nil] at hW'
  refine (walk a0 w0 W).mono fun e W' ⟨he, bel⟩ => ?_
  subst he
  exact ⟨_, rfl, _, _, _, [], _, [], hW', trodAll_mk1 (shut_bool Try.underlying4 _), (trodAll_cons_mk (shut_int Try.underlying3 w0) trodAll_mk0), rfl, bel.frame _, fun h => by cases h⟩

theorem over : Rows.fnInsideLongerExactRow.holds Try.pinned (OpenSpec.ofChange Rows.fnInsideLongerExactSpec) :=
  OpenClaim.holds_of_wide 3 Try.f3 rfl rfl rfl rfl rfl rfl rfl ⟨rfl, rfl, rfl, rfl, rfl⟩ rfl rfl rfl rfl rfl (by kernel_rfl) Try.func3 (by kernel_rfl)
    (of_decide_eq_true (by kernel_rfl)) (by unfold Func.isWrapper; first | (rw [if_pos (by decide +kernel)]; kernel_rfl) | (rw [if_neg (by decide +kernel)]; exact ⟨rfl, rfl⟩))
    (fun os started H enc _ => lifted os started H enc)

/-- ████ THE STATEMENT ████ -/
theorem proved : Rows.FnInsideLongerExactSaid :=
  over
#print axioms proved
end Go.Proofs.Qxb6604151a.fnInsideLongerExact
