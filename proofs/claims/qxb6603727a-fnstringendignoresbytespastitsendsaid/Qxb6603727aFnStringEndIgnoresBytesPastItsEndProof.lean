/-
  The walk's hole filled; the frame is the shell's.
-/
import Derived.Test.Qxb6603727aRows
import Derived.Test.Qxb6603727aStr
import Derived.WalkKit
import Derived.ProofKit
import Derived.OpenShut
import Derived.ShutString
import Derived.ChangeOld
import Derived.Below
namespace Go.Proofs.Qxb6603727a.fnStringEndIgnoresBytesPastItsEnd
open Go.ChangeShapes Go.WideShapes Go.ChangeAt Go.RowKit
open Go.ChangeMaps (open_string shut_string)
set_option linter.unusedVariables false

theorem own : ownKnob Try.prog.godebug = none := by kernel_rfl
theorem laidOut : laidOutB Try.prog = true := by kernel_rfl

/-! ### STEP 1: THE WALK -/
theorem zzb_ok (a a2 : Option Addr) (n c n2 c2 : Nat) (i : Int) (w : World) (h : n + n2 ≤ 1048576) : Calls Try.prog 13 #[.slice a n c, .int .i64 i, .slice a2 n2 c2] w fun e w' => e = .returned (.bool true) ∧ w' = w := by
  go_enter Try.func13, Try.ntmps13
  go_wp2
  go_ret
  exact ⟨rfl, rfl⟩
theorem zzb_no (a a2 : Option Addr) (n c n2 c2 : Nat) (i : Int) (w : World) (h : ¬ n + n2 ≤ 1048576) (hn : n ≤ 9223372036854775807) (hn2 : n2 ≤ 9223372036854775807) : Calls Try.prog 13 #[.slice a n c, .int .i64 i, .slice a2 n2 c2] w fun e w' => e = .returned (.bool false) ∧ w' = w := by
  by_cases h1 : n ≤ 1048576
  · by_cases h2 : n2 ≤ 1048576
    · go_enter Try.func13, Try.ntmps13
      go_wp2
      go_ret
      exact ⟨rfl, rfl⟩
    · clear h
      go_enter Try.func13, Try.ntmps13
      go_wp2
      go_ret
      exact ⟨rfl, rfl⟩
  · clear h
    go_enter Try.func13, Try.ntmps13
    go_wp2
    go_ret
    exact ⟨rfl, rfl⟩

theorem _root_.Go.Proofs.Qxb6603727a.IsRow.below {w w' : World} {a : Option Addr} {n c : Nat} {zs : List Int} (h : IsRow .u8 w a n c zs) (hb : Below w.heap.size w w') : IsRow .u8 w' a n c zs := by
  rcases h with h | ⟨x, h1, h2, h3, h4, h5, h6⟩
  · exact .inl h
  · exact .inr ⟨x, h1, h2, h3, h4, fun i hi => (hb.cell (cell_lt (h5 i hi))).trans (h5 i hi), h6⟩
theorem _root_.Go.Proofs.Qxb6603727a.IsRow.len {w : World} {a : Option Addr} {n c : Nat} {zs : List Int} (h : IsRow .u8 w a n c zs) : n ≤ 9223372036854775807 := by
  rcases h with ⟨_, h, _⟩ | ⟨x, h1, h2, h3, _⟩
  · omega
  · unfold maxLen at h3; omega

/-- What the calls come to: the end that is found. -/
theorem end_facts (d : Nat → Int) (n i : Nat) (hi : i ≤ n) : i ≤ Pl.scan d n (i + 1) ∧ Pl.scan d n (i + 1) ≤ n ∧ (Pl.scan d n (i + 1) = i → i = n) := by
  have h1 := Pl.scan_le d n (i + 1)
  by_cases h : i < n
  · have h2 := Pl.scan_lo d n (i + 1) (by omega)
    exact ⟨by omega, h1, fun e => by omega⟩
  · rw [Pl.scan_ge d n (i + 1) (by omega)]
    exact ⟨hi, Nat.le_refl _, fun e => e.symm⟩

theorem walk (a0 : Option Addr) (len0 cap0 : Nat) (z0 : List Int) (a1 : Int) (a2 : Option Addr) (len2 cap2 : Nat) (z2 : List Int) (w : World) (w0 : IsRow .u8 w a0 len0 cap0 z0) (w1 : (Lit.int .i64 a1).wf = true) (w2 : IsRow .u8 w a2 len2 cap2 z2) :
    Calls Try.prog 4 #[.slice a0 len0 cap0, .int .i64 a1, .slice a2 len2 cap2] w fun e w' => e = .returned (.bool true) ∧ Below w.heap.size w w' := by
  have hl0 := w0.len
  have hl2 := w2.len
  by_cases hbig : len0 + len2 ≤ 1048576
  · by_cases hhalf : len0 ≤ 524288 ∧ len2 ≤ 524288
    · obtain ⟨hh0, hh2⟩ := hhalf
      by_cases hi : 0 ≤ a1 ∧ a1 ≤ len0
      · obtain ⟨h0, h1⟩ := hi
        obtain ⟨i, rfl⟩ := Int.eq_ofNat_of_zero_le h0
        have h1' : i ≤ len0 := by omega
        have hby := w0.byte
        have hby2 := w2.byte
        have HY : Hid (∀ j, 0 ≤ by8 z0 j ∧ by8 z0 j ≤ 255) := hby
        have HY2 : Hid (∀ j, 0 ≤ by8 z2 j ∧ by8 z2 j ≤ 255) := hby2
        have H0 : Hid (IsRow .u8 w a0 len0 cap0 z0) := w0
        have H2 : Hid (IsRow .u8 w a2 len2 cap2 z2) := w2
        clear w0 w1 w2 hby hby2 hl0 hl2
        go_enter Try.func4, Try.ntmps4
        go_wp2_with fail
        refine (zzb_ok _ _ _ _ _ _ _ _ hbig).mono ?_
        rintro e w' ⟨rfl, rfl⟩
        go_wp2_with fail
        refine (clone_any H0.out (by omega)).mono ?_
        rintro e w1 ⟨⟨a', rfl, hrow⟩, hbel⟩
        have HR : Hid (Row w1 a' len0 (by8 z0)) := hrow
        have HB : Hid (Below w'.heap.size w' w1) := hbel
        clear hrow H0 hbel
        go_wp2_with fail
        refine (clone_any (H2.out.below HB.out) (by omega)).mono ?_
        rintro e w2 ⟨⟨a'', rfl, hrow2⟩, hbel2⟩
        have HR1 : Hid (Row w2 a' len0 (by8 z0)) := HR.out.below hbel2
        have HR2 : Hid (Row w2 a'' len2 (by8 z2)) := hrow2
        have HB2 : Hid (Below w'.heap.size w' w2) := HB.out.trans (hbel2.mono HB.out.size)
        clear HR HB hrow2 hbel2 H2
        go_wp2_with fail
        refine (zzStringEnd_any a' len0 len0 (by8 z0) i w2 (by omega) (Nat.le_refl _) (by omega) h1' HR1.out (fun j _ => HY.out j)).mono ?_
        rintro e w3 ⟨rfl, rfl⟩
        obtain ⟨e1, e2, e3⟩ := end_facts (by8 z0) len0 i h1'
        obtain ⟨r, hr⟩ : ∃ r, r = Pl.scan (by8 z0) len0 (i + 1) := ⟨_, rfl⟩
        rw [← hr] at e1 e2 e3 ⊢
        have HE : Hid (r = Pl.scan (by8 z0) len0 (i + 1)) := hr
        have HE3 : Hid (r = i → i = len0) := e3
        have HA : Hid (Pl.scan (by8 z0) r (i + 1) = r) := by rw [hr]; exact Pl.scan_again (by8 z0) len0 (i + 1)
        clear hr e3
        by_cases hri : r = i
        · have hil : i = len0 := HE3.out hri
          subst hri
          subst hil
          clear HE HE3 HY2 HR2
          go_wp2_with fail
          refine (zzStringEnd_any a' r r (by8 z0) r w3 (by omega) (Nat.le_refl _) (by omega) (Nat.le_refl _) HR1.out (fun j _ => HY.out j)).mono ?_
          rintro e w4 ⟨rfl, rfl⟩
          rw [HA.out]
          clear HA HR1 HY
          go_wp2
          go_ret
          exact ⟨rfl, HB2.out⟩
        · have hne : ((r : Int) == (i : Int)) = false := beq_eq_false_iff_ne.2 (by omega)
          go_wp2_with fail
          refine (zzStringEnd_any a' r len0 (by8 z0) i w3 (by omega) e2 (by omega) e1 (HR1.out.cut e2) (fun j _ => HY.out j)).mono ?_
          rintro e w4 ⟨rfl, rfl⟩
          rw [HA.out]
          clear HA HE3
          by_cases hrl : r = len0
          · have hbe : ((r : Int) == (len0 : Int)) = true := beq_iff_eq.2 (by omega)
            clear hrl
            go_wp2
            go_ret
            exact ⟨rfl, HB2.out⟩
          · have hbe : ((r : Int) == (len0 : Int)) = false := beq_eq_false_iff_ne.2 (by omega)
            have hrlt : r < len0 := by omega
            clear hrl
            obtain ⟨b, o, rfl, hc⟩ : ∃ b o, a' = some ⟨b, o, none⟩ ∧ ∀ j, j < len0 → w4.cell? ⟨b, o + j, none⟩ = some (.int .u8 (by8 z0 j)) := by
              rcases HR1.out with h | h
              · omega
              · exact h
            have hbb : b < w4.heap.size := cell_lt (hc 0 (by omega))
            have HC : Hid (∀ j, j < len0 → w4.cell? ⟨b, o + j, none⟩ = some (.int .u8 (by8 z0 j))) := hc
            clear hc HR1
            obtain ⟨i0, hi, hz0, hz1, hz2⟩ := info_parts Try.info5
            go_wp2_with (first | (at_make; refine wpList_make_full _ rfl _ _ 22 rfl w4.heap.size 5 i0 (.int .u8 0) 1 Try.underlying22 hi hz0 hz1 _ _ _ _ (r + len2) rfl rfl (by omega) (by omega) (by rw [hz2]; omega) (by unfold maxLen; omega) (Nat.le_refl _) ?_; intro w5 hown hgrow) | fail)
            have ho : Own w5 w4.heap.size (r + len2) (fun _ => 0) := made_zero hown
            have hbel : Below w4.heap.size w4 w5 := (Below.refl _ _).grown hgrow (Nat.le_refl _) (fun k e => by cases e)
            clear hown hgrow hi hz0 hz1 hz2
            go_loopw [9] (fun i wr => ∃ (k : Nat) (f : Nat → Int), k ≤ r ∧ i = .int .i64 k ∧ Own wr w4.heap.size (r + len2) f ∧ (∀ j, j < k → f j = by8 z0 j) ∧ Below w4.heap.size w4 wr ∧ ∀ j, 0 ≤ f j ∧ f j ≤ 255) (fun i _ => r - (intOf i).toNat)
            case atStart => exact ⟨0, _, Nat.zero_le _, rfl, ho, fun j hj => by omega, hbel, fun j => by simp⟩
            case round =>
              clear ho hbel
              obtain ⟨k, f, hk, rfl, ho, hf, hbel, hfb⟩ := hrel
              by_cases hlt : k < r
              · have hcx : wr.cell? ⟨b, o + k, none⟩ = some (.int .u8 (by8 z0 k)) := (hbel.cell (by exact hbb)).trans (HC.out k (by omega))
                have hox := ho.cell k (by omega)
                have hfx := ho.free k
                have R := clone_step ho hf hbel
                have RB : Hid (∀ j, 0 ≤ (fun i => if i = k then by8 z0 k else f i) j ∧ (fun i => if i = k then by8 z0 k else f i) j ≤ 255) := fun j => by
                  by_cases e : j = k
                  · simp only [if_pos e]; exact HY.out k
                  · simp only [if_neg e]; exact hfb j
                have HRR : Hid (_ ∧ _ ∧ _) := R
                clear ho hf hbel hfb R
                go_wp2
                go_roundw
                case rel => exact ⟨k + 1, _, by omega, by go_num, HRR.out.1, HRR.out.2.1, HRR.out.2.2, RB.out⟩
                case measure => simp [intOf]; omega
              · have HK : Hid (k = r) := by show k = r; omega
                have HF : Hid (∀ j, j < k → f j = by8 z0 j) := hf
                have HFB : Hid (∀ j, 0 ≤ f j ∧ f j ≤ 255) := hfb
                have HBW : Hid (Below w4.heap.size w4 wr) := hbel
                have HO : Hid (Own wr w4.heap.size (r + len2) f) := ho
                clear hf hfb hbel ho
                have HF2 : Hid (∀ j, j < r → f j = by8 z0 j) := by rw [← HK.out]; exact HF.out
                clear HF HK HC hbb
                go_wp2
                clear hlt hk
                go_loopw [10] (fun i wr => ∃ (k : Nat) (f : Nat → Int), k ≤ len2 ∧ i = .int .i64 k ∧ Own wr w4.heap.size (r + len2) f ∧ (∀ j, j < r → f j = by8 z0 j) ∧ Below w4.heap.size w4 wr ∧ ∀ j, 0 ≤ f j ∧ f j ≤ 255) (fun i _ => len2 - (intOf i).toNat)
                case atStart => exact ⟨0, f, Nat.zero_le _, rfl, HO.out, HF2.out, HBW.out, HFB.out⟩
                case round =>
                  clear HO HF2 HBW HFB
                  obtain ⟨k2, f2, hk2, rfl, ho, hf, hbel, hfb⟩ := hrel
                  by_cases hlt2 : k2 < len2
                  · obtain ⟨b2, o2, rfl, hc2⟩ : ∃ b o, a'' = some ⟨b, o, none⟩ ∧ ∀ j, j < len2 → w4.cell? ⟨b, o + j, none⟩ = some (.int .u8 (by8 z2 j)) := by
                      rcases HR2.out with h | h
                      · omega
                      · exact h
                    have hcx : wr.cell? ⟨b2, o2 + k2, none⟩ = some (.int .u8 (by8 z2 k2)) := (hbel.cell (by exact cell_lt (hc2 k2 hlt2))).trans (hc2 k2 hlt2)
                    have hox := ho.cell (r + k2) (by omega)
                    have hfx := ho.free (r + k2)
                    have R1 := ho.store (r + k2) (by8 z2 k2)
                    have HR1 : Hid (Own (wr.setCell ⟨w4.heap.size, r + k2, none⟩ (.int .u8 (by8 z2 k2))) w4.heap.size (r + len2) (fun i => if i = r + k2 then by8 z2 k2 else f2 i)) := R1
                    have HR3 : Hid (Below w4.heap.size w4 (wr.setCell ⟨w4.heap.size, r + k2, none⟩ (.int .u8 (by8 z2 k2)))) := hbel.setCell (Nat.le_refl _) _
                    have RF : Hid (∀ j, j < r → (fun i => if i = r + k2 then by8 z2 k2 else f2 i) j = by8 z0 j) := fun j hj => by
                      simp only [if_neg (by omega : ¬ j = r + k2)]; exact hf j hj
                    have RB : Hid (∀ j, 0 ≤ (fun i => if i = r + k2 then by8 z2 k2 else f2 i) j ∧ (fun i => if i = r + k2 then by8 z2 k2 else f2 i) j ≤ 255) := fun j => by
                      by_cases e : j = r + k2
                      · simp only [if_pos e]; exact HY2.out k2
                      · simp only [if_neg e]; exact hfb j
                    clear ho hf hbel hfb R1 hc2
                    go_wp2
                    go_roundw
                    case rel => exact ⟨k2 + 1, _, by omega, by go_num, HR1.out, RF.out, HR3.out, RB.out⟩
                    case measure => simp [intOf]; omega
                  · have hcut : Pl.scan f2 (r + len2) (i + 1) = r := by
                      rw [HE.out]
                      refine Pl.scan_cut (by8 z0) f2 len0 _ (i + 1) (by rw [← HE.out]; exact hrlt) (fun j hj => hf j (by rw [HE.out]; exact hj)) (by omega)
                    have HCUT : Hid (Pl.scan f2 (r + len2) (i + 1) = r) := hcut
                    have HBB : Hid (Below w'.heap.size w' wr) := HB2.out.trans (hbel.mono HB2.out.size)
                    have HRow : Hid (Row wr (some ⟨w4.heap.size, 0, none⟩) (r + len2) f2) := .inr ⟨w4.heap.size, 0, rfl, fun j hj => by rw [Nat.zero_add]; exact ho.cell j hj⟩
                    have HFB : Hid (∀ j, 0 ≤ f2 j ∧ f2 j ≤ 255) := hfb
                    clear hcut ho hf hbel hfb
                    go_wp2_with fail
                    refine (zzStringEnd_any _ (r + len2) (r + len2) f2 i wr (by omega) (Nat.le_refl _) (by omega) (by omega) HRow.out (fun j _ => HFB.out j)).mono ?_
                    rintro e w6 ⟨rfl, rfl⟩
                    rw [HCUT.out]
                    clear HCUT HRow HFB
                    go_wp2
                    go_ret
                    exact ⟨by simp, HBB.out⟩
      · clear w0 w1 w2
        by_cases hneg : a1 < 0
        · go_enter Try.func4, Try.ntmps4
          go_wp2_with fail
          refine (zzb_ok _ _ _ _ _ _ _ _ hbig).mono ?_
          rintro e w' ⟨rfl, rfl⟩
          go_wp2
          go_ret
          exact ⟨rfl, Below.refl _ _⟩
        · have hgt : (len0 : Int) < a1 := by omega
          clear hi
          go_enter Try.func4, Try.ntmps4
          go_wp2_with fail
          refine (zzb_ok _ _ _ _ _ _ _ _ hbig).mono ?_
          rintro e w' ⟨rfl, rfl⟩
          go_wp2
          go_ret
          exact ⟨rfl, Below.refl _ _⟩
    · clear w0 w1 w2
      by_cases hh0 : len0 ≤ 524288
      · have hh2 : 524288 < len2 := by omega
        clear hhalf
        go_enter Try.func4, Try.ntmps4
        go_wp2_with fail
        refine (zzb_ok _ _ _ _ _ _ _ _ hbig).mono ?_
        rintro e w' ⟨rfl, rfl⟩
        go_wp2
        go_ret
        exact ⟨rfl, Below.refl _ _⟩
      · clear hhalf
        go_enter Try.func4, Try.ntmps4
        go_wp2_with fail
        refine (zzb_ok _ _ _ _ _ _ _ _ hbig).mono ?_
        rintro e w' ⟨rfl, rfl⟩
        go_wp2
        go_ret
        exact ⟨rfl, Below.refl _ _⟩
  · clear w0 w1 w2
    go_enter Try.func4, Try.ntmps4
    go_wp2_with fail
    refine (zzb_no _ _ _ _ _ _ _ _ hbig hl0 hl2).mono ?_
    rintro e w' ⟨rfl, rfl⟩
    go_wp2
    go_ret
    exact ⟨rfl, Below.refl _ _⟩


/-! ### THE ROW's STEP: WRITTEN OUT: LEAVE IT -/
set_option maxRecDepth 100000 in
theorem lifted (os : Os) (started : os.Started) (H : Type) (enc : TypeId × Value → H) :
    ReturnsInHanded {} Try.checked os 4 .any (Rows.fnStringEndIgnoresBytesPastItsEndSpec.pre6 enc Try.prog Try.f4 Rows.fnStringEndIgnoresBytesPastItsEndRow.domain false) (Rows.fnStringEndIgnoresBytesPastItsEndSpec.post enc Try.prog Try.f4 false true false false) := by
  refine returnsInHanded_of_change (C := Try.checked) own started (by kernel_rfl) Try.func4
    (ChangeSpec.witness6 (enc := enc) (C := Try.checked) false ⟨#[], #[.slice none 0 0, .int .i64 0, .slice none 0 0], []⟩ 8 (by kernel_rfl) (by kernel_rfl) (by kernel_rfl) (by kernel_rfl)) ?_
  intro W base args ds gs before hval0 hW hcnd _
  have hval : ∀ (j : Nat) t v, Try.f4.params[j]? = some t → args[j]? = some v → Value.okWide Try.prog W .any base t v := hval0
  have hW' := hW
  obtain ⟨p, q, hA0, hV, rfl, hfz, hnd⟩ := hW
  have hA : DataW.TrodAll enc Try.prog W 0 (fun _ => true) true Try.f4.params.toList args.toList ds p := hA0
  rw [Try.params4] at hA hval
  obtain ⟨v0, vs0, d0, ds0, p0, q0, hargs, rfl, rfl, h0, r0⟩ := trodAll_cons hA
  obtain ⟨v1, vs1, d1, ds1, p1, q1, rfl, rfl, rfl, h1, r1⟩ := trodAll_cons r0
  obtain ⟨v2, vs2, d2, ds2, p2, q2, rfl, rfl, rfl, h2, r2⟩ := trodAll_cons r1
  obtain ⟨rfl, rfl, rfl⟩ := trodAll_nil r2
  obtain rfl : args = #[v0, v1, v2] := by cases args; simp_all
  obtain ⟨rfl, rfl⟩ := trodVars_none hV
  obtain ⟨a0, len0, cap0, rfl⟩ := okWide_slice Try.underlying22 (hval 0 22 v0 rfl rfl)
  have k0 := h0
  have lt0 : ∀ x ∈ p0, x.block < W.heap.size := by obtain ⟨m, hm⟩ := k0; exact DataW.trod_lt m _ _ _ hm
  obtain ⟨z0, w0⟩ : ∃ zs, IsRow .u8 W a0 len0 cap0 zs := by
    obtain ⟨fuel, hf⟩ := h0
    rcases open_ints Try.underlying22 Try.underlying5 (by kernel_rfl) hf with ⟨hcs, _⟩ | ⟨x, l, c, zs, hcs, _, hl, hm, hz, _, hcell, hwz⟩
    · simp [Value.cells] at hcs
      obtain ⟨rfl, rfl, rfl⟩ := hcs
      exact ⟨[], .inl ⟨rfl, rfl, rfl, rfl⟩⟩
    · simp [Value.cells] at hcs
      obtain ⟨rfl, rfl, rfl⟩ := hcs
      exact ⟨zs, .inr ⟨_, rfl, hl, hm, by simpa using hz, hcell, hwz⟩⟩
  obtain ⟨a1, rfl, rfl, rfl, w1⟩ := open_int Try.underlying3 (hval 1 3 v1 rfl rfl) h1
  obtain ⟨a2, len2, cap2, rfl⟩ := okWide_slice Try.underlying22 (hval 2 22 v2 rfl rfl)
  have k2 := h2
  have lt2 : ∀ x ∈ p2, x.block < W.heap.size := by obtain ⟨m, hm⟩ := k2; exact DataW.trod_lt m _ _ _ hm
  obtain ⟨z2, w2⟩ : ∃ zs, IsRow .u8 W a2 len2 cap2 zs := by
    obtain ⟨fuel, hf⟩ := h2
    rcases open_ints Try.underlying22 Try.underlying5 (by kernel_rfl) hf with ⟨hcs, _⟩ | ⟨x, l, c, zs, hcs, _, hl, hm, hz, _, hcell, hwz⟩
    · simp [Value.cells] at hcs
      obtain ⟨rfl, rfl, rfl⟩ := hcs
      exact ⟨[], .inl ⟨rfl, rfl, rfl, rfl⟩⟩
    · simp [Value.cells] at hcs
      obtain ⟨rfl, rfl, rfl⟩ := hcs
      exact ⟨zs, .inr ⟨_, rfl, hl, hm, by simpa using hz, hcell, hwz⟩⟩
  clear hA0 hval0
  refine (walk a0 len0 cap0 z0 a1 a2 len2 cap2 z2 W w0 w1 w2).mono fun e W' ⟨he, bel⟩ => ?_
  subst he
  exact ⟨_, rfl, _, _, _, [], _, [], hW', trodAll_mk1 (shut_bool Try.underlying4 _), (trodAll_cons_mk (Below.trod laidOut (by kernel_rfl) (of_decide_eq_true (by kernel_rfl)) k0 bel lt0) (trodAll_cons_mk (shut_int Try.underlying3 w1) (trodAll_cons_mk (Below.trod laidOut (by kernel_rfl) (of_decide_eq_true (by kernel_rfl)) k2 bel lt2) trodAll_mk0))), rfl, bel.frame _, fun h => by cases h⟩

theorem over : Rows.fnStringEndIgnoresBytesPastItsEndRow.holds Try.pinned (OpenSpec.ofChange Rows.fnStringEndIgnoresBytesPastItsEndSpec) :=
  OpenClaim.holds_of_wide 4 Try.f4 rfl rfl rfl rfl rfl rfl rfl ⟨rfl, rfl, rfl, rfl, rfl⟩ rfl rfl rfl rfl rfl (by kernel_rfl) Try.func4 (by kernel_rfl)
    (of_decide_eq_true (by kernel_rfl)) (by unfold Func.isWrapper; first | (rw [if_pos (by decide +kernel)]; kernel_rfl) | (rw [if_neg (by decide +kernel)]; exact ⟨rfl, rfl⟩))
    (fun os started H enc _ => lifted os started H enc)

/-- ████ THE STATEMENT ████ -/
theorem proved : Rows.FnStringEndIgnoresBytesPastItsEndSaid := over
#print axioms proved
end Go.Proofs.Qxb6603727a.fnStringEndIgnoresBytesPastItsEnd
