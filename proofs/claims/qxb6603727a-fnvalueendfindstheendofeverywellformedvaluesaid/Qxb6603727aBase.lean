/-
  SHARED WALKS: zqClone.
-/
import Derived.Test.Qxb6603727aRows
import Derived.Test.Qxb6603727aPlain
import Derived.WalkKit
import Derived.ProofKit
import Derived.Below
import Derived.Laws.Cover3
import Derived.Lib.BytesEntry
namespace Go.Proofs.Qxb6603727a
open Go.RowKit
set_option linter.unusedVariables false

theorem Try.info5 : (Try.prog.info? 5).map (fun i => (i.zero, i.size, i.bytes)) = some (some (.int .u8 0), 1, 1) := by kernel_rfl

/-- The cells of a row of bytes. -/
def rowOf (f : Nat → Int) (n : Nat) : List Value := (List.range n).map fun i => .int .u8 (f i)
theorem rowOf_get (f : Nat → Int) (n k : Nat) (h : k < n) : (rowOf f n)[k]? = some (.int .u8 (f k)) := by simp [rowOf, h]
theorem rowOf_len (f : Nat → Int) (n : Nat) : (rowOf f n).length = n := by simp [rowOf]
theorem rowOf_set (f : Nat → Int) (n k : Nat) (v : Int) : (rowOf f n).set k (.int .u8 v) = rowOf (fun i => if i = k then v else f i) n := by
  apply List.ext_getElem?
  intro j
  rw [List.getElem?_set]
  by_cases hj : j < n
  · rw [rowOf_get _ n j hj, rowOf_get _ n j hj, rowOf_len]
    by_cases e : k = j
    · subst e; simp [hj]
    · have e' : ¬ j = k := fun h => e h.symm
      simp [e, e']
  · have h1 : ∀ g : Nat → Int, (rowOf g n)[j]? = none := fun g => by rw [List.getElem?_eq_none_iff, rowOf_len]; omega
    rw [h1, h1, rowOf_len]
    by_cases e : k = j
    · subst e; simp [hj]
    · simp [e]
theorem rowOf_zero (n : Nat) : List.replicate n (Value.int .u8 0) = rowOf (fun _ => 0) n := by
  apply List.ext_getElem?
  intro j
  by_cases hj : j < n
  · rw [rowOf_get _ n j hj]; simp [hj]
  · rw [List.getElem?_eq_none_iff.2 (by simp; omega), List.getElem?_eq_none_iff.2 (by rw [rowOf_len]; omega)]

/-- The call's own row of n bytes at the head of block B. -/
def Own (w : World) (B n : Nat) (f : Nat → Int) : Prop := w.ownsRow B 5 1 (.slice (some ⟨B, 0, none⟩) n n) n (rowOf f n)
theorem Own.cell {w : World} {B n : Nat} {f : Nat → Int} (h : Own w B n f) (k : Nat) (hk : k < n) : w.cell? ⟨B, k, none⟩ = some (.int .u8 (f k)) := by
  rw [World.ownsRow.cellAt h k (by omega), rowOf_get f n k hk]
theorem Own.free {w : World} {B n : Nat} {f : Nat → Int} (h : Own w B n f) (k : Nat) : w.frozen? ⟨B, k, none⟩ = false := World.ownsRow.frozenAt h k
theorem Own.store {w : World} {B n : Nat} {f : Nat → Int} (h : Own w B n f) (k : Nat) (v : Int) : Own (w.setCell ⟨B, k, none⟩ (.int .u8 v)) B n (fun i => if i = k then v else f i) := by
  have := (World.ownsRow.stored h k (.int .u8 v)).1
  rw [rowOf_set] at this
  exact this

theorem eql_nil (a : Option Addr) (n c : Nat) (w : World) : (binOp .eql 22 (.slice a n c) (.slice none 0 0)).run Try.prog w = .ok (.bool a.isNone) w := by
  simp only [binOp]
  simp [run_equal_slice_nil w 22 5 a n c Try.underlying22]

theorem made_zero {w : World} {B n : Nat} (h : w.ownsRow B 5 1 (.slice (some ⟨B, 0, none⟩) n n) n (madeCells (Value.int .u8 0).cells (n * 1)).toList) : Own w B n (fun _ => 0) := by
  have e : (madeCells (Value.int .u8 0).cells (n * 1)).toList = rowOf (fun _ => 0) n := by
    rw [← rowOf_zero, Nat.mul_one]; exact toList_madeCells_one _ _
  rw [e] at h; exact h

theorem clone_step {w wr : World} {B n k : Nat} {f d : Nat → Int} (ho : Own wr B n f) (hf : ∀ j, j < k → f j = d j) (hbel : Below B w wr) :
    Own (wr.setCell ⟨B, k, none⟩ (.int .u8 (d k))) B n (fun i => if i = k then d k else f i) ∧ (∀ j, j < k + 1 → (fun i => if i = k then d k else f i) j = d j) ∧ Below B w (wr.setCell ⟨B, k, none⟩ (.int .u8 (d k))) := by
  refine ⟨ho.store k (d k), fun j hj => ?_, hbel.setCell (Nat.le_refl _) _⟩
  by_cases e : j = k
  · subst e; simp
  · simp only [if_neg e]; exact hf j (by omega)

set_option maxHeartbeats 400000 in
theorem clone_row (b off n c : Nat) (d : Nat → Int) (w : World) (hn : n ≤ 1048576) (hb : 0 < n → b < w.heap.size)
    (hc : ∀ i, i < n → w.cell? ⟨b, off + i, none⟩ = some (.int .u8 (d i))) :
    Calls Try.prog 10 #[.slice (some ⟨b, off, none⟩) n c] w fun e w' => e = .returned (.slice (some ⟨w.heap.size, 0, none⟩) n n) ∧ (∃ f, Own w' w.heap.size n f ∧ ∀ i, i < n → f i = d i) ∧ Below w.heap.size w w' := by
  obtain ⟨i0, hi, hz0, hz1, hz2⟩ := info_parts Try.info5
  have heq := eql_nil
  go_enter Try.func10, Try.ntmps10
  go_wp2_with (first | (at_make; refine wpList_make_full _ rfl _ _ 22 rfl w.heap.size 5 i0 (.int .u8 0) 1 Try.underlying22 hi hz0 hz1 _ _ _ _ n rfl rfl rfl rfl (by rw [hz2]; omega) (by unfold maxLen; omega) (Nat.le_refl _) ?_; intro w1 hown hgrow) | go_in)
  have ho : Own w1 w.heap.size n (fun _ => 0) := made_zero hown
  have hbel : Below w.heap.size w w1 := (Below.refl _ _).grown hgrow (Nat.le_refl _) (fun k e => by cases e)
  clear hown hgrow heq hi hz0 hz1 hz2
  go_loopw [4] (fun i wr => ∃ (k : Nat) (f : Nat → Int), k ≤ n ∧ i = .int .i64 k ∧ Own wr w.heap.size n f ∧ (∀ j, j < k → f j = d j) ∧ Below w.heap.size w wr) (fun i _ => n - (intOf i).toNat)
  case atStart => exact ⟨0, _, Nat.zero_le _, rfl, ho, fun j hj => by omega, hbel⟩
  case round =>
    clear ho hbel
    obtain ⟨k, f, hk, rfl, ho, hf, hbel⟩ := hrel
    by_cases hlt : k < n
    · have hcx : wr.cell? ⟨b, off + k, none⟩ = some (.int .u8 (d k)) := (hbel.cell (by exact hb (by omega))).trans (hc k hlt)
      have hox := ho.cell k hlt
      have hfx := ho.free k
      have R := clone_step ho hf hbel
      clear ho hf hbel hc
      go_wp2
      go_roundw
      case rel => exact ⟨k + 1, _, by omega, by go_num, R.1, R.2.1, R.2.2⟩
      case measure => simp [intOf]; omega
    · have hkn : k = n := by omega
      have HK : Hid (k = n) := hkn
      clear hkn hc
      go_wp2
      go_ret
      exact ⟨rfl, ⟨f, ho, fun i hi => hf i (by have := HK.out; omega)⟩, hbel⟩

/-- zqClone of the nil slice. -/
theorem clone_nil (w : World) : Calls Try.prog 10 #[.slice none 0 0] w fun e w' => e = .returned (.slice none 0 0) ∧ w' = w := by
  have heq := eql_nil
  go_enter Try.func10, Try.ntmps10
  go_wp2
  go_ret
  exact ⟨rfl, rfl⟩

set_option maxHeartbeats 400000 in
/-- zqClone of an empty slice that is not nil. -/
theorem clone_empty (x : Addr) (c : Nat) (w : World) :
    Calls Try.prog 10 #[.slice (some x) 0 c] w fun e w' => e = .returned (.slice (some ⟨w.heap.size, 0, none⟩) 0 0) ∧ Below w.heap.size w w' := by
  obtain ⟨i0, hi, hz0, hz1, hz2⟩ := info_parts Try.info5
  have heq := eql_nil
  go_enter Try.func10, Try.ntmps10
  go_wp2_with (first | (at_make; refine wpList_make_full _ rfl _ _ 22 rfl w.heap.size 5 i0 (.int .u8 0) 1 Try.underlying22 hi hz0 hz1 _ _ _ _ 0 rfl rfl rfl rfl (by rw [hz2]; omega) (by unfold maxLen; omega) (Nat.le_refl _) ?_; intro w1 hown hgrow) | go_in)
  have hbel : Below w.heap.size w w1 := (Below.refl _ _).grown hgrow (Nat.le_refl _) (fun k e => by cases e)
  clear hown hgrow heq hi hz0 hz1 hz2
  go_loopw [4] (fun i wr => i = .int .i64 0 ∧ Below w.heap.size w wr) (fun i _ => 0)
  case atStart => exact ⟨rfl, hbel⟩
  case round =>
    clear hbel
    obtain ⟨rfl, hbel⟩ := hrel
    go_wp2
    go_ret
    exact ⟨rfl, hbel⟩
end Go.Proofs.Qxb6603727a
