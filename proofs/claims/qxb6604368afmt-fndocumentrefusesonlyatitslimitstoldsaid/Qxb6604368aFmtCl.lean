/-
  WALKS: zzCloneBytes, the law's test of its argument's size.
-/
import Derived.Test.Qxb6604368aFmtSt
import Derived.WalkKit
import Derived.ProofKit
import Derived.Below
import Derived.Laws.Cover3
import Derived.Lib.BytesEntry
namespace Go.Proofs.Qxb6604368aFmt
open Go.RowKit
set_option linter.unusedVariables false

theorem Tryf.info5 : (Tryf.prog.info? 5).map (fun i => (i.zero, i.size, i.bytes)) = some (some (.int .u8 0), 1, 1) := by kernel_rfl

/-- The cells of a row of bytes. -/
def rowOf (f : Nat → Int) (n : Nat) : List Value := (List.range n).map fun i => .int .u8 (f i)
theorem rowOf_get (f : Nat → Int) (n k : Nat) (h : k < n) : (rowOf f n)[k]? = some (.int .u8 (f k)) := by simp [rowOf, h]
theorem rowOf_len (f : Nat → Int) (n : Nat) : (rowOf f n).length = n := by simp [rowOf]
theorem rowOf_set (f : Nat → Int) (n k : Nat) (v : Int) : (rowOf f n).set k (.int .u8 v) = rowOf (fun i => if i = k then v else f i) n := by
  apply List.ext_getElem?
  intro j
  rw [List.getElem?_set]
  by_cases hj : j < n
  · rw [rowOf_get _ n j hj, rowOf_get _ n j hj, rowOf_len]
    by_cases e : k = j
    · subst e; simp [hj]
    · have e' : ¬ j = k := fun h => e h.symm
      simp [e, e']
  · have h1 : ∀ g : Nat → Int, (rowOf g n)[j]? = none := fun g => by rw [List.getElem?_eq_none_iff, rowOf_len]; omega
    rw [h1, h1, rowOf_len]
    by_cases e : k = j
    · subst e; simp [hj]
    · simp [e]
theorem rowOf_zero (n : Nat) : List.replicate n (Value.int .u8 0) = rowOf (fun _ => 0) n := by
  apply List.ext_getElem?
  intro j
  by_cases hj : j < n
  · rw [rowOf_get _ n j hj]; simp [hj]
  · rw [List.getElem?_eq_none_iff.2 (by simp; omega), List.getElem?_eq_none_iff.2 (by rw [rowOf_len]; omega)]

/-- The call's own row of n bytes at the head of block B. -/
def Own (w : World) (B n : Nat) (f : Nat → Int) : Prop := w.ownsRow B 5 1 (.slice (some ⟨B, 0, none⟩) n n) n (rowOf f n)
theorem Own.cell {w : World} {B n : Nat} {f : Nat → Int} (h : Own w B n f) (k : Nat) (hk : k < n) : w.cell? ⟨B, k, none⟩ = some (.int .u8 (f k)) := by
  rw [World.ownsRow.cellAt h k (by omega), rowOf_get f n k hk]
theorem Own.free {w : World} {B n : Nat} {f : Nat → Int} (h : Own w B n f) (k : Nat) : w.frozen? ⟨B, k, none⟩ = false := World.ownsRow.frozenAt h k
theorem Own.store {w : World} {B n : Nat} {f : Nat → Int} (h : Own w B n f) (k : Nat) (v : Int) : Own (w.setCell ⟨B, k, none⟩ (.int .u8 v)) B n (fun i => if i = k then v else f i) := by
  have := (World.ownsRow.stored h k (.int .u8 v)).1
  rw [rowOf_set] at this
  exact this

theorem eql_nil (a : Option Addr) (n c : Nat) (w : World) : (binOp .eql 22 (.slice a n c) (.slice none 0 0)).run Tryf.prog w = .ok (.bool a.isNone) w := by
  simp only [binOp]
  simp [run_equal_slice_nil w 22 5 a n c Tryf.underlying22]

theorem made_zero {w : World} {B n : Nat} (h : w.ownsRow B 5 1 (.slice (some ⟨B, 0, none⟩) n n) n (madeCells (Value.int .u8 0).cells (n * 1)).toList) : Own w B n (fun _ => 0) := by
  have e : (madeCells (Value.int .u8 0).cells (n * 1)).toList = rowOf (fun _ => 0) n := by
    rw [← rowOf_zero, Nat.mul_one]; exact toList_madeCells_one _ _
  rw [e] at h; exact h

theorem clone_step {w wr : World} {B n k : Nat} {f d : Nat → Int} (ho : Own wr B n f) (hf : ∀ j, j < k → f j = d j) (hbel : Below B w wr) :
    Own (wr.setCell ⟨B, k, none⟩ (.int .u8 (d k))) B n (fun i => if i = k then d k else f i) ∧ (∀ j, j < k + 1 → (fun i => if i = k then d k else f i) j = d j) ∧ Below B w (wr.setCell ⟨B, k, none⟩ (.int .u8 (d k))) := by
  refine ⟨ho.store k (d k), fun j hj => ?_, hbel.setCell (Nat.le_refl _) _⟩
  by_cases e : j = k
  · subst e; simp
  · simp only [if_neg e]; exact hf j (by omega)

set_option maxHeartbeats 400000 in
theorem clone_row (b off n c : Nat) (d : Nat → Int) (w : World) (hn : n ≤ 1048576) (hb : 0 < n → b < w.heap.size)
    (hc : ∀ i, i < n → w.cell? ⟨b, off + i, none⟩ = some (.int .u8 (d i))) :
    Calls Tryf.prog 6 #[.slice (some ⟨b, off, none⟩) n c] w fun e w' => e = .returned (.slice (some ⟨w.heap.size, 0, none⟩) n n) ∧ (∃ f, Own w' w.heap.size n f ∧ ∀ i, i < n → f i = d i) ∧ Below w.heap.size w w' := by
  obtain ⟨i0, hi, hz0, hz1, hz2⟩ := info_parts Tryf.info5
  have heq := eql_nil
  go_enter Tryf.func6, Tryf.ntmps6
  go_wp2_with (first | (at_make; refine wpList_make_full _ rfl _ _ 22 rfl w.heap.size 5 i0 (.int .u8 0) 1 Tryf.underlying22 hi hz0 hz1 _ _ _ _ n rfl rfl rfl rfl (by rw [hz2]; omega) (by unfold maxLen; omega) (Nat.le_refl _) ?_; intro w1 hown hgrow) | go_in)
  have ho : Own w1 w.heap.size n (fun _ => 0) := made_zero hown
  have hbel : Below w.heap.size w w1 := (Below.refl _ _).grown hgrow (Nat.le_refl _) (fun k e => by cases e)
  clear hown hgrow heq hi hz0 hz1 hz2
  go_loopw [4] (fun i wr => ∃ (k : Nat) (f : Nat → Int), k ≤ n ∧ i = .int .i64 k ∧ Own wr w.heap.size n f ∧ (∀ j, j < k → f j = d j) ∧ Below w.heap.size w wr) (fun i _ => n - (intOf i).toNat)
  case atStart => exact ⟨0, _, Nat.zero_le _, rfl, ho, fun j hj => by omega, hbel⟩
  case round =>
    clear ho hbel
    obtain ⟨k, f, hk, rfl, ho, hf, hbel⟩ := hrel
    by_cases hlt : k < n
    · have hcx : wr.cell? ⟨b, off + k, none⟩ = some (.int .u8 (d k)) := (hbel.cell (by exact hb (by omega))).trans (hc k hlt)
      have hox := ho.cell k hlt
      have hfx := ho.free k
      have R := clone_step ho hf hbel
      clear ho hf hbel hc
      go_wp2
      go_roundw
      case rel => exact ⟨k + 1, _, by omega, by go_num, R.1, R.2.1, R.2.2⟩
      case measure => simp [intOf]; omega
    · have hkn : k = n := by omega
      have HK : Hid (k = n) := hkn
      clear hkn hc
      go_wp2
      go_ret
      exact ⟨rfl, ⟨f, ho, fun i hi => hf i (by have := HK.out; omega)⟩, hbel⟩

/-- zqClone of the nil slice. -/
theorem clone_nil (w : World) : Calls Tryf.prog 6 #[.slice none 0 0] w fun e w' => e = .returned (.slice none 0 0) ∧ w' = w := by
  have heq := eql_nil
  go_enter Tryf.func6, Tryf.ntmps6
  go_wp2
  go_ret
  exact ⟨rfl, rfl⟩

set_option maxHeartbeats 400000 in
/-- zqClone of an empty slice that is not nil. -/
theorem clone_empty (x : Addr) (c : Nat) (w : World) :
    Calls Tryf.prog 6 #[.slice (some x) 0 c] w fun e w' => e = .returned (.slice (some ⟨w.heap.size, 0, none⟩) 0 0) ∧ Below w.heap.size w w' := by
  obtain ⟨i0, hi, hz0, hz1, hz2⟩ := info_parts Tryf.info5
  have heq := eql_nil
  go_enter Tryf.func6, Tryf.ntmps6
  go_wp2_with (first | (at_make; refine wpList_make_full _ rfl _ _ 22 rfl w.heap.size 5 i0 (.int .u8 0) 1 Tryf.underlying22 hi hz0 hz1 _ _ _ _ 0 rfl rfl rfl rfl (by rw [hz2]; omega) (by unfold maxLen; omega) (Nat.le_refl _) ?_; intro w1 hown hgrow) | go_in)
  have hbel : Below w.heap.size w w1 := (Below.refl _ _).grown hgrow (Nat.le_refl _) (fun k e => by cases e)
  clear hown hgrow heq hi hz0 hz1 hz2
  go_loopw [4] (fun i wr => i = .int .i64 0 ∧ Below w.heap.size w wr) (fun i _ => 0)
  case atStart => exact ⟨rfl, hbel⟩
  case round =>
    clear hbel
    obtain ⟨rfl, hbel⟩ := hrel
    go_wp2
    go_ret
    exact ⟨rfl, hbel⟩

/-- WHAT THE WALK IS TOLD OF A SLICE OF INTEGERS THAT CAME IN (the shells' own words). -/
def IsRow (k : IntKind) (w : World) (a : Option Addr) (len cap : Nat) (zs : List Int) : Prop :=
  (a = none ∧ len = 0 ∧ cap = 0 ∧ zs = []) ∨
  ∃ x, a = some x ∧ len ≤ cap ∧ cap ≤ maxLen ∧ zs.length = cap ∧ (∀ i, i < zs.length → w.cell? (x.add i) = some (.int k (zs.getD i 0))) ∧ ∀ n ∈ zs, (Lit.int k n).wf = true

/-- The bytes of such a slice. -/
def by8 (zs : List Int) (j : Nat) : Int := zs.getD j 0

theorem IsRow.byte {w : World} {a : Option Addr} {n c : Nat} {zs : List Int} (h : IsRow .u8 w a n c zs) (j : Nat) : 0 ≤ by8 zs j ∧ by8 zs j ≤ 255 := by
  have hw : ∀ n ∈ zs, (Lit.int .u8 n).wf = true := by
    rcases h with ⟨_, _, _, rfl⟩ | ⟨x, _, _, _, _, _, hw⟩
    · intro n hn; simp at hn
    · exact hw
  unfold by8
  by_cases hj : j < zs.length
  · have e : zs.getD j 0 = zs[j] := by simp [List.getD, hj]
    rw [e]
    have := hw zs[j] (List.getElem_mem hj)
    simp [Lit.wf, IntKind.min, IntKind.max, IntKind.signed, IntKind.bits] at this
    omega
  · have e : zs.getD j 0 = 0 := by simp [List.getD, List.getElem?_eq_none_iff.2 (by omega : zs.length ≤ j)]
    omega


/-- The data of a scan lie in memory. -/
def Dat (w : World) (a : Option Addr) (n : Nat) (d : Nat → Int) : Prop :=
  n = 0 ∨ ∃ b, a = some ⟨b, 0, none⟩ ∧ ∀ j, j < n → w.cell? ⟨b, j, none⟩ = some (.int .u8 (d j))
theorem Dat.below {w w' : World} {a : Option Addr} {n : Nat} {d : Nat → Int} (h : Dat w a n d) (hb : Below w.heap.size w w') : Dat w' a n d := by
  rcases h with h | ⟨b, h1, h2⟩
  · exact .inl h
  · exact .inr ⟨b, h1, fun j hj => (hb.cell (cell_lt (h2 j hj))).trans (h2 j hj)⟩

/-- zzCloneBytes, whatever came in. -/
theorem clone_any {w : World} {a : Option Addr} {n c : Nat} {zs : List Int} (h : IsRow .u8 w a n c zs) (hn : n ≤ 1048576) :
    Calls Tryf.prog 6 #[.slice a n c] w fun e w' => (∃ a', e = .returned (.slice a' n n) ∧ Dat w' a' n (by8 zs)) ∧ Below w.heap.size w w' := by
  rcases h with ⟨rfl, rfl, rfl, rfl⟩ | ⟨x, rfl, hl, hm, hz, hc, hw⟩
  · refine (clone_nil w).mono ?_
    rintro e w' ⟨rfl, rfl⟩
    exact ⟨⟨none, rfl, .inl rfl⟩, Below.refl _ _⟩
  · by_cases h0 : n = 0
    · subst h0
      refine (clone_empty x c w).mono ?_
      rintro e w' ⟨rfl, hb⟩
      exact ⟨⟨_, rfl, .inl rfl⟩, hb⟩
    · obtain ⟨b, off, spot⟩ := x
      have hspot : spot = none := by simpa [Addr.add] using World.cell?_spot (hc 0 (by omega))
      subst hspot
      have hc' : ∀ j, j < n → w.cell? ⟨b, off + j, none⟩ = some (.int .u8 (by8 zs j)) := fun j hj => by
        have e : (⟨b, off, none⟩ : Addr).add j = ⟨b, off + j, none⟩ := by unfold Addr.add; split <;> simp_all
        rw [← e]; exact hc j (by omega)
      refine (clone_row b off n c (by8 zs) w hn (fun h => cell_lt (hc' 0 h)) hc').mono ?_
      rintro e w' ⟨rfl, ⟨f, hf, hfd⟩, hb⟩
      refine ⟨⟨_, rfl, .inr ⟨w.heap.size, rfl, fun j hj => ?_⟩⟩, hb⟩
      rw [hf.cell j hj, hfd j hj]
end Go.Proofs.Qxb6604368aFmt
