/-
  SHARED WALKS: bytes.Count at one byte; bytes.Repeat at no copy.
-/
import Derived.Test.Qxb6604151aRep
import Derived.Shelf.Bytes.SlCountOne
namespace Go.Proofs.Qxb6604151a
open Go.RowKit
set_option linter.unusedVariables false

/-- How many of f 0 .. f (n-1) are x. -/
def cntB (f : Nat → Int) (x : Int) : Nat → Nat
  | 0 => 0
  | n + 1 => cntB f x n + if f n = x then 1 else 0

theorem u8_eq (z x : Int) (hz : 0 ≤ z ∧ z ≤ 255) (hx : 0 ≤ x ∧ x ≤ 255) : (z.toNat.toUInt8 == x.toNat.toUInt8) = true ↔ z = x := by
  rw [beq_iff_eq]
  constructor
  · intro h
    have h2 := congrArg UInt8.toNat h
    simp at h2
    omega
  · intro h; rw [h]

theorem count_is (f : Nat → Int) (x : Int) (hx : 0 ≤ x ∧ x ≤ 255) (n : Nat) (hf : ∀ j, j < n → 0 ≤ f j ∧ f j ≤ 255) : Lib.countByte (Lib.bytesOf ((List.range n).map f)) x.toNat.toUInt8 = cntB f x n := by
  induction n with
  | zero => rfl
  | succ n ih =>
    have ih := ih (fun j hj => hf j (by omega))
    have e := u8_eq (f n) x (hf n (by omega)) hx
    unfold Lib.countByte Lib.bytesOf at *
    rw [List.range_succ, List.map_append, List.map_append, List.count_append, ih, cntB]
    congr 1
    by_cases h : f n = x
    · simp [h]
    · have h2 : ¬ ((f n).toNat.toUInt8 == x.toNat.toUInt8) = true := fun hh => h (e.1 hh)
      rw [if_neg h, List.count_eq_zero]
      intro hm
      replace hm : x.toNat.toUInt8 ∈ [UInt8.ofNat (f n).toNat] := hm
      rw [List.mem_singleton] at hm
      exact h2 (by rw [beq_iff_eq]; exact hm.symm)

set_option maxHeartbeats 1000000 in
theorem count_row (b o n c b2 o2 c2 : Nat) (f : Nat → Int) (x : Int) (w : World) (hx : 0 ≤ x ∧ x ≤ 255) (hf : ∀ j, j < n → 0 ≤ f j ∧ f j ≤ 255)
    (hc : ∀ i, i < n → w.cell? ⟨b, o + i, none⟩ = some (.int .u8 (f i))) (hc2 : w.cell? ⟨b2, o2, none⟩ = some (.int .u8 x)) :
    Calls Try.prog 9 #[.slice (some ⟨b, o, none⟩) n c, .slice (some ⟨b2, o2, none⟩) 1 c2] w fun e w' => e = .returned (.int .i64 (cntB f x n : Nat)) ∧ w' = w := by
  have hl : ((List.range n).map f).length = n := by simp
  have hg : ∀ i, i < n → ((List.range n).map f).getD i 0 = f i := fun i hi => by simp [hi]
  have hrun := Lib.run_countSlice (P := Try.prog) w b o n c ((List.range n).map f) hl (fun i hi => by rw [hg i hi]; exact hc i hi) x
  rw [count_is f x hx n hf] at hrun
  clear hl hg hc hf hx
  go_enter Try.func9, Try.ntmps9
  go_wp2
  rw [run_callFunc_extern Try.func13 (by kernel_rfl) (by kernel_rfl) (by kernel_rfl) (e := Extern.BytealgCount.count) (by kernel_rfl), hrun]
  simp only [Result.andThen]
  rw [Oper.upon_value]
  go_wp2
  go_ret
  exact ⟨rfl, rfl⟩

theorem repeat_zero (v : Value) (w : World) :
    Calls Try.prog 8 #[v, .int .i64 0] w fun e w' => e = .returned (.slice (some ⟨w.heap.size, 0, none⟩) 0 0) ∧ w' = w.alloc (.cells #[] 5) := by
  go_enter Try.func8, Try.ntmps8
  go_wp2
  go_ret
  exact ⟨rfl, rfl⟩

/-- bytes.Repeat, however many copies. -/
theorem repeat_any (b o L c cnt : Nat) (d : Nat → Int) (w : World) (hL : 1 ≤ L) (hL2 : L ≤ 1048576) (hn2 : cnt ≤ 1048576) (hT2 : L * cnt ≤ 16777216)
    (hc : ∀ i, i < L → w.cell? ⟨b, o + i, none⟩ = some (.int .u8 (d i))) :
    Calls Try.prog 8 #[.slice (some ⟨b, o, none⟩) L c, .int .i64 cnt] w fun e w' => e = .returned (.slice (some ⟨w.heap.size, 0, none⟩) (L * cnt) (L * cnt)) ∧ Fill w' w.heap.size (L * cnt) (L * cnt) (fun j => d (j % L)) ∧ Below w.heap.size w w' := by
  by_cases h : cnt = 0
  · subst h
    refine (repeat_zero _ w).mono ?_
    rintro e w' ⟨rfl, rfl⟩
    rw [Nat.mul_zero]
    exact ⟨rfl, ⟨[], heap_alloc_new w _, Nat.zero_le _, fun j hj => by omega⟩, (Below.refl _ _).alloc (Nat.le_refl _) _⟩
  · exact repeat_row b o L c cnt (L * cnt) d w hL hL2 (by omega) hn2 rfl hT2 hc

/-- What the filled block reads. -/
theorem Fill.cell {w : World} {g T k : Nat} {f : Nat → Int} (h : Fill w g T k f) (j : Nat) (hj : j < k) : w.cell? ⟨g, j, none⟩ = some (.int .u8 (f j)) := by
  obtain ⟨cur, hg, _, hk⟩ := h
  rw [cell_of_row w g j _ 5 (0, 0) hg]
  simpa using hk j hj
end Go.Proofs.Qxb6604151a
