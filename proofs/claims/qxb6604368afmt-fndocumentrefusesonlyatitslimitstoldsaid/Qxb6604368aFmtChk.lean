/-
  WALKS: joinLength, line, check.
-/
import Derived.Test.Qxb6604368aFmtFm
import Derived.Lib.SlBytesConst
import Derived.Deep.DrawnRows
import Derived.Deep.RegionWith
namespace Go.Proofs.Qxb6604368aFmt
open Go.RowKit Go.Extern.Stop Go.Stop Go.Extern
set_option linter.unusedVariables false
attribute [local go_sem ↓] Go.wp_at_zero Go.wp_at_succ

theorem conv_const (w : World) (C : Array Value) (n c b : Nat) (h : b = w.heap.size) : (convert 22 22 (.slice (some ⟨b, 0, none⟩) n c)).run Tryf.prog (w.alloc (.cells C 5)) = .ok (.slice (some ⟨b, 0, none⟩) n c) (w.alloc (.cells C 5 (C.size, C.size + 1))) := by
  subst h
  exact Lib.run_convert_bytes_const (P := Tryf.prog) w 22 5 C n c Tryf.underlying22 Tryf.underlying5
theorem conv_const' (w : World) (C : Array Value) (n c b : Nat) (h : b = w.heap.size) : (convert 22 22 (.slice (some ⟨b, 0, none⟩) n c)).run Tryf.prog (w.alloc (.cells C 5)).drew = .ok (.slice (some ⟨b, 0, none⟩) n c) (w.alloc (.cells C 5 (C.size, C.size + 1))).drew := conv_const w.drew C n c b h
theorem count_row (S : Src) (p b2 : Nat) (w : World) (hp : p ≤ S.n) (hc1 : ∀ j, j < S.n → w.cell? ⟨S.b, j, none⟩ = some (.int .u8 (S.d j))) (hc2 : w.cell? ⟨b2, 0, none⟩ = some (.int .u8 10)) :
    Calls Tryf.prog 33 #[.slice (some ⟨S.b, 0, none⟩) p S.n, .slice (some ⟨b2, 0, none⟩) 1 1] w fun e w' => (∃ x : Int, e = .returned (.int .i64 x)) ∧ w' = w := by
  refine (Tryf.bytes_Count_one S.b 0 p S.n b2 0 1 ((List.range p).map S.d) 10 w (by simp) (fun i hi => ?_) hc2).mono ?_
  · rw [Nat.zero_add, hc1 i (by omega)]
    congr 2
    simp [hi]
  · rintro e w' ⟨rfl, rfl⟩
    exact ⟨⟨_, rfl⟩, rfl⟩
theorem wrap64_le (z : Int) : wrap64 z ≤ 9223372036854775807 := by unfold wrap64; omega
/-- joinLength gives some length. -/
theorem join_any (x y : Int) (w : World) : Calls Tryf.prog 22 #[.int .i64 x, .int .i64 y] w fun en w' => (∃ z : Int, en = .returned (.int .i64 z) ∧ z ≤ 9223372036854775807) ∧ w' = w := by
  go_enter Tryf.func22, Tryf.ntmps22
  go_wp2
  all_goals
    go_ret
    exact ⟨⟨_, rfl, wrap64_le _⟩, rfl⟩

set_option maxHeartbeats 1000000 in
set_option maxRecDepth 100000 in
theorem line_st (B : Nat) (S : Src) (L : Lim) (p : Nat) (e : Int) (w : World) (hn : S.n ≤ 65536) (h0 : 0 < S.n) (hp : p ≤ S.n) (h : St w B S L p e) :
    Calls Tryf.prog 27 #[.pointer (some ⟨B, 0, none⟩)] w fun en w' => ∃ x : Int, en = .returned (.int .i64 x) ∧ St w' B S L p e ∧ Fr B w w' := by
  have H : Hid (St w B S L p e) := h
  have c0 := h.c0
  rw [h.adr (by omega)] at c0
  have c1 := h.c1
  have z0 : (0 : Int) ≤ (p : Int) := by omega
  have z2 : (p : Int) ≤ (S.n : Int) := by omega
  clear h
  have hcv := conv_const'
  have ca0 : ∀ o, (w.alloc o).cell? ⟨B, 0, none⟩ = some (.slice (some ⟨S.b, 0, none⟩) S.n S.n) := fun o => cell_old _ _ _ _ _ c0
  have ca1 : ∀ o, (w.alloc o).cell? ⟨B, 1, none⟩ = some (.int .i64 p) := fun o => cell_old _ _ _ _ _ c1
  go_enter Tryf.func27, Tryf.ntmps27
  go_wp2_with fail
  go_region_with (go_at_call 33; refine (count_row S p _ _ hp ?_ ?_).mono ?_; (exact (St.drewN (St.alloc H.out _) 1).dat); (exact cell_new w _ _ _ _ _ rfl); rintro e1 w1 ⟨⟨x, rfl⟩, rfl⟩)
  all_goals
    go_wp2_with fail
    go_ret
    exact ⟨_, rfl, (St.alloc H.out _).drewN 1, ((Fr.refl _ _).alloc _).drewN 1⟩
end Go.Proofs.Qxb6604368aFmt
