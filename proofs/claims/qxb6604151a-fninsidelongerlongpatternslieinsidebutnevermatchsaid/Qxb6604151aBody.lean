/-
  SHARED WALKS: bodyAt.
-/
import Derived.Test.Qxb6604151aHay
import Derived.Deep.QuietTactic
import Derived.BigQuiet
namespace Go.Proofs.Qxb6604151a
open Go.RowKit
set_option linter.unusedVariables false

/-- Nothing but draws. -/
def Drw (w w' : World) : Prop := ∃ q, w' = w.drewN q

set_option maxHeartbeats 1000000 in
set_option maxRecDepth 100000 in
theorem bodyAt_row (hb N T pb n c off : Nat) (f p : Nat → Int) (w : World) (hN : N ≤ 16777216) (hoff : off + n ≤ N)
    (hh : ∀ j, j < N → w.cell? ⟨hb, j, none⟩ = some (.int .u8 (f j))) (hp : ∀ j, j < n + 1 → w.cell? ⟨pb, j, none⟩ = some (.int .u8 (p j))) (hfp : ∀ j, j < n → f (off + j) = p j) :
    Calls Try.prog 6 #[.slice (some ⟨hb, 0, none⟩) N T, .slice (some ⟨pb, 0, none⟩) (n + 1) c, .int .i64 off] w fun e w' => e = .returned (.bool true) ∧ Drw w w' := by
  have HH : Hid (∀ j, j < N → w.cell? ⟨hb, j, none⟩ = some (.int .u8 (f j))) := hh
  have HP : Hid (∀ j, j < n + 1 → w.cell? ⟨pb, j, none⟩ = some (.int .u8 (p j))) := hp
  have HFP : Hid (∀ j, j < n → f (off + j) = p j) := hfp
  clear hh hp hfp
  go_enter Try.func6, Try.ntmps6
  go_wp2_with fail
  go_loopw [8] (fun v wr => ∃ k q : Nat, k ≤ n ∧ v = .int .i64 k ∧ wr = w.drewN q) (fun v _ => n - (intOf v).toNat)
  case atStart => exact ⟨0, 0, by omega, rfl, rfl⟩
  case round =>
    obtain ⟨k, q, hk, rfl, rfl⟩ := hrel
    by_cases hlt : k < n
    · have hch := HH.out (off + k) (by omega)
      have hcp := HP.out k (by omega)
      rw [HFP.out k hlt] at hch
      have hb1 : (p k != p k) = false := by simp
      have z0 : (off : Int) + (k : Int) < (N : Int) := by omega
      have z1 : (k : Int) < (n : Int) + 1 := by omega
      have z2 : (k : Int) < ((n + 1 : Nat) : Int) := by omega
      go_wp2
      go_quiet (fail)
      go_wp2
      go_roundw
      case rel => exact ⟨k + 1, q + nq, by omega, by go_num, by simp⟩
      case measure => simp [intOf]; omega
    · go_wp2
      go_ret
      exact ⟨rfl, q, rfl⟩
end Go.Proofs.Qxb6604151a
