/-
  PLAIN LAWS: the haystack's bytes and how many of them are 'd'.
-/
import Derived.Test.Qxb6604151aIns
namespace Go.Proofs.Qxb6604151a
open Go.RowKit
set_option linter.unusedVariables false

theorem blkF_zero : blkF 0 = 100 := rfl
theorem blkF_odd (r : Nat) (h : r % 2 = 1) : blkF r = 97 := by
  unfold blkF abF
  rw [if_neg (by omega), if_pos (by omega)]
theorem blkF_even (r : Nat) (h0 : r ≠ 0) (h : r % 2 = 0) : blkF r = 98 := by
  unfold blkF abF
  rw [if_neg h0, if_neg (by omega)]
theorem blkF_d (r : Nat) : blkF r = 100 ↔ r = 0 := by
  constructor
  · intro h
    by_cases hr : r = 0
    · exact hr
    · rcases Nat.mod_two_eq_zero_or_one r with h1 | h1
      · rw [blkF_even r hr h1] at h; omega
      · rw [blkF_odd r h1] at h; omega
  · rintro rfl; rfl
theorem abF_even (j : Nat) (h : j % 2 = 0) : abF j = 97 := by unfold abF; rw [if_pos h]
theorem abF_odd (j : Nat) (h : j % 2 = 1) : abF j = 98 := by unfold abF; rw [if_neg (by omega)]

theorem mod_next (k p : Nat) (hp : 1 ≤ p) : (k + 1) % p = if k % p + 1 = p then 0 else k % p + 1 := by
  have h1 := Nat.div_add_mod k p
  have h2 := Nat.mod_lt k (show 0 < p by omega)
  by_cases h : k % p + 1 = p
  · rw [if_pos h]
    have e : k + 1 = p * (k / p + 1) := by rw [Nat.mul_add, Nat.mul_one]; omega
    rw [e]; exact Nat.mul_mod_right _ _
  · rw [if_neg h]
    have e : k + 1 = (k % p + 1) + p * (k / p) := by omega
    rw [e, Nat.add_mul_mod_self_left]
    exact Nat.mod_eq_of_lt (by omega)

theorem div_next (n p : Nat) (hp : 1 ≤ p) : (n + 1 + (p - 1)) / p = (n + (p - 1)) / p + if n % p = 0 then 1 else 0 := by
  have h1 := Nat.div_add_mod n p
  have h2 := Nat.mod_lt n (show 0 < p by omega)
  have e1 : n + 1 + (p - 1) = n + p := by omega
  rw [e1, Nat.add_div_right _ (by omega)]
  by_cases h : n % p = 0
  · rw [if_pos h]
    have e : n + (p - 1) = (p - 1) + p * (n / p) := by omega
    rw [e, Nat.add_mul_div_left _ _ (by omega), Nat.div_eq_of_lt (show p - 1 < p by omega)]
    omega
  · rw [if_neg h]
    have e : n + (p - 1) = (n % p - 1) + p * (n / p + 1) := by rw [Nat.mul_add, Nat.mul_one]; omega
    rw [e, Nat.add_mul_div_left _ _ (by omega), Nat.div_eq_of_lt (show n % p - 1 < p by omega)]
    omega

theorem cnt_hay (m n : Nat) : cntB (hayF m) 100 n = (n + 2 * m) / (1 + 2 * m) := by
  induction n with
  | zero => rw [Nat.zero_add, Nat.div_eq_of_lt (by omega)]; rfl
  | succ n ih =>
    have hd := div_next n (1 + 2 * m) (by omega)
    rw [show 1 + 2 * m - 1 = 2 * m by omega] at hd
    rw [hd, ← ih]
    show cntB (hayF m) 100 n + (if hayF m n = 100 then 1 else 0) = _
    congr 1
    have := blkF_d (n % (1 + 2 * m))
    unfold hayF
    by_cases h : n % (1 + 2 * m) = 0
    · rw [if_pos h, if_pos (this.2 h)]
    · rw [if_neg h, if_neg (fun e => h (this.1 e))]

/-- What the law reckons itself. -/
theorem cnt_want (m cn : Nat) (h : cn + cntB (hayF m) 100 mil = mil) : ((cn : Int) == wrap64 (1000000 - wrap64 (999999 / (2 * (m : Int) + 1) + 1))) = true := by
  rw [cnt_hay] at h
  have e : (mil + 2 * m) / (1 + 2 * m) = 999999 / (1 + 2 * m) + 1 := by
    have e1 : mil + 2 * m = 999999 + (1 + 2 * m) := by show 1000000 + 2 * m = _; omega
    rw [e1, Nat.add_div_right _ (by omega)]
  rw [e] at h
  have e2 : (999999 / (2 * (m : Int) + 1)) = ((999999 / (1 + 2 * m) : Nat) : Int) := by
    rw [Int.natCast_ediv, Int.natCast_add, Int.natCast_mul, Int.add_comm]; rfl
  rw [e2]
  generalize 999999 / (1 + 2 * m) = q at h
  have h' : cn + (q + 1) = 1000000 := h
  rw [beq_iff_eq]
  unfold wrap64
  omega
end Go.Proofs.Qxb6604151a
