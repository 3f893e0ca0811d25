/-
  PLAIN: the loop over an array's or an inline table's items, each item's end and count handed in. No Go in sight.
-/
import Derived.Test.Qxb6604368aFmtPk
namespace Go.Proofs.Qxb6604368aFmt.Pl

/-- A byte at which an item may begin. -/
def ist (d : Nat → Int) (n p : Nat) : Prop := p < n ∧ d p ≠ 32 ∧ d p ≠ 9 ∧ d p ≠ 10 ∧ d p ≠ 13 ∧ d p ≠ 35 ∧ d p ≠ 93 ∧ d p ≠ 125 ∧ d p ≠ 44

/-- Where the loop ends, and what it counts. -/
def lp (d : Nat → Int) (n : Nat) (g : Nat → Bool → Nat × Nat) (j : Nat) (first : Bool) : Nat × Nat :=
  if _hj : j < n then
    if _h : j ≤ skb d n true j ∧ skb d n true j < n then
      if d (skb d n true j) = 93 ∨ d (skb d n true j) = 125 then (skb d n true j + 1, 0)
      else if d (skb d n true j) = 44 then lp d n g (skb d n true j + 1) true
      else if _h2 : j < (g (skb d n true j) first).1 then
        ((lp d n g (g (skb d n true j) first).1 false).1, (g (skb d n true j) first).2 + (lp d n g (g (skb d n true j) first).1 false).2)
      else (j, 0)
    else (skb d n true j, 0)
  else (j, 0)

theorem lp_end (d : Nat → Int) (n : Nat) (g : Nat → Bool → Nat × Nat) (j : Nat) (first : Bool) (h : ¬ skb d n true j < n) : lp d n g j first = (skb d n true j, 0) := by
  by_cases hj : j < n
  · rw [lp, dif_pos hj, dif_neg (fun h3 => h h3.2)]
  · rw [lp, dif_neg hj, skb_ge d n true j hj]
theorem lp_close (d : Nat → Int) (n : Nat) (g : Nat → Bool → Nat × Nat) (j : Nat) (first : Bool) (hj : j ≤ n) (h : skb d n true j < n) (e : d (skb d n true j) = 93 ∨ d (skb d n true j) = 125) : lp d n g j first = (skb d n true j + 1, 0) := by
  have hb := skb_bd d n true j hj
  rw [lp, dif_pos (by omega), dif_pos ⟨hb.1, h⟩, if_pos e]
theorem lp_comma (d : Nat → Int) (n : Nat) (g : Nat → Bool → Nat × Nat) (j : Nat) (first : Bool) (hj : j ≤ n) (h : skb d n true j < n) (e : ¬ (d (skb d n true j) = 93 ∨ d (skb d n true j) = 125)) (e2 : d (skb d n true j) = 44) : lp d n g j first = lp d n g (skb d n true j + 1) true := by
  have hb := skb_bd d n true j hj
  rw [lp, dif_pos (by omega), dif_pos ⟨hb.1, h⟩, if_neg e, if_pos e2]
theorem lp_item (d : Nat → Int) (n : Nat) (g : Nat → Bool → Nat × Nat) (j : Nat) (first : Bool) (hj : j ≤ n) (h : skb d n true j < n) (e : ¬ (d (skb d n true j) = 93 ∨ d (skb d n true j) = 125)) (e2 : d (skb d n true j) ≠ 44) (h2 : skb d n true j < (g (skb d n true j) first).1) :
    lp d n g j first = ((lp d n g (g (skb d n true j) first).1 false).1, (g (skb d n true j) first).2 + (lp d n g (g (skb d n true j) first).1 false).2) := by
  have hb := skb_bd d n true j hj
  rw [lp, dif_pos (by omega), dif_pos ⟨hb.1, h⟩, if_neg e, if_neg e2, dif_pos (by omega)]
theorem ist_at (d : Nat → Int) (n j : Nat) (hj : j ≤ n) (h : skb d n true j < n) (e : ¬ (d (skb d n true j) = 93 ∨ d (skb d n true j) = 125)) (e2 : d (skb d n true j) ≠ 44) : ist d n (skb d n true j) := by
  rcases skb_at d n true j hj with h1 | ⟨h1, h2, h3⟩
  · omega
  · have h4 := h3 rfl
    exact ⟨h, by omega, by omega, by omega, by omega, by omega, by omega, by omega, e2⟩

theorem lp_bd (d : Nat → Int) (n : Nat) (g : Nat → Bool → Nat × Nat) (q0 : Nat)
    (hg : ∀ q first, q0 ≤ q → ist d n q → q < (g q first).1 ∧ (g q first).1 ≤ n ∧ (g q first).2 ≤ (g q first).1 - q + (if first = true then 1 else 0))
    (j : Nat) (first : Bool) (hj : j ≤ n) (hq : q0 ≤ j) : j ≤ (lp d n g j first).1 ∧ (lp d n g j first).1 ≤ n ∧ (lp d n g j first).2 ≤ (lp d n g j first).1 - j + (if first = true then 1 else 0) := by
  induction hm : n - j using Nat.strongRecOn generalizing j first with
  | ind m ih =>
    have hb := skb_bd d n true j hj
    by_cases h : skb d n true j < n
    · by_cases e : d (skb d n true j) = 93 ∨ d (skb d n true j) = 125
      · rw [lp_close d n g j first hj h e]
        dsimp only
        omega
      · by_cases e2 : d (skb d n true j) = 44
        · rw [lp_comma d n g j first hj h e e2]
          have := ih (n - (skb d n true j + 1)) (by omega) (skb d n true j + 1) true (by omega) (by omega) rfl
          rw [if_pos rfl] at this
          omega
        · have hg2 := hg (skb d n true j) first (by omega) (ist_at d n j hj h e e2)
          rw [lp_item d n g j first hj h e e2 hg2.1]
          have := ih (n - (g (skb d n true j) first).1) (by omega) (g (skb d n true j) first).1 false hg2.2.1 (by omega) rfl
          rw [if_neg (by decide)] at this
          dsimp only
          omega
    · rw [lp_end d n g j first h]
      dsimp only
      omega
end Go.Proofs.Qxb6604368aFmt.Pl
