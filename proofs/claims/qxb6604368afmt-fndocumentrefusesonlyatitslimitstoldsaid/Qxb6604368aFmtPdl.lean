/-
  PLAIN: the loop over a document's lines, each line's end and count handed in. No Go in sight.
-/
import Derived.Test.Qxb6604368aFmtPlp
namespace Go.Proofs.Qxb6604368aFmt.Pl

/-- What the lines from j on count. -/
def dl (d : Nat → Int) (n : Nat) (g : Nat → Nat × Nat) (j : Nat) : Nat :=
  if _hj : j < n then
    if skb d n true j < n then
      if _h2 : j < skl d n (g (skb d n true j)).1 then (g (skb d n true j)).2 + dl d n g (skl d n (g (skb d n true j)).1) else 0
    else 0
  else 0
theorem dl_end (d : Nat → Int) (n : Nat) (g : Nat → Nat × Nat) (j : Nat) (h : ¬ skb d n true j < n) : dl d n g j = 0 := by
  by_cases hj : j < n
  · rw [dl, dif_pos hj, if_neg h]
  · rw [dl, dif_neg hj]
theorem dl_go (d : Nat → Int) (n : Nat) (g : Nat → Nat × Nat) (j : Nat) (hj : j ≤ n) (h : skb d n true j < n) (h2 : j < skl d n (g (skb d n true j)).1) : dl d n g j = (g (skb d n true j)).2 + dl d n g (skl d n (g (skb d n true j)).1) := by
  have hb := skb_bd d n true j hj
  rw [dl, dif_pos (by omega), if_pos h, dif_pos h2]
theorem skl_next (d : Nat → Int) (n q r : Nat) (hq : q < n) (h1 : q ≤ r) (h2 : r ≤ n) : q < skl d n r ∧ skl d n r ≤ n ∧ (r < n → r < skl d n r) := by
  have hb := skl_bd d n r h2
  by_cases h : r < n
  · have := skl_lt d n r h
    omega
  · omega
theorem dl_bd (d : Nat → Int) (n : Nat) (g : Nat → Nat × Nat)
    (hg : ∀ q, q < n → q ≤ (g q).1 ∧ (g q).1 ≤ n ∧ (g q).2 ≤ (g q).1 - q + 1) (j : Nat) (hj : j ≤ n) : dl d n g j ≤ n - j + 1 := by
  induction hm : n - j using Nat.strongRecOn generalizing j with
  | ind m ih =>
    have hb := skb_bd d n true j hj
    by_cases h : skb d n true j < n
    · have hg2 := hg _ h
      have hs := skl_next d n _ _ h hg2.1 hg2.2.1
      rw [dl_go d n g j hj h (by omega)]
      by_cases hr : (g (skb d n true j)).1 < n
      · have := ih (n - skl d n (g (skb d n true j)).1) (by omega) (skl d n (g (skb d n true j)).1) hs.2.1 rfl
        have h5 := hs.2.2 hr
        omega
      · have hsn : skl d n (g (skb d n true j)).1 = n := by
          have := (skl_bd d n (g (skb d n true j)).1 hg2.2.1).1
          omega
        rw [hsn, dl_end d n g n (by have := (skb_bd d n true n (Nat.le_refl _)).1; omega)]
        omega
    · rw [dl_end d n g j h]; omega
end Go.Proofs.Qxb6604368aFmt.Pl
