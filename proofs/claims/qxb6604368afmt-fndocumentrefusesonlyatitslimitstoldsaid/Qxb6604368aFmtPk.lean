/-
  PLAIN: a key's end and its parts. No Go in sight.
-/
import Derived.Test.Qxb6604368aFmtPl
namespace Go.Proofs.Qxb6604368aFmt.Pl

/-- A byte at which a bare key ends. -/
def kst (c : Int) : Bool := del c || c == 46 || c == 61
/-- Past a bare key's part. -/
def skk (d : Nat → Int) (n p : Nat) : Nat :=
  if _h : p < n then if kst (d p) = true then p else skk d n (p + 1) else p
theorem skk_ge (d : Nat → Int) (n p : Nat) (h : ¬ p < n) : skk d n p = p := by rw [skk, dif_neg h]
theorem skk_st (d : Nat → Int) (n p : Nat) (h : p < n) (e : kst (d p) = true) : skk d n p = p := by rw [skk, dif_pos h, if_pos e]
theorem skk_go (d : Nat → Int) (n p : Nat) (h : p < n) (e : kst (d p) = false) : skk d n p = skk d n (p + 1) := by rw [skk, dif_pos h, if_neg (by rw [e]; decide)]
theorem skk_bd (d : Nat → Int) (n p : Nat) (hn : p ≤ n) : p ≤ skk d n p ∧ skk d n p ≤ n := by
  induction h : n - p using Nat.strongRecOn generalizing p with
  | ind m ih =>
    by_cases hp : p < n
    · cases e : kst (d p)
      · rw [skk_go d n p hp e]; have := ih (n - (p + 1)) (by omega) (p + 1) (by omega) rfl; omega
      · rw [skk_st d n p hp e]; omega
    · rw [skk_ge d n p hp]; omega

/-- Does a quoted part begin at p? -/
def quo (d : Nat → Int) (n p : Nat) : Bool := decide (p < n) && (d p == 34 || d p == 39)
/-- Past one part. -/
def kpt (d : Nat → Int) (n p : Nat) : Nat := if quo d n p = true then skq d n (d p) 1 (p + 1) else skk d n p
theorem kpt_bd (d : Nat → Int) (n p : Nat) (hn : p ≤ n) : p ≤ kpt d n p ∧ kpt d n p ≤ n := by
  unfold kpt
  by_cases h : quo d n p = true
  · rw [if_pos h]
    have hp : p < n := by
      unfold quo at h
      simp at h
      exact h.1
    have := skq_bd d n (d p) 1 (p + 1)
    have h1 := this.1 (by omega)
    omega
  · rw [if_neg h]; exact skk_bd d n p hn

/-- Past a key: where, and how many parts. -/
def key (d : Nat → Int) (n p : Nat) : Nat × Nat :=
  if _hp : p < n then
    if kpt d n (skb d n false p) = skb d n false p then (skb d n false p, 0)
    else if _h : p ≤ skb d n false (kpt d n (skb d n false p)) ∧ skb d n false (kpt d n (skb d n false p)) < n ∧ d (skb d n false (kpt d n (skb d n false p))) = 46 then
      ((key d n (skb d n false (kpt d n (skb d n false p)) + 1)).1, (key d n (skb d n false (kpt d n (skb d n false p)) + 1)).2 + 1)
    else (skb d n false (kpt d n (skb d n false p)), 1)
  else (p, 0)

theorem kpt_ge (d : Nat → Int) (n p : Nat) (h : ¬ p < n) : kpt d n (skb d n false p) = skb d n false p := by
  rw [skb_ge d n false p h]
  unfold kpt
  rw [if_neg (by unfold quo; simp [h]), skk_ge d n p h]
theorem key_none (d : Nat → Int) (n p : Nat) (h : kpt d n (skb d n false p) = skb d n false p) : key d n p = (skb d n false p, 0) := by
  by_cases hp : p < n
  · rw [key, dif_pos hp, if_pos h]
  · rw [key, dif_neg hp, skb_ge d n false p hp]
theorem key_bds (d : Nat → Int) (n p : Nat) (hn : p ≤ n) : p ≤ skb d n false p ∧ skb d n false p ≤ kpt d n (skb d n false p) ∧ kpt d n (skb d n false p) ≤ skb d n false (kpt d n (skb d n false p)) ∧ skb d n false (kpt d n (skb d n false p)) ≤ n := by
  have h1 := skb_bd d n false p hn
  have h2 := kpt_bd d n (skb d n false p) h1.2
  have h3 := skb_bd d n false (kpt d n (skb d n false p)) h2.2
  omega
theorem key_one (d : Nat → Int) (n p : Nat) (h : kpt d n (skb d n false p) ≠ skb d n false p) (h2 : ¬ (skb d n false (kpt d n (skb d n false p)) < n ∧ d (skb d n false (kpt d n (skb d n false p))) = 46)) : key d n p = (skb d n false (kpt d n (skb d n false p)), 1) := by
  have hp : p < n := Classical.byContradiction fun hp => h (kpt_ge d n p hp)
  rw [key, dif_pos hp, if_neg h, dif_neg (fun h3 => h2 h3.2)]
theorem key_more (d : Nat → Int) (n p : Nat) (hn : p ≤ n) (h : kpt d n (skb d n false p) ≠ skb d n false p) (h2 : skb d n false (kpt d n (skb d n false p)) < n ∧ d (skb d n false (kpt d n (skb d n false p))) = 46) :
    key d n p = ((key d n (skb d n false (kpt d n (skb d n false p)) + 1)).1, (key d n (skb d n false (kpt d n (skb d n false p)) + 1)).2 + 1) := by
  have := key_bds d n p hn
  have hp : p < n := Classical.byContradiction fun hp => h (kpt_ge d n p hp)
  rw [key, dif_pos hp, if_neg h, dif_pos ⟨by omega, h2⟩]
theorem key_bd (d : Nat → Int) (n p : Nat) (hn : p ≤ n) : p ≤ (key d n p).1 ∧ (key d n p).1 ≤ n ∧ (key d n p).2 ≤ (key d n p).1 - p := by
  induction h : n - p using Nat.strongRecOn generalizing p with
  | ind m ih =>
    have hb := key_bds d n p hn
    by_cases h1 : kpt d n (skb d n false p) = skb d n false p
    · rw [key_none d n p h1]
      show p ≤ skb d n false p ∧ skb d n false p ≤ n ∧ 0 ≤ _
      omega
    · by_cases h2 : skb d n false (kpt d n (skb d n false p)) < n ∧ d (skb d n false (kpt d n (skb d n false p))) = 46
      · rw [key_more d n p hn h1 h2]
        have := ih (n - (skb d n false (kpt d n (skb d n false p)) + 1)) (by omega) (skb d n false (kpt d n (skb d n false p)) + 1) (by omega) rfl
        dsimp only
        omega
      · rw [key_one d n p h1 h2]
        dsimp only
        omega
end Go.Proofs.Qxb6604368aFmt.Pl
