/-
  PLAIN FUNCTIONS AND LAWS: runs of digits, the bytes of a number. No Go in sight.
-/
import Derived.Test.Qxb6603727aPlain2
namespace Go.Proofs.Qxb6603727a.Pl

/-- Past the digits from k on. -/
def run (d : Nat → Int) (n k : Nat) : Nat :=
  if _h : k < n then if 48 ≤ d k ∧ d k ≤ 57 then run d n (k + 1) else k else k

theorem run_ge (d : Nat → Int) (n k : Nat) (h : ¬ k < n) : run d n k = k := by rw [run, dif_neg h]
theorem run_go (d : Nat → Int) (n k : Nat) (h : k < n) (e : 48 ≤ d k ∧ d k ≤ 57) : run d n k = run d n (k + 1) := by rw [run, dif_pos h, if_pos e]
theorem run_stop (d : Nat → Int) (n k : Nat) (h : k < n) (e : ¬ (48 ≤ d k ∧ d k ≤ 57)) : run d n k = k := by rw [run, dif_pos h, if_neg e]

theorem run_facts (d : Nat → Int) (n k : Nat) (hn : k ≤ n) : k ≤ run d n k ∧ run d n k ≤ n ∧ (∀ j, k ≤ j → j < run d n k → 48 ≤ d j ∧ d j ≤ 57) ∧ (run d n k < n → ¬ (48 ≤ d (run d n k) ∧ d (run d n k) ≤ 57)) := by
  induction h : n - k using Nat.strongRecOn generalizing k with
  | ind m ih =>
    by_cases hk : k < n
    · by_cases e : 48 ≤ d k ∧ d k ≤ 57
      · rw [run_go d n k hk e]
        obtain ⟨h1, h2, h3, h4⟩ := ih (n - (k + 1)) (by omega) (k + 1) (by omega) rfl
        refine ⟨by omega, h2, fun j hj1 hj2 => ?_, h4⟩
        by_cases hj : j = k
        · subst hj; exact e
        · exact h3 j (by omega) hj2
      · rw [run_stop d n k hk e]
        exact ⟨Nat.le_refl _, by omega, fun j h1 h2 => by omega, fun _ => e⟩
    · rw [run_ge d n k hk]
      exact ⟨Nat.le_refl _, hn, fun j h1 h2 => by omega, fun h => by omega⟩

/-- A byte of a number. -/
def nch (c : Int) : Prop := c = 45 ∨ c = 43 ∨ c = 46 ∨ c = 101 ∨ c = 69 ∨ (48 ≤ c ∧ c ≤ 57)
theorem nch_dig {c : Int} (h : 48 ≤ c ∧ c ≤ 57) : nch c := .inr (.inr (.inr (.inr (.inr h))))
theorem nch_del {c : Int} (h : nch c) : del c = false := by
  unfold nch at h
  simp [del]
  omega
theorem nch_not {c : Int} (h : nch c) : c ≠ 34 ∧ ¬ (c = 123 ∨ c = 91) := by
  unfold nch at h
  omega

/-- All bytes from i up to k belong to a number. -/
def Num (d : Nat → Int) (i k : Nat) : Prop := ∀ j, i ≤ j → j < k → nch (d j)
theorem Num.nil (d : Nat → Int) (i : Nat) : Num d i i := fun j h1 h2 => by omega
theorem Num.snoc {d : Nat → Int} {i k : Nat} (h : Num d i k) (hc : nch (d k)) : Num d i (k + 1) := fun j h1 h2 => by
  by_cases e : j = k
  · subst e; exact hc
  · exact h j h1 (by omega)
theorem Num.digits {d : Nat → Int} {i k e : Nat} (h : Num d i k) (hd : ∀ j, k ≤ j → j < e → 48 ≤ d j ∧ d j ≤ 57) : Num d i e := fun j h1 h2 => by
  by_cases hj : j < k
  · exact h j h1 hj
  · exact nch_dig (hd j (by omega) h2)

/-- Up to a delimiter or the end of the bytes. -/
theorem lit_upto (d : Nat → Int) (n i e : Nat) (hie : i ≤ e) (he : e ≤ n) (hall : ∀ j, i ≤ j → j < e → del (d j) = false) (hend : e < n → del (d e) = true) : lit d n i = e := by
  induction h : e - i using Nat.strongRecOn generalizing i with
  | ind m ih =>
    by_cases hk : i = e
    · subst hk
      by_cases hn : i < n
      · exact lit_stop d n i hn (hend hn)
      · rw [lit_ge d n i hn]; omega
    · rw [lit_go d n i (by omega) (hall i (Nat.le_refl _) (by omega))]
      exact ih (e - (i + 1)) (by omega) (i + 1) (by omega) (fun j h1 h2 => hall j (by omega) h2) rfl

/-- ValueEnd over a number. -/
theorem vend_num (d : Nat → Int) (n i e : Nat) (hie : i < e) (he : e ≤ n) (hall : Num d i e) (hend : e < n → del (d e) = true) : vend d n i = e := by
  have hi := nch_not (hall i (Nat.le_refl _) hie)
  unfold vend
  rw [if_neg (by omega), if_neg hi.1, if_neg hi.2]
  exact lit_upto d n i e (by omega) he (fun j h1 h2 => nch_del (hall j h1 h2)) hend

end Go.Proofs.Qxb6603727a.Pl
