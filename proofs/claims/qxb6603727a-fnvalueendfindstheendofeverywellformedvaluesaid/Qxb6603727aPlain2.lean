/-
  PLAIN FUNCTIONS AND LAWS: ValueEnd. No Go in sight.
-/
import Derived.Test.Qxb6603727aPlain
namespace Go.Proofs.Qxb6603727a.Pl

theorem scan_past (d : Nat → Int) (n k : Nat) (h : k < n) : k < scan d n (k + 1) := scan_lo d n (k + 1) h

/-- The walk through an object or an array, from k at depth dep. -/
def brk (d : Nat → Int) (n k : Nat) (dep : Int) : Nat :=
  if h : k < n then
    have _hp : k < scan d n (k + 1) := scan_past d n k h
    if d k = 34 then brk d n (scan d n (k + 1)) dep
    else if d k = 123 ∨ d k = 91 then brk d n (k + 1) (dep + 1)
    else if d k = 125 ∨ d k = 93 then (if dep - 1 = 0 then k + 1 else brk d n (k + 1) (dep - 1))
    else brk d n (k + 1) dep
  else n

/-- The bytes that end a number or a literal. -/
def del (c : Int) : Bool := c == 44 || c == 125 || c == 93 || c == 32 || c == 9 || c == 10 || c == 13

/-- A number, true, false or null: to the next delimiter. -/
def lit (d : Nat → Int) (n k : Nat) : Nat :=
  if _h : k < n then if del (d k) = true then k else lit d n (k + 1) else n

/-- ValueEnd. -/
def vend (d : Nat → Int) (n i : Nat) : Nat :=
  if i = n then n else if d i = 34 then scan d n (i + 1) else if d i = 123 ∨ d i = 91 then brk d n i 0 else lit d n i

theorem brk_ge (d : Nat → Int) (n k : Nat) (dep : Int) (h : ¬ k < n) : brk d n k dep = n := by rw [brk, dif_neg h]
theorem brk_str (d : Nat → Int) (n k : Nat) (dep : Int) (h : k < n) (e : d k = 34) : brk d n k dep = brk d n (scan d n (k + 1)) dep := by
  rw [brk, dif_pos h, if_pos e]
theorem brk_in (d : Nat → Int) (n k : Nat) (dep : Int) (h : k < n) (e : d k = 123 ∨ d k = 91) : brk d n k dep = brk d n (k + 1) (dep + 1) := by
  rw [brk, dif_pos h, if_neg (by omega), if_pos e]
theorem brk_last (d : Nat → Int) (n k : Nat) (dep : Int) (h : k < n) (e : d k = 125 ∨ d k = 93) (e1 : dep = 1) : brk d n k dep = k + 1 := by
  rw [brk, dif_pos h, if_neg (by omega), if_neg (by omega), if_pos e, if_pos (by omega)]
theorem brk_out (d : Nat → Int) (n k : Nat) (dep : Int) (h : k < n) (e : d k = 125 ∨ d k = 93) (e1 : dep ≠ 1) : brk d n k dep = brk d n (k + 1) (dep - 1) := by
  rw [brk, dif_pos h, if_neg (by omega), if_neg (by omega), if_pos e, if_neg (by omega)]
theorem brk_oth (d : Nat → Int) (n k : Nat) (dep : Int) (h : k < n) (e1 : d k ≠ 34) (e2 : ¬ (d k = 123 ∨ d k = 91)) (e3 : ¬ (d k = 125 ∨ d k = 93)) : brk d n k dep = brk d n (k + 1) dep := by
  rw [brk, dif_pos h, if_neg e1, if_neg e2, if_neg e3]
theorem lit_ge (d : Nat → Int) (n k : Nat) (h : ¬ k < n) : lit d n k = n := by rw [lit, dif_neg h]
theorem lit_stop (d : Nat → Int) (n k : Nat) (h : k < n) (e : del (d k) = true) : lit d n k = k := by rw [lit, dif_pos h, if_pos e]
theorem lit_go (d : Nat → Int) (n k : Nat) (h : k < n) (e : del (d k) = false) : lit d n k = lit d n (k + 1) := by
  rw [lit, dif_pos h, if_neg (by rw [e]; decide)]

/-! ### What lies behind the end does not matter -/
theorem lit_le (d : Nat → Int) (n k : Nat) : lit d n k ≤ n := by
  induction h : n - k using Nat.strongRecOn generalizing k with
  | ind m ih =>
    by_cases hk : k < n
    · cases e : del (d k)
      · rw [lit_go d n k hk e]; exact ih (n - (k + 1)) (by omega) _ rfl
      · rw [lit_stop d n k hk e]; omega
    · rw [lit_ge d n k hk]; exact Nat.le_refl _
theorem lit_lo (d : Nat → Int) (n k : Nat) (hn : k ≤ n) : k ≤ lit d n k := by
  induction h : n - k using Nat.strongRecOn generalizing k with
  | ind m ih =>
    by_cases hk : k < n
    · cases e : del (d k)
      · rw [lit_go d n k hk e]; have := ih (n - (k + 1)) (by omega) (k + 1) (by omega) rfl; omega
      · rw [lit_stop d n k hk e]; omega
    · rw [lit_ge d n k hk]; omega
theorem lit_again (d : Nat → Int) (n k : Nat) (hn : k ≤ n) : lit d (lit d n k) k = lit d n k := by
  induction h : n - k using Nat.strongRecOn generalizing k with
  | ind m ih =>
    by_cases hk : k < n
    · cases e : del (d k)
      · have hlo := lit_lo d n (k + 1) (by omega)
        rw [lit_go d n k hk e, lit_go d _ k (by omega) e]
        exact ih (n - (k + 1)) (by omega) (k + 1) (by omega) rfl
      · rw [lit_stop d n k hk e, lit_ge d k k (by omega)]
    · rw [lit_ge d n k hk, lit_ge d n k hk]

theorem brk_le (d : Nat → Int) (n k : Nat) (dep : Int) : brk d n k dep ≤ n := by
  induction h : n - k using Nat.strongRecOn generalizing k dep with
  | ind m ih =>
    by_cases hk : k < n
    · by_cases e1 : d k = 34
      · rw [brk_str d n k dep hk e1]
        have := scan_past d n k hk
        exact ih (n - scan d n (k + 1)) (by omega) _ _ rfl
      · by_cases e2 : d k = 123 ∨ d k = 91
        · rw [brk_in d n k dep hk e2]; exact ih (n - (k + 1)) (by omega) _ _ rfl
        · by_cases e3 : d k = 125 ∨ d k = 93
          · by_cases e4 : dep = 1
            · rw [brk_last d n k dep hk e3 e4]; omega
            · rw [brk_out d n k dep hk e3 e4]; exact ih (n - (k + 1)) (by omega) _ _ rfl
          · rw [brk_oth d n k dep hk e1 e2 e3]; exact ih (n - (k + 1)) (by omega) _ _ rfl
    · rw [brk_ge d n k dep hk]; exact Nat.le_refl _
theorem brk_lo (d : Nat → Int) (n k : Nat) (dep : Int) (hn : k ≤ n) : k ≤ brk d n k dep := by
  induction h : n - k using Nat.strongRecOn generalizing k dep with
  | ind m ih =>
    by_cases hk : k < n
    · by_cases e1 : d k = 34
      · rw [brk_str d n k dep hk e1]
        have := scan_past d n k hk
        have := ih (n - scan d n (k + 1)) (by omega) _ dep (scan_le d n (k + 1)) rfl
        omega
      · by_cases e2 : d k = 123 ∨ d k = 91
        · rw [brk_in d n k dep hk e2]; have := ih (n - (k + 1)) (by omega) (k + 1) (dep + 1) (by omega) rfl; omega
        · by_cases e3 : d k = 125 ∨ d k = 93
          · by_cases e4 : dep = 1
            · rw [brk_last d n k dep hk e3 e4]; omega
            · rw [brk_out d n k dep hk e3 e4]; have := ih (n - (k + 1)) (by omega) (k + 1) (dep - 1) (by omega) rfl; omega
          · rw [brk_oth d n k dep hk e1 e2 e3]; have := ih (n - (k + 1)) (by omega) (k + 1) dep (by omega) rfl; omega
    · rw [brk_ge d n k dep hk]; omega

/-- A string that ends at e: over any cut from e on it ends there, or the cut is where it ended. -/
theorem scan_inner (d : Nat → Int) (n r k : Nat) (h1 : scan d n k ≤ r) (h2 : r ≤ n) : scan d r k = scan d n k := by
  by_cases h : scan d n k < n
  · exact scan_cut d d n r k h (fun _ _ => rfl) h1
  · have e : scan d n k = n := by have := scan_le d n k; omega
    have : r = n := by omega
    rw [this]

theorem brk_again (d : Nat → Int) (n k : Nat) (dep : Int) (hn : k ≤ n) : brk d (brk d n k dep) k dep = brk d n k dep := by
  induction h : n - k using Nat.strongRecOn generalizing k dep with
  | ind m ih =>
    by_cases hk : k < n
    · by_cases e1 : d k = 34
      · have hp := scan_past d n k hk
        have hl := scan_le d n (k + 1)
        have hb := brk_lo d n (scan d n (k + 1)) dep hl
        have hb2 := brk_le d n (scan d n (k + 1)) dep
        rw [brk_str d n k dep hk e1, brk_str d _ k dep (by omega) e1, scan_inner d n _ (k + 1) hb hb2]
        exact ih _ (by omega) _ dep hl rfl
      · by_cases e2 : d k = 123 ∨ d k = 91
        · have hb := brk_lo d n (k + 1) (dep + 1) (by omega)
          rw [brk_in d n k dep hk e2, brk_in d _ k dep (by omega) e2]; exact ih (n - (k + 1)) (by omega) _ _ (by omega) rfl
        · by_cases e3 : d k = 125 ∨ d k = 93
          · by_cases e4 : dep = 1
            · rw [brk_last d n k dep hk e3 e4, brk_last d _ k dep (by omega) e3 e4]
            · have hb := brk_lo d n (k + 1) (dep - 1) (by omega)
              rw [brk_out d n k dep hk e3 e4, brk_out d _ k dep (by omega) e3 e4]; exact ih (n - (k + 1)) (by omega) _ _ (by omega) rfl
          · have hb := brk_lo d n (k + 1) dep (by omega)
            rw [brk_oth d n k dep hk e1 e2 e3, brk_oth d _ k dep (by omega) e1 e2 e3]; exact ih (n - (k + 1)) (by omega) _ _ (by omega) rfl
    · rw [brk_ge d n k dep hk, brk_ge d n k dep hk]

theorem vend_facts (d : Nat → Int) (n i : Nat) (hi : i ≤ n) : i ≤ vend d n i ∧ vend d n i ≤ n ∧ vend d (vend d n i) i = vend d n i := by
  unfold vend
  by_cases h : i = n
  · subst h; simp
  · have hlt : i < n := by omega
    simp only [if_neg h]
    by_cases e1 : d i = 34
    · simp only [if_pos e1]
      have := scan_past d n i hlt
      refine ⟨by omega, scan_le d n _, ?_⟩
      rw [if_neg (by omega)]; exact scan_again d n (i + 1)
    · simp only [if_neg e1]
      by_cases e2 : d i = 123 ∨ d i = 91
      · simp only [if_pos e2]
        have h1 := brk_in d n i 0 hlt e2
        have h2 := brk_lo d n (i + 1) (0 + 1) (by omega)
        rw [← h1] at h2
        refine ⟨by omega, brk_le d n _ _, ?_⟩
        rw [if_neg (by omega)]; exact brk_again d n i 0 (by omega)
      · simp only [if_neg e2]
        refine ⟨lit_lo d n i hi, lit_le d n i, ?_⟩
        by_cases h3 : i = lit d n i
        · rw [if_pos h3]
        · rw [if_neg h3]; exact lit_again d n i hi

end Go.Proofs.Qxb6603727a.Pl
