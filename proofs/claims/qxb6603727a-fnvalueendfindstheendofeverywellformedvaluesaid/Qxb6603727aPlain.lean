/-
  PLAIN FUNCTIONS AND LAWS of the JSON scanners: no Go in sight.
-/
namespace Go.Proofs.Qxb6603727a.Pl

/-- The forward scanner at position k: past a backslash and the byte behind it; just past the first quote; n if there is none. -/
def scan (d : Nat → Int) (n k : Nat) : Nat :=
  if _h : k < n then
    if d k = 92 then scan d n (k + 2) else if d k = 34 then k + 1 else scan d n (k + 1)
  else n

theorem scan_ge (d : Nat → Int) (n k : Nat) (h : ¬ k < n) : scan d n k = n := by
  rw [scan, dif_neg h]
theorem scan_bs (d : Nat → Int) (n k : Nat) (h : k < n) (e : d k = 92) : scan d n k = scan d n (k + 2) := by
  rw [scan, dif_pos h, if_pos e]
theorem scan_q (d : Nat → Int) (n k : Nat) (h : k < n) (e : d k = 34) : scan d n k = k + 1 := by
  rw [scan, dif_pos h, if_neg (by omega), if_pos e]
theorem scan_o (d : Nat → Int) (n k : Nat) (h : k < n) (e1 : d k ≠ 92) (e2 : d k ≠ 34) : scan d n k = scan d n (k + 1) := by
  rw [scan, dif_pos h, if_neg e1, if_neg e2]

theorem scan_le (d : Nat → Int) (n k : Nat) : scan d n k ≤ n := by
  induction h : n - k using Nat.strongRecOn generalizing k with
  | ind m ih =>
    by_cases hk : k < n
    · by_cases h1 : d k = 92
      · rw [scan_bs d n k hk h1]; exact ih (n - (k + 2)) (by omega) _ rfl
      · by_cases h2 : d k = 34
        · rw [scan_q d n k hk h2]; omega
        · rw [scan_o d n k hk h1 h2]; exact ih (n - (k + 1)) (by omega) _ rfl
    · rw [scan_ge d n k hk]; exact Nat.le_refl _

theorem scan_lo (d : Nat → Int) (n k : Nat) (hn : k ≤ n) : k ≤ scan d n k := by
  induction h : n - k using Nat.strongRecOn generalizing k with
  | ind m ih =>
    by_cases hk : k < n
    · by_cases h1 : d k = 92
      · rw [scan_bs d n k hk h1]
        by_cases h3 : k + 2 ≤ n
        · have := ih (n - (k + 2)) (by omega) (k + 2) h3 rfl; omega
        · rw [scan_ge d n (k + 2) (by omega)]; omega
      · by_cases h2 : d k = 34
        · rw [scan_q d n k hk h2]; omega
        · rw [scan_o d n k hk h1 h2]; have := ih (n - (k + 1)) (by omega) (k + 1) (by omega) rfl; omega
    · rw [scan_ge d n k hk]; omega

/-- What stands behind the end does not matter: the scanner that stops short of n stops there over any bytes that agree below. -/
theorem scan_cut (d d' : Nat → Int) (n m k : Nat) (hr : scan d n k < n) (hd : ∀ j, j < scan d n k → d' j = d j) (hm : scan d n k ≤ m) : scan d' m k = scan d n k := by
  induction h : n - k using Nat.strongRecOn generalizing k with
  | ind q ih =>
    by_cases hk : k < n
    · have hlo := scan_lo d n k (by omega)
      by_cases h1 : d k = 92
      · have e := scan_bs d n k hk h1
        rw [e] at hr hd hm ⊢
        have hk2 : k + 2 ≤ n := by
          by_cases h3 : k + 2 ≤ n
          · exact h3
          · rw [scan_ge d n (k + 2) (by omega)] at hr; omega
        have hlo2 := scan_lo d n (k + 2) hk2
        rw [scan_bs d' m k (by omega) (by rw [hd k (by omega)]; exact h1)]
        exact ih (n - (k + 2)) (by omega) _ hr hd hm rfl
      · by_cases h2 : d k = 34
        · have e := scan_q d n k hk h2
          rw [e] at hr hd hm ⊢
          exact scan_q d' m k (by omega) (by rw [hd k (by omega)]; exact h2)
        · have e := scan_o d n k hk h1 h2
          rw [e] at hr hd hm ⊢
          have hlo2 := scan_lo d n (k + 1) (by omega)
          have hdk := hd k (by omega)
          rw [scan_o d' m k (by omega) (by rw [hdk]; exact h1) (by rw [hdk]; exact h2)]
          exact ih (n - (k + 1)) (by omega) _ hr hd hm rfl
    · rw [scan_ge d n k hk] at hr; omega

/-- Over the bytes cut at the end the scanner finds that end again. -/
theorem scan_again (d : Nat → Int) (n k : Nat) : scan d (scan d n k) k = scan d n k := by
  by_cases h : scan d n k < n
  · exact scan_cut d d n _ k h (fun _ _ => rfl) (Nat.le_refl _)
  · have e : scan d n k = n := by have := scan_le d n k; omega
    rw [e]; exact e

/-- Is the run of backslashes that ends just below lo + m, and reaches down to lo at most, odd? -/
def esc (d : Nat → Int) (lo : Nat) : Nat → Bool
  | 0 => false
  | m + 1 => if d (lo + m) = 92 then !(esc d lo m) else false

theorem esc_yes (d : Nat → Int) (lo m : Nat) (h : d (lo + m) = 92) : esc d lo (m + 1) = !(esc d lo m) := by
  rw [esc, if_pos h]
theorem esc_no (d : Nat → Int) (lo m : Nat) (h : d (lo + m) ≠ 92) : esc d lo (m + 1) = false := by
  rw [esc, if_neg h]

/-- A byte that is no backslash at the bottom of the window does not count. -/
theorem esc_skip (d : Nat → Int) (lo m : Nat) (h : d lo ≠ 92) : esc d lo (m + 1) = esc d (lo + 1) m := by
  induction m with
  | zero => rw [esc_no d lo 0 (by simpa using h)]; rfl
  | succ m ih =>
    have e : lo + (m + 1) = lo + 1 + m := by omega
    by_cases hb : d (lo + (m + 1)) = 92
    · rw [esc_yes d lo (m + 1) hb, esc_yes d (lo + 1) m (by rw [← e]; exact hb), ih]
    · rw [esc_no d lo (m + 1) hb, esc_no d (lo + 1) m (by rw [← e]; exact hb)]

/-- Nor do a backslash and the byte behind it. -/
theorem esc_two (d : Nat → Int) (lo m : Nat) (h : d lo = 92) : esc d lo (m + 2) = esc d (lo + 2) m := by
  induction m with
  | zero =>
    by_cases hb : d (lo + 1) = 92
    · rw [esc_yes d lo 1 hb, esc_yes d lo 0 (by simpa using h)]; rfl
    · rw [esc_no d lo 1 hb]; rfl
  | succ m ih =>
    have e : lo + (m + 2) = lo + 2 + m := by omega
    by_cases hb : d (lo + (m + 2)) = 92
    · rw [esc_yes d lo (m + 2) hb, esc_yes d (lo + 2) m (by rw [← e]; exact hb), ih]
    · rw [esc_no d lo (m + 2) hb, esc_no d (lo + 2) m (by rw [← e]; exact hb)]

/-- From k, with no quote short of the one at k + m: the scanner stops past that one, or steps over it, by the run of backslashes ahead of it. -/
theorem scan_run (d : Nat → Int) (n k m : Nat) (hq : k + m < n) (h34 : d (k + m) = 34) (hno : ∀ j, k ≤ j → j < k + m → d j ≠ 34) :
    scan d n k = if esc d k m = true then scan d n (k + m + 1) else k + m + 1 := by
  induction m using Nat.strongRecOn generalizing k with
  | ind m ih =>
    match m with
    | 0 => simp only [esc]; exact scan_q d n k (by omega) h34
    | 1 =>
      by_cases hb : d k = 92
      · rw [scan_bs d n k (by omega) hb, esc_yes d k 0 (by simpa using hb)]; simp [esc]
      · rw [scan_o d n k (by omega) hb (hno k (by omega) (by omega)), esc_no d k 0 (by simpa using hb)]
        exact scan_q d n (k + 1) (by omega) h34
    | m + 2 =>
      by_cases hb : d k = 92
      · have e : k + 2 + m = k + (m + 2) := by omega
        rw [scan_bs d n k (by omega) hb, esc_two d k m hb, ih m (by omega) (k + 2) (by omega) (by rw [e]; exact h34) (fun j h1 h2 => hno j (by omega) (by omega)), e]
      · have e : k + 1 + (m + 1) = k + (m + 2) := by omega
        rw [scan_o d n k (by omega) hb (hno k (by omega) (by omega)), esc_skip d k (m + 1) hb, ih (m + 1) (by omega) (k + 1) (by omega) (by rw [e]; exact h34) (fun j h1 h2 => hno j (by omega) (by omega)), e]

/-- No quote from k on: the scanner runs to the end. -/
theorem scan_none (d : Nat → Int) (n k : Nat) (hno : ∀ j, k ≤ j → j < n → d j ≠ 34) : scan d n k = n := by
  induction h : n - k using Nat.strongRecOn generalizing k with
  | ind m ih =>
    by_cases hk : k < n
    · by_cases h1 : d k = 92
      · rw [scan_bs d n k hk h1]; exact ih _ (by omega) (k + 2) (fun j h1 h2 => hno j (by omega) h2) rfl
      · rw [scan_o d n k hk h1 (hno k (by omega) hk)]; exact ih _ (by omega) (k + 1) (fun j h1 h2 => hno j (by omega) h2) rfl
    · exact scan_ge d n k hk

/-- A window whose bottom byte is no backslash, taken with k bytes more below it: the same run. -/
theorem esc_lower (d : Nat → Int) (lo q m : Nat) (h : d (lo + q) ≠ 92) : esc d lo (q + 1 + m) = esc d (lo + q + 1) m := by
  induction m with
  | zero => exact esc_no d lo q h
  | succ m ih =>
    have e : lo + (q + 1 + m) = lo + q + 1 + m := by omega
    show esc d lo (q + 1 + m + 1) = _
    by_cases hb : d (lo + (q + 1 + m)) = 92
    · rw [esc_yes d lo (q + 1 + m) hb, esc_yes d (lo + q + 1) m (by rw [← e]; exact hb), ih]
    · rw [esc_no d lo (q + 1 + m) hb, esc_no d (lo + q + 1) m (by rw [← e]; exact hb)]

end Go.Proofs.Qxb6603727a.Pl
