/-
  PLAIN FUNCTIONS: how far the scanner's small steps read. No Go in sight.
-/
namespace Go.Proofs.Qxb6604368aFmt.Pl

/-- Past the rest of the line. -/
def skl (d : Nat → Int) (n p : Nat) : Nat :=
  if _h : p < n then if d p = 10 ∨ d p = 13 then p + 1 else skl d n (p + 1) else p

theorem skl_ge (d : Nat → Int) (n p : Nat) (h : ¬ p < n) : skl d n p = p := by rw [skl, dif_neg h]
theorem skl_nl (d : Nat → Int) (n p : Nat) (h : p < n) (e : d p = 10 ∨ d p = 13) : skl d n p = p + 1 := by rw [skl, dif_pos h, if_pos e]
theorem skl_go (d : Nat → Int) (n p : Nat) (h : p < n) (e : ¬ (d p = 10 ∨ d p = 13)) : skl d n p = skl d n (p + 1) := by rw [skl, dif_pos h, if_neg e]
theorem skl_bd (d : Nat → Int) (n p : Nat) (hn : p ≤ n) : p ≤ skl d n p ∧ skl d n p ≤ n := by
  induction h : n - p using Nat.strongRecOn generalizing p with
  | ind m ih =>
    by_cases hp : p < n
    · by_cases e : d p = 10 ∨ d p = 13
      · rw [skl_nl d n p hp e]; omega
      · rw [skl_go d n p hp e]; have := ih (n - (p + 1)) (by omega) (p + 1) (by omega) rfl; omega
    · rw [skl_ge d n p hp]; omega
theorem skl_lt (d : Nat → Int) (n p : Nat) (h : p < n) : p < skl d n p := by
  by_cases e : d p = 10 ∨ d p = 13
  · rw [skl_nl d n p h e]; omega
  · rw [skl_go d n p h e]; have := (skl_bd d n (p + 1) (by omega)).1; omega

/-- Past blanks (and, if nl, line breaks and comments). -/
def skb (d : Nat → Int) (n : Nat) (nl : Bool) (p : Nat) : Nat :=
  if h : p < n then
    have _hp : p < skl d n p := skl_lt d n p h
    if d p = 32 ∨ d p = 9 then skb d n nl (p + 1)
    else if nl = false then p
    else if d p = 10 ∨ d p = 13 then skb d n nl (p + 1)
    else if d p = 35 then skb d n nl (skl d n p)
    else p
  else p

theorem skb_ge (d : Nat → Int) (n : Nat) (nl : Bool) (p : Nat) (h : ¬ p < n) : skb d n nl p = p := by rw [skb, dif_neg h]
theorem skb_sp (d : Nat → Int) (n : Nat) (nl : Bool) (p : Nat) (h : p < n) (e : d p = 32 ∨ d p = 9) : skb d n nl p = skb d n nl (p + 1) := by rw [skb, dif_pos h, if_pos e]
theorem skb_no (d : Nat → Int) (n : Nat) (p : Nat) (h : p < n) (e : ¬ (d p = 32 ∨ d p = 9)) : skb d n false p = p := by rw [skb, dif_pos h, if_neg e, if_pos rfl]
theorem skb_nl (d : Nat → Int) (n : Nat) (p : Nat) (h : p < n) (e : d p = 10 ∨ d p = 13) : skb d n true p = skb d n true (p + 1) := by
  rw [skb, dif_pos h, if_neg (by omega), if_neg (by decide), if_pos e]
theorem skb_cm (d : Nat → Int) (n : Nat) (p : Nat) (h : p < n) (e : d p = 35) : skb d n true p = skb d n true (skl d n p) := by
  rw [skb, dif_pos h, if_neg (by omega), if_neg (by decide), if_neg (by omega), if_pos e]
theorem skb_ot (d : Nat → Int) (n : Nat) (p : Nat) (h : p < n) (e1 : ¬ (d p = 32 ∨ d p = 9)) (e2 : ¬ (d p = 10 ∨ d p = 13)) (e3 : d p ≠ 35) : skb d n true p = p := by
  rw [skb, dif_pos h, if_neg e1, if_neg (by decide), if_neg e2, if_neg e3]

theorem skb_bd (d : Nat → Int) (n : Nat) (nl : Bool) (p : Nat) (hn : p ≤ n) : p ≤ skb d n nl p ∧ skb d n nl p ≤ n := by
  induction h : n - p using Nat.strongRecOn generalizing p with
  | ind m ih =>
    by_cases hp : p < n
    · by_cases e : d p = 32 ∨ d p = 9
      · rw [skb_sp d n nl p hp e]; have := ih (n - (p + 1)) (by omega) (p + 1) (by omega) rfl; omega
      · cases nl
        · rw [skb_no d n p hp e]; omega
        · by_cases e2 : d p = 10 ∨ d p = 13
          · rw [skb_nl d n p hp e2]; have := ih (n - (p + 1)) (by omega) (p + 1) (by omega) rfl; omega
          · by_cases e3 : d p = 35
            · rw [skb_cm d n p hp e3]
              have h1 := skl_lt d n p hp
              have h2 := (skl_bd d n p hn).2
              have := ih (n - skl d n p) (by omega) _ h2 rfl; omega
            · rw [skb_ot d n p hp e e2 e3]; omega
    · rw [skb_ge d n nl p hp]; omega
/-- Where it stops: the end, or a byte that it does not step over. -/
theorem skb_at (d : Nat → Int) (n : Nat) (nl : Bool) (p : Nat) (hn : p ≤ n) : skb d n nl p = n ∨ (skb d n nl p < n ∧ ¬ (d (skb d n nl p) = 32 ∨ d (skb d n nl p) = 9) ∧ (nl = true → ¬ (d (skb d n nl p) = 10 ∨ d (skb d n nl p) = 13) ∧ d (skb d n nl p) ≠ 35)) := by
  induction h : n - p using Nat.strongRecOn generalizing p with
  | ind m ih =>
    by_cases hp : p < n
    · by_cases e : d p = 32 ∨ d p = 9
      · rw [skb_sp d n nl p hp e]; exact ih (n - (p + 1)) (by omega) (p + 1) (by omega) rfl
      · cases nl
        · rw [skb_no d n p hp e]; exact .inr ⟨hp, e, fun h => by cases h⟩
        · by_cases e2 : d p = 10 ∨ d p = 13
          · rw [skb_nl d n p hp e2]; exact ih (n - (p + 1)) (by omega) (p + 1) (by omega) rfl
          · by_cases e3 : d p = 35
            · rw [skb_cm d n p hp e3]
              have h1 := skl_lt d n p hp
              exact ih (n - skl d n p) (by omega) _ (skl_bd d n p hn).2 rfl
            · rw [skb_ot d n p hp e e2 e3]; exact .inr ⟨hp, e, fun _ => ⟨e2, e3⟩⟩
    · rw [skb_ge d n nl p hp]; left; omega

/-- A delimiter. -/
def del (c : Int) : Bool := c == 32 || c == 9 || c == 10 || c == 13 || c == 91 || c == 93 || c == 123 || c == 125 || c == 44 || c == 35 || c == 34 || c == 39

/-- Past a scalar. -/
def skc (d : Nat → Int) (n p : Nat) : Nat :=
  if _h : p < n then if del (d p) = true then p else skc d n (p + 1) else p
theorem skc_ge (d : Nat → Int) (n p : Nat) (h : ¬ p < n) : skc d n p = p := by rw [skc, dif_neg h]
theorem skc_st (d : Nat → Int) (n p : Nat) (h : p < n) (e : del (d p) = true) : skc d n p = p := by rw [skc, dif_pos h, if_pos e]
theorem skc_go (d : Nat → Int) (n p : Nat) (h : p < n) (e : del (d p) = false) : skc d n p = skc d n (p + 1) := by rw [skc, dif_pos h, if_neg (by rw [e]; decide)]
theorem skc_bd (d : Nat → Int) (n p : Nat) (hn : p ≤ n) : p ≤ skc d n p ∧ skc d n p ≤ n := by
  induction h : n - p using Nat.strongRecOn generalizing p with
  | ind m ih =>
    by_cases hp : p < n
    · cases e : del (d p)
      · rw [skc_go d n p hp e]; have := ih (n - (p + 1)) (by omega) (p + 1) (by omega) rfl; omega
      · rw [skc_st d n p hp e]; omega
    · rw [skc_ge d n p hp]; omega
theorem skc_lt (d : Nat → Int) (n p : Nat) (h : p < n) (e : del (d p) = false) : p < skc d n p := by
  rw [skc_go d n p h e]; have := (skc_bd d n (p + 1) (by omega)).1; omega

/-- Past a run of one byte. -/
def rnq (d : Nat → Int) (n : Nat) (c : Int) (p : Nat) : Nat :=
  if _h : p < n then if d p = c then rnq d n c (p + 1) else p else p
theorem rnq_ge (d : Nat → Int) (n : Nat) (c : Int) (p : Nat) (h : ¬ p < n) : rnq d n c p = p := by rw [rnq, dif_neg h]
theorem rnq_go (d : Nat → Int) (n : Nat) (c : Int) (p : Nat) (h : p < n) (e : d p = c) : rnq d n c p = rnq d n c (p + 1) := by rw [rnq, dif_pos h, if_pos e]
theorem rnq_st (d : Nat → Int) (n : Nat) (c : Int) (p : Nat) (h : p < n) (e : d p ≠ c) : rnq d n c p = p := by rw [rnq, dif_pos h, if_neg e]
theorem rnq_bd (d : Nat → Int) (n : Nat) (c : Int) (p : Nat) (hn : p ≤ n) : p ≤ rnq d n c p ∧ rnq d n c p ≤ n := by
  induction h : n - p using Nat.strongRecOn generalizing p with
  | ind m ih =>
    by_cases hp : p < n
    · by_cases e : d p = c
      · rw [rnq_go d n c p hp e]; have := ih (n - (p + 1)) (by omega) (p + 1) (by omega) rfl; omega
      · rw [rnq_st d n c p hp e]; omega
    · rw [rnq_ge d n c p hp]; omega
theorem rnq_lt (d : Nat → Int) (n : Nat) (c : Int) (p : Nat) (h : p < n) (e : d p = c) : p < rnq d n c p := by
  rw [rnq_go d n c p h e]; have := (rnq_bd d n c (p + 1) (by omega)).1; omega

/-- Past a string's text, from p on: quote q, delimiter of k quotes. -/
def skq (d : Nat → Int) (n : Nat) (q : Int) (k p : Nat) : Nat :=
  if h : p < n then
    if d p = 92 ∧ q = 34 then skq d n q k (p + 2)
    else if e : d p = q then
      have _hp : p < rnq d n q p := rnq_lt d n q p h e
      if k ≤ rnq d n q p - p then rnq d n q p else skq d n q k (rnq d n q p)
    else skq d n q k (p + 1)
  else n

theorem skq_ge (d : Nat → Int) (n : Nat) (q : Int) (k p : Nat) (h : ¬ p < n) : skq d n q k p = n := by rw [skq, dif_neg h]
theorem skq_bs (d : Nat → Int) (n : Nat) (q : Int) (k p : Nat) (h : p < n) (e : d p = 92 ∧ q = 34) : skq d n q k p = skq d n q k (p + 2) := by rw [skq, dif_pos h, if_pos e]
theorem skq_end (d : Nat → Int) (n : Nat) (q : Int) (k p : Nat) (h : p < n) (e1 : ¬ (d p = 92 ∧ q = 34)) (e : d p = q) (hk : k ≤ rnq d n q p - p) : skq d n q k p = rnq d n q p := by
  rw [skq, dif_pos h, if_neg e1, dif_pos e, if_pos hk]
theorem skq_run (d : Nat → Int) (n : Nat) (q : Int) (k p : Nat) (h : p < n) (e1 : ¬ (d p = 92 ∧ q = 34)) (e : d p = q) (hk : ¬ k ≤ rnq d n q p - p) : skq d n q k p = skq d n q k (rnq d n q p) := by
  rw [skq, dif_pos h, if_neg e1, dif_pos e, if_neg hk]
theorem skq_ot (d : Nat → Int) (n : Nat) (q : Int) (k p : Nat) (h : p < n) (e1 : ¬ (d p = 92 ∧ q = 34)) (e : d p ≠ q) : skq d n q k p = skq d n q k (p + 1) := by
  rw [skq, dif_pos h, if_neg e1, dif_neg e]
theorem skq_bd (d : Nat → Int) (n : Nat) (q : Int) (k p : Nat) : (p ≤ n → p ≤ skq d n q k p) ∧ skq d n q k p ≤ n := by
  induction h : n - p using Nat.strongRecOn generalizing p with
  | ind m ih =>
    by_cases hp : p < n
    · by_cases e1 : d p = 92 ∧ q = 34
      · rw [skq_bs d n q k p hp e1]
        have := ih (n - (p + 2)) (by omega) (p + 2) rfl
        refine ⟨fun _ => ?_, this.2⟩
        by_cases h2 : p + 2 ≤ n
        · have := this.1 h2; omega
        · rw [skq_ge d n q k (p + 2) (by omega)]; omega
      · by_cases e : d p = q
        · have hr := rnq_lt d n q p hp e
          have hr2 := (rnq_bd d n q p (by omega)).2
          by_cases hk : k ≤ rnq d n q p - p
          · rw [skq_end d n q k p hp e1 e hk]; omega
          · rw [skq_run d n q k p hp e1 e hk]
            have := ih (n - rnq d n q p) (by omega) _ rfl
            have h3 := this.1 hr2
            omega
        · rw [skq_ot d n q k p hp e1 e]
          have := ih (n - (p + 1)) (by omega) (p + 1) rfl
          have h3 := this.1 (by omega)
          omega
    · rw [skq_ge d n q k p hp]; omega

end Go.Proofs.Qxb6604368aFmt.Pl
