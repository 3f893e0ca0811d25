/-
  PLAIN LAWS: well-formed JSON values and the bracket walk. No Go in sight.
-/
import Derived.Test.Qxb6603727aPlain3
namespace Go.Proofs.Qxb6603727a.Pl

/-- From k to e the bracket walk goes without a change of depth. -/
def Skp (d : Nat → Int) (n k e : Nat) : Prop := k ≤ e ∧ e ≤ n ∧ ∀ dep : Int, brk d n k dep = brk d n e dep
/-- A well-formed value from k to e, as ValueEnd sees it. -/
def Val (d : Nat → Int) (n k e : Nat) : Prop :=
  k < e ∧ e ≤ n ∧ (∀ dep : Int, 1 ≤ dep → brk d n k dep = brk d n e dep) ∧
  ((d k = 34 ∧ scan d n (k + 1) = e) ∨ ((d k = 123 ∨ d k = 91) ∧ brk d n k 0 = e) ∨ (d k ≠ 34 ∧ ¬ (d k = 123 ∨ d k = 91) ∧ ∀ j, k ≤ j → j < e → del (d j) = false))
/-- Inside the object or array that opened at k0, at k. -/
def Ins (d : Nat → Int) (n k0 k : Nat) : Prop := k0 < k ∧ k ≤ n ∧ ∀ dep : Int, 0 ≤ dep → brk d n k0 dep = brk d n k (dep + 1)

theorem Skp.nil (d : Nat → Int) (n k : Nat) (h : k ≤ n) : Skp d n k k := ⟨Nat.le_refl _, h, fun _ => rfl⟩
theorem Skp.snoc {d : Nat → Int} {n k e : Nat} (h : Skp d n k e) (he : e < n) (hw : d e = 32 ∨ d e = 9 ∨ d e = 10 ∨ d e = 13) : Skp d n k (e + 1) := by
  obtain ⟨h1, h2, h3⟩ := h
  exact ⟨by omega, by omega, fun dep => (h3 dep).trans (brk_oth d n e dep he (by omega) (by omega) (by omega))⟩

/-- A byte of a number or a literal. -/
def plc (c : Int) : Prop := c ≠ 34 ∧ c ≠ 123 ∧ c ≠ 91 ∧ del c = false
theorem plc_nch {c : Int} (h : nch c) : plc c := by
  have h1 := nch_not h
  exact ⟨h1.1, by omega, by omega, nch_del h⟩
theorem plc_low {c : Int} (h : 97 ≤ c ∧ c ≤ 122) : plc c := by
  refine ⟨by omega, by omega, by omega, ?_⟩
  simp [del]; omega
theorem plc_not {c : Int} (h : plc c) : c ≠ 125 ∧ c ≠ 93 := by
  have h1 := h.2.2.2
  simp [del] at h1
  omega

theorem brk_plain (d : Nat → Int) (n k e : Nat) (dep : Int) (hke : k ≤ e) (he : e ≤ n) (h : ∀ j, k ≤ j → j < e → plc (d j)) : brk d n k dep = brk d n e dep := by
  induction hm : e - k using Nat.strongRecOn generalizing k with
  | ind m ih =>
    by_cases hk : k = e
    · rw [hk]
    · have hp := h k (Nat.le_refl _) (by omega)
      have hq := plc_not hp
      rw [brk_oth d n k dep (by omega) hp.1 (by have := hp.2; omega) (by omega)]
      exact ih (e - (k + 1)) (by omega) (k + 1) (by omega) (fun j h1 h2 => h j (by omega) h2) rfl

theorem val_plain (d : Nat → Int) (n k e : Nat) (hke : k < e) (he : e ≤ n) (h : ∀ j, k ≤ j → j < e → plc (d j)) : Val d n k e := by
  have hp := h k (Nat.le_refl _) hke
  exact ⟨hke, he, fun dep _ => brk_plain d n k e dep (by omega) he h, .inr (.inr ⟨hp.1, by have := hp.2; omega, fun j h1 h2 => (h j h1 h2).2.2.2⟩)⟩
theorem val_num (d : Nat → Int) (n k e : Nat) (hke : k < e) (he : e ≤ n) (h : Num d k e) : Val d n k e := val_plain d n k e hke he (fun j h1 h2 => plc_nch (h j h1 h2))

theorem val_str (d : Nat → Int) (n k : Nat) (hk : k < n) (h : d k = 34) : Val d n k (scan d n (k + 1)) :=
  ⟨scan_past d n k hk, scan_le d n _, fun dep _ => brk_str d n k dep hk h, .inl ⟨h, rfl⟩⟩

theorem Ins.start (d : Nat → Int) (n k : Nat) (hk : k < n) (h : d k = 123 ∨ d k = 91) : Ins d n k (k + 1) := ⟨by omega, by omega, fun dep _ => brk_in d n k dep hk h⟩
theorem Ins.skip {d : Nat → Int} {n k0 k e : Nat} (h : Ins d n k0 k) (hs : Skp d n k e) : Ins d n k0 e := by
  obtain ⟨h1, h2, h3⟩ := h
  obtain ⟨s1, s2, s3⟩ := hs
  exact ⟨by omega, s2, fun dep hd => (h3 dep hd).trans (s3 _)⟩
theorem Ins.value {d : Nat → Int} {n k0 k e : Nat} (h : Ins d n k0 k) (hs : Val d n k e) : Ins d n k0 e := by
  obtain ⟨h1, h2, h3⟩ := h
  obtain ⟨s1, s2, s3, _⟩ := hs
  exact ⟨by omega, s2, fun dep hd => (h3 dep hd).trans (s3 _ (by omega))⟩
/-- A comma or a colon. -/
theorem Ins.sep {d : Nat → Int} {n k0 k : Nat} (h : Ins d n k0 k) (hk : k < n) (hc : d k = 44 ∨ d k = 58) : Ins d n k0 (k + 1) := by
  obtain ⟨h1, h2, h3⟩ := h
  exact ⟨by omega, by omega, fun dep hd => (h3 dep hd).trans (brk_oth d n k _ hk (by omega) (by omega) (by omega))⟩
theorem Ins.close {d : Nat → Int} {n k0 k : Nat} (h : Ins d n k0 k) (h0 : d k0 = 123 ∨ d k0 = 91) (hk : k < n) (hc : d k = 125 ∨ d k = 93) : Val d n k0 (k + 1) := by
  obtain ⟨h1, h2, h3⟩ := h
  refine ⟨by omega, by omega, fun dep hd => ?_, .inr (.inl ⟨h0, ?_⟩)⟩
  · rw [h3 dep (by omega), brk_out d n k (dep + 1) hk hc (by omega)]
    rw [show dep + 1 - 1 = dep by omega]
  · rw [h3 0 (by omega)]
    exact brk_last d n k _ hk hc (by omega)

/-- ValueEnd at a well-formed value that is followed as it should be. -/
theorem Val.vend {d : Nat → Int} {n k e : Nat} (h : Val d n k e) (hf : d k ≠ 34 → d k ≠ 123 → d k ≠ 91 → e < n → del (d e) = true) : vend d n k = e := by
  obtain ⟨h1, h2, _, h4⟩ := h
  unfold Pl.vend
  rw [if_neg (by omega)]
  rcases h4 with ⟨h5, h6⟩ | ⟨h5, h6⟩ | ⟨h5, h6, h7⟩
  · rw [if_pos h5]; exact h6
  · rw [if_neg (by omega), if_pos h5]; exact h6
  · rw [if_neg h5, if_neg h6]
    exact lit_upto d n k e (by omega) h2 h7 (hf h5 (by omega) (by omega))

/-- Past an escape of two bytes, or of six. -/
theorem scan_u (d : Nat → Int) (n j : Nat) (hj : j + 6 ≤ n) (h : d j = 92) (hx : ∀ t, j + 2 ≤ t → t < j + 6 → d t ≠ 34 ∧ d t ≠ 92) : scan d n j = scan d n (j + 6) := by
  have x0 := hx (j + 2) (by omega) (by omega)
  have x1 := hx (j + 3) (by omega) (by omega)
  have x2 := hx (j + 4) (by omega) (by omega)
  have x3 := hx (j + 5) (by omega) (by omega)
  rw [scan_bs d n j (by omega) h, scan_o d n (j + 2) (by omega) x0.2 x0.1, scan_o d n (j + 2 + 1) (by omega) x1.2 x1.1, scan_o d n (j + 2 + 1 + 1) (by omega) x2.2 x2.1, scan_o d n (j + 2 + 1 + 1 + 1) (by omega) x3.2 x3.1]

end Go.Proofs.Qxb6603727a.Pl
