/-
  EVERY READER ENDS SOMEWHERE AND COUNTS SOMETHING, WHATEVER THE LIMITS: by induction on what is left to read.
-/
import Derived.Test.Qxb6604368aFmtHd
namespace Go.Proofs.Qxb6604368aFmt
open Go.RowKit Go.Extern.Stop Go.Stop Go.Extern
set_option linter.unusedVariables false

def VR (F : Interp) (S : Src) (p : Nat) (r : Nat × Nat) : Prop := p ≤ r.1 ∧ r.1 ≤ S.n ∧ r.2 ≤ r.1 - p ∧ (Pl.ist S.d S.n p → p < r.1) ∧ Does F S 23 p r
def KR (F : Interp) (S : Src) (p : Nat) (r : Nat × Nat) : Prop := p ≤ r.1 ∧ r.1 ≤ S.n ∧ r.2 ≤ r.1 - p + 1 ∧ (Pl.ist S.d S.n p → p < r.1) ∧ Does F S 16 p r

theorem ist_skb (S : Src) (p : Nat) (h : Pl.ist S.d S.n p) : Pl.skb S.d S.n false p = p := by
  obtain ⟨h1, h2, h3, _⟩ := h
  exact Pl.skb_no S.d S.n p h1 (by omega)
theorem strEnd_bd (S : Src) (s : Nat) (h : s < S.n) : s < strEnd S s ∧ strEnd S s ≤ S.n := by
  unfold strEnd
  by_cases hq : (true && pre S s [S.d s, S.d s, S.d s]) = true
  · rw [if_pos hq]
    rw [Bool.true_and] at hq
    have h1 := pre_len S s _ hq
    simp at h1
    have h2 := Pl.skq_bd S.d S.n (S.d s) 3 (s + 3)
    have h3 := h2.1 (by omega)
    omega
  · rw [if_neg hq]
    have h2 := Pl.skq_bd S.d S.n (S.d s) 1 (s + 1)
    have h3 := h2.1 (by omega)
    omega
theorem eqp_bd (S : Src) (q : Nat) (h : q ≤ S.n) : q ≤ eqp S q ∧ eqp S q ≤ S.n := by
  unfold eqp
  by_cases h2 : q < S.n ∧ S.d q = 61
  · rw [if_pos h2]; omega
  · rw [if_neg h2]; omega

theorem val_of (F : Interp) (S : Src) (hn : S.n ≤ 65536) (p : Nat) (hp : p ≤ S.n)
    (ih : ∀ q, p < q → q ≤ S.n → (∃ r, VR F S q r) ∧ (∃ r, KR F S q r)) : ∃ r, VR F S p r := by
  have hb := Pl.skb_bd S.d S.n false p hp
  obtain ⟨s, hs⟩ : ∃ s, Pl.skb S.d S.n false p = s := ⟨_, rfl⟩
  rw [hs] at hb
  have hist : Pl.ist S.d S.n p → s = p := fun h => hs.symm.trans (ist_skb S p h)
  by_cases hlt : s < S.n
  case neg =>
    exact ⟨(s, 0), hb.1, hb.2, by dsimp only; omega, fun h => by have := h.1; show p < s; omega, value_st F S hn p hp _ (by rw [hs]; exact .inl ⟨hlt, rfl⟩)⟩
  have hgv : ∃ gv : Nat → Nat × Nat, ∀ q, s < q → Pl.ist S.d S.n q → VR F S q (gv q) := by
    have h1 : ∀ q, ∃ r, s < q → Pl.ist S.d S.n q → VR F S q r := fun q => by
      by_cases h2 : s < q ∧ Pl.ist S.d S.n q
      · obtain ⟨r, hr⟩ := (ih q (by omega) (by have := h2.2.1; omega)).1
        exact ⟨r, fun _ _ => hr⟩
      · exact ⟨(0, 0), fun h3 h4 => absurd ⟨h3, h4⟩ h2⟩
    exact ⟨fun q => Classical.choose (h1 q), fun q => Classical.choose_spec (h1 q)⟩
  have hgk : ∃ gk : Nat → Nat × Nat, ∀ q, s < q → Pl.ist S.d S.n q → KR F S q (gk q) := by
    have h1 : ∀ q, ∃ r, s < q → Pl.ist S.d S.n q → KR F S q r := fun q => by
      by_cases h2 : s < q ∧ Pl.ist S.d S.n q
      · obtain ⟨r, hr⟩ := (ih q (by omega) (by have := h2.2.1; omega)).2
        exact ⟨r, fun _ _ => hr⟩
      · exact ⟨(0, 0), fun h3 h4 => absurd ⟨h3, h4⟩ h2⟩
    exact ⟨fun q => Classical.choose (h1 q), fun q => Classical.choose_spec (h1 q)⟩
  obtain ⟨gv, hgv⟩ := hgv
  obtain ⟨gk, hgk⟩ := hgk
  by_cases h91 : S.d s = 91
  · have hbd := Pl.lp_bd S.d S.n (fun q first => ((gv q).1, (gv q).2 + if first = true then 1 else 0)) (s + 1) (fun q first h1 h2 => by
      obtain ⟨a1, a2, a3, a4, a5⟩ := hgv q (by omega) h2
      have := a4 h2
      dsimp only
      omega) (s + 1) true (by omega) (Nat.le_refl _)
    have hd := array_st F S hn s hlt (fun q first => ((gv q).1, (gv q).2 + if first = true then 1 else 0)) (fun q first h1 h2 => by
      obtain ⟨a1, a2, a3, a4, a5⟩ := hgv q h1 h2
      exact ⟨⟨a4 h2, a2⟩, array1_st F S hn (by omega) q (by have := h2.1; omega) first (gv q) a5⟩)
    rw [if_pos rfl] at hbd
    exact ⟨_, by omega, hbd.2.1, by omega, fun _ => by omega, value_st F S hn p hp _ (by rw [hs]; exact .inr (.inl ⟨hlt, h91, hd⟩))⟩
  by_cases h123 : S.d s = 123
  · have hbd := Pl.lp_bd S.d S.n (fun q first => if first = true then gk q else gv q) (s + 1) (fun q first h1 h2 => by
      obtain ⟨a1, a2, a3, a4, a5⟩ := hgv q (by omega) h2
      obtain ⟨b1, b2, b3, b4, b5⟩ := hgk q (by omega) h2
      have t1 := a4 h2
      have t2 := b4 h2
      cases first
      · rw [if_neg (by decide), if_neg (by decide)]
        omega
      · rw [if_pos rfl, if_pos rfl]
        omega) (s + 1) true (by omega) (Nat.le_refl _)
    have hd := inline_st F S hn s hlt (fun q first => if first = true then gk q else gv q) (fun q first h1 h2 => by
      obtain ⟨a1, a2, a3, a4, a5⟩ := hgv q h1 h2
      obtain ⟨b1, b2, b3, b4, b5⟩ := hgk q h1 h2
      refine ⟨?_, inline1_st F S q first (gv q) (gk q) a5 b5⟩
      cases first
      · rw [if_neg (by decide)]
        exact ⟨a4 h2, a2⟩
      · rw [if_pos rfl]
        exact ⟨b4 h2, b2⟩)
    rw [if_pos rfl] at hbd
    exact ⟨_, by omega, hbd.2.1, by omega, fun _ => by omega, value_st F S hn p hp _ (by rw [hs]; exact .inr (.inr (.inl ⟨hlt, h123, hd⟩)))⟩
  by_cases hq : S.d s = 34 ∨ S.d s = 39
  · have hbd := strEnd_bd S s hlt
    exact ⟨(strEnd S s, 0), by show p ≤ strEnd S s; omega, hbd.2, Nat.zero_le _, fun _ => by show p < strEnd S s; omega, value_st F S hn p hp _ (by rw [hs]; exact .inr (.inr (.inr (.inl ⟨hlt, hq, rfl⟩))))⟩
  · have hbd := Pl.skc_bd S.d S.n s hb.2
    refine ⟨(Pl.skc S.d S.n s, 0), by show p ≤ Pl.skc S.d S.n s; omega, hbd.2, Nat.zero_le _, fun hi => ?_, value_st F S hn p hp _ (by rw [hs]; exact .inr (.inr (.inr (.inr ⟨hlt, ⟨h91, h123, by omega, by omega⟩, rfl⟩))))⟩
    show p < Pl.skc S.d S.n s
    have hsp := hist hi
    have hl := Pl.skc_lt S.d S.n s hlt (by
      rw [hsp] at h91 h123 hq ⊢
      obtain ⟨i0, i1, i2, i3, i4, i5, i6, i7, i8⟩ := hi
      unfold Pl.del
      simp only [Bool.or_eq_false_iff, beq_eq_false_iff_ne, ne_eq]
      omega)
    omega

theorem kv_of (F : Interp) (S : Src) (hn : S.n ≤ 65536) (h0 : 0 < S.n) (p : Nat) (hp : p ≤ S.n)
    (ih : ∀ q, p ≤ q → q ≤ S.n → ∃ r, VR F S q r) : ∃ r, KR F S p r := by
  have hk := Pl.key_bd S.d S.n p hp
  have hb := Pl.skb_bd S.d S.n false (Pl.key S.d S.n p).1 hk.2.1
  have hq := eqp_bd S _ hb.2
  obtain ⟨rv, a1, a2, a3, a4, a5⟩ := ih (kvp S p) (by unfold kvp; omega) (by unfold kvp; omega)
  have hkv : kvp S p = eqp S (Pl.skb S.d S.n false (Pl.key S.d S.n p).1) := rfl
  rw [← hkv] at hq
  refine ⟨(rv.1, (Pl.key S.d S.n p).2 + 1 + rv.2), by show p ≤ rv.1; omega, a2, by show (Pl.key S.d S.n p).2 + 1 + rv.2 ≤ rv.1 - p + 1; omega, fun hi => ?_, kv_st F S hn h0 p hp rv a5⟩
  show p < rv.1
  by_cases hpp : kvp S p = p
  · rw [hpp] at a4
    exact a4 hi
  · omega

theorem reads (F : Interp) (S : Src) (hn : S.n ≤ 65536) (h0 : 0 < S.n) (p : Nat) (hp : p ≤ S.n) : (∃ r, VR F S p r) ∧ (∃ r, KR F S p r) := by
  induction hm : S.n - p using Nat.strongRecOn generalizing p with
  | ind m ih =>
    have hi : ∀ q, p < q → q ≤ S.n → (∃ r, VR F S q r) ∧ (∃ r, KR F S q r) := fun q h1 h2 => ih (S.n - q) (by omega) q h2 rfl
    have hv := val_of F S hn p hp hi
    refine ⟨hv, kv_of F S hn h0 p hp (fun q h1 h2 => ?_)⟩
    by_cases hpq : p = q
    · rw [← hpq]; exact hv
    · exact (hi q (by omega) h2).1
end Go.Proofs.Qxb6604368aFmt
