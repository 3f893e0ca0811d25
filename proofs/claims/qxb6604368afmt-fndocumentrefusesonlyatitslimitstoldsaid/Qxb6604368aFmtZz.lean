/-
  WALKS: ZZdocument; the law.
-/
import Derived.Test.Qxb6604368aFmtDoc
import Derived.Test.Qxb6604368aFmtCl
namespace Go.Proofs.Qxb6604368aFmt
open Go.RowKit Go.Extern.Stop Go.Stop Go.Extern
set_option linter.unusedVariables false

theorem doc_ex (F : Interp) (S : Src) (hn : S.n ≤ 65536) : ∃ C : Nat, C ≤ S.n + 1 ∧ (S.n = 0 → C = 0) ∧
    ∀ (B : Nat) (L : Lim) (w : World), F.answers w.tape → St w B S L 0 0 → Calls Tryf.prog 11 #[.pointer (some ⟨B, 0, none⟩)] w (Res B S L 0 (S.n, C) w) := by
  have h1 : ∀ q, ∃ r : Nat × Nat, q < S.n → (q ≤ r.1 ∧ r.1 ≤ S.n ∧ r.2 ≤ r.1 - q + 1) ∧ (S.d q = 91 → r = Pl.key S.d S.n (hdp S q)) ∧ (S.d q ≠ 91 → Does F S 16 q r) := fun q => by
    by_cases hq : q < S.n
    · by_cases h91 : S.d q = 91
      · have hd := hdp_bd S q hq
        have hk := Pl.key_bd S.d S.n (hdp S q) hd.2
        exact ⟨Pl.key S.d S.n (hdp S q), fun _ => ⟨by omega, fun _ => rfl, fun h => absurd h91 h⟩⟩
      · obtain ⟨r, a1, a2, a3, a4, a5⟩ := (reads F S hn (by omega) q (by omega)).2
        exact ⟨r, fun _ => ⟨⟨a1, a2, a3⟩, fun h => absurd h h91, fun _ => a5⟩⟩
    · exact ⟨(0, 0), fun h => absurd h hq⟩
  have hg := fun q => Classical.choose_spec (h1 q)
  refine ⟨Pl.dl S.d S.n (fun q => Classical.choose (h1 q)) (bom S), ?_, fun h0 => ?_, fun B L w hF hS => document_st F S hn (fun q => Classical.choose (h1 q)) hg B L w hF hS⟩
  · have := Pl.dl_bd S.d S.n (fun q => Classical.choose (h1 q)) (fun q hq => (hg q hq).1) (bom S) (bom_bd S)
    omega
  · exact Pl.dl_end _ _ _ _ (by rw [h0]; omega)

/-- The same count, wherever the data lie. -/
theorem doc_any (F : Interp) (a : Option Addr) (n : Nat) (d : Nat → Int) (hn : n ≤ 65536) : ∃ C : Nat, C ≤ n + 1 ∧
    ∀ (S : Src), S.a = a → S.n = n → S.d = d → ∀ (B : Nat) (L : Lim) (w : World), F.answers w.tape → St w B S L 0 0 → Calls Tryf.prog 11 #[.pointer (some ⟨B, 0, none⟩)] w (Res B S L 0 (n, C) w) := by
  by_cases h0 : n = 0
  · refine ⟨0, by omega, ?_⟩
    rintro S rfl rfl rfl B L w hF hS
    obtain ⟨C, h1, h2, h3⟩ := doc_ex F S hn
    have := h3 B L w hF hS
    rw [h2 h0] at this
    exact this
  · cases a with
    | none =>
      refine ⟨0, by omega, ?_⟩
      rintro S ha rfl rfl B L w hF hS
      have := hS.adr (by omega)
      rw [ha] at this
      cases this
    | some x =>
      obtain ⟨C, h1, h2, h3⟩ := doc_ex F ⟨some x, x.block, n, d⟩ hn
      refine ⟨C, h1, ?_⟩
      rintro ⟨a', b', n', d'⟩ ha hn' hd B L w hF hS
      have ha' : a' = some x := ha
      have hn'' : n' = n := hn'
      have hd' : d' = d := hd
      subst ha' hn'' hd'
      have hb : x = ⟨b', 0, none⟩ := by
        have h4 : some x = some (⟨b', 0, none⟩ : Addr) := hS.adr (show 0 < n' by omega)
        injection h4
      subst hb
      exact h3 B L w hF hS

/-- What ZZdocument leaves. -/
def ZzPost (n C : Nat) (lv nm en : Int) (w : World) (e : Ending) (w' : World) : Prop :=
  Below w.heap.size w w' ∧ ((e = .returned (.tuple #[.int .i64 (n : Int), .int .i64 (C : Int), .nilIface]) ∧ (0 ≤ en → (C : Int) ≤ en)) ∨
    ((∃ v1 v2 v, e = .returned (.tuple #[v1, v2, .iface 56 v])) ∧ (lv = 9223372036854775807 → nm = 9223372036854775807 → en < (C : Int))))

theorem below_fr {w w' : World} {o : Obj} (h : Fr w.heap.size (w.alloc o) w') : Below w.heap.size w w' :=
  ⟨h.os, h.tape, h.output, by have := h.size; simp at this; omega, fun k hk => by
    rw [h.block k (by simp; omega) (by intro e; injection e; omega)]
    exact Below.heap_alloc w o k hk⟩

set_option maxHeartbeats 1000000 in
theorem zz_st (F : Interp) (a : Option Addr) (n : Nat) (d : Nat → Int) (C : Nat)
    (hC : ∀ (S : Src), S.a = a → S.n = n → S.d = d → ∀ (B : Nat) (L : Lim) (w : World), F.answers w.tape → St w B S L 0 0 → Calls Tryf.prog 11 #[.pointer (some ⟨B, 0, none⟩)] w (Res B S L 0 (n, C) w))
    (lv nm en : Int) (w : World) (hF : F.answers w.tape) (hD : Dat w a n d) :
    Calls Tryf.prog 7 #[.slice a n n, .int .i64 lv, .int .i64 nm, .int .i64 en] w (ZzPost n C lv nm en w) := by
  obtain ⟨S, hSa, hSn, hSd, hS⟩ : ∃ S : Src, S.a = a ∧ S.n = n ∧ S.d = d ∧ St (w.alloc (.cells #[.slice a n n, .int .i64 0, .int .i64 lv, .int .i64 nm, .int .i64 en, .int .i64 0] 36)) w.heap.size S ⟨lv, nm, en⟩ 0 0 := by
    rcases hD with h0 | ⟨b, rfl, h2⟩
    · exact ⟨⟨a, w.heap.size + 1, n, d⟩, rfl, rfl, rfl, heap_alloc_new w _, fun j hj => by have : j < n := hj; omega, by show w.heap.size + 1 ≠ w.heap.size; omega, fun h => by have : 0 < n := h; omega⟩
    · by_cases h0 : n = 0
      · exact ⟨⟨_, w.heap.size + 1, n, d⟩, rfl, rfl, rfl, heap_alloc_new w _, fun j hj => by have : j < n := hj; omega, by show w.heap.size + 1 ≠ w.heap.size; omega, fun h => by have : 0 < n := h; omega⟩
      · have hb : b < w.heap.size := cell_lt (h2 0 (by omega))
        exact ⟨⟨_, b, n, d⟩, rfl, rfl, rfl, heap_alloc_new w _, fun j hj => cell_old _ _ _ _ _ (h2 j hj), by show b ≠ w.heap.size; omega, fun h => rfl⟩
  have HC : Hid (Calls Tryf.prog 11 #[.pointer (some ⟨w.heap.size, 0, none⟩)] (w.alloc (.cells #[.slice a n n, .int .i64 0, .int .i64 lv, .int .i64 nm, .int .i64 en, .int .i64 0] 36)) (Res w.heap.size S ⟨lv, nm, en⟩ 0 (n, C) (w.alloc (.cells #[.slice a n n, .int .i64 0, .int .i64 lv, .int .i64 nm, .int .i64 en, .int .i64 0] 36)))) := hC S hSa hSn hSd _ _ _ hF hS
  have HOk : Hid (Ok w.heap.size (w.alloc (.cells #[.slice a n n, .int .i64 0, .int .i64 lv, .int .i64 nm, .int .i64 en, .int .i64 0] 36))) := ⟨⟨_, hS.c1⟩, ⟨_, hS.c5⟩⟩
  clear hC hF hD hS hSa hSn hSd
  go_enter Tryf.func7, Tryf.ntmps7
  go_wp2_with fail
  refine HC.out.mono ?_
  rintro e1 w2 ⟨hf, ⟨rfl, hen, hs⟩ | ⟨⟨v, rfl⟩, herr⟩⟩
  · have c1 := hs.c1
    have c5 := hs.c5
    have HB : Hid (Below w.heap.size w w2) := below_fr hf
    have HN : Hid (0 ≤ en → (C : Int) ≤ en) := fun h => by have h9 : 0 + (C : Int) ≤ en := hen h; omega
    rw [Int.zero_add] at c5
    clear hf hen hs HC HOk
    go_wp2_with fail
    go_quiet (fail)
    go_wp2_with fail
    go_ret3
    exact ⟨HB.out.trans ⟨rfl, rfl, rfl, Nat.le_refl _, fun _ _ => rfl⟩, .inl ⟨rfl, HN.out⟩⟩
  · obtain ⟨⟨v1, c1⟩, ⟨v5, c5⟩⟩ := hf.ok HOk.out
    have HB : Hid (Below w.heap.size w w2) := below_fr hf
    have HN : Hid (lv = 9223372036854775807 → nm = 9223372036854775807 → en < (C : Int)) := fun h1 h2 => by have h9 : en < 0 + (C : Int) := herr ⟨h1, h2⟩; omega
    clear hf herr HC HOk
    go_wp2_with fail
    go_quiet (fail)
    go_wp2_with fail
    go_ret3
    exact ⟨HB.out.trans ⟨rfl, rfl, rfl, Nat.le_refl _, fun _ _ => rfl⟩, .inr ⟨⟨_, _, _, rfl⟩, HN.out⟩⟩
end Go.Proofs.Qxb6604368aFmt
