/-
  THE SCANNER's STATE IN MEMORY, and the walk of skipLine.
-/
import Derived.Test.Qxb6604368aFmtRows
import Derived.Test.Qxb6604368aFmtPl
import Derived.WalkKit
import Derived.ProofKit
import Derived.Below
import Derived.Deep.QuietTactic
import Derived.BigQuiet
import Derived.Deep.CutBlock
namespace Go.Proofs.Qxb6604368aFmt
open Go.RowKit
set_option linter.unusedVariables false

/-- The limits of one scan. -/
structure Lim where
  lv : Int
  nm : Int
  en : Int

/-- The data that are scanned: n bytes d at block b, place 0 (at no place at all where n is 0). -/
structure Src where
  a : Option Addr
  b : Nat
  n : Nat
  d : Nat → Int

/-- The scanner's own block. -/
def stArr (S : Src) (L : Lim) (p : Nat) (e : Int) : Array Value :=
  #[.slice S.a S.n S.n, .int .i64 p, .int .i64 L.lv, .int .i64 L.nm, .int .i64 L.en, .int .i64 e]
/-- In the world w the scanner at block B stands at p, e entries counted; the data lie there. -/
structure St (w : World) (B : Nat) (S : Src) (L : Lim) (p : Nat) (e : Int) : Prop where
  blk : w.heap[B]? = some (.cells (stArr S L p e) 36 (0, 0))
  dat : ∀ j, j < S.n → w.cell? ⟨S.b, j, none⟩ = some (.int .u8 (S.d j))
  ne : S.b ≠ B
  adr : 0 < S.n → S.a = some ⟨S.b, 0, none⟩

theorem St.c0 {w : World} {B : Nat} {S : Src} {L : Lim} {p : Nat} {e : Int} (h : St w B S L p e) : w.cell? ⟨B, 0, none⟩ = some (.slice S.a S.n S.n) := by rw [cell_of_row w B 0 _ 36 (0, 0) h.blk]; rfl
theorem St.c1 {w : World} {B : Nat} {S : Src} {L : Lim} {p : Nat} {e : Int} (h : St w B S L p e) : w.cell? ⟨B, 1, none⟩ = some (.int .i64 p) := by rw [cell_of_row w B 1 _ 36 (0, 0) h.blk]; rfl
theorem St.c2 {w : World} {B : Nat} {S : Src} {L : Lim} {p : Nat} {e : Int} (h : St w B S L p e) : w.cell? ⟨B, 2, none⟩ = some (.int .i64 L.lv) := by rw [cell_of_row w B 2 _ 36 (0, 0) h.blk]; rfl
theorem St.c3 {w : World} {B : Nat} {S : Src} {L : Lim} {p : Nat} {e : Int} (h : St w B S L p e) : w.cell? ⟨B, 3, none⟩ = some (.int .i64 L.nm) := by rw [cell_of_row w B 3 _ 36 (0, 0) h.blk]; rfl
theorem St.c4 {w : World} {B : Nat} {S : Src} {L : Lim} {p : Nat} {e : Int} (h : St w B S L p e) : w.cell? ⟨B, 4, none⟩ = some (.int .i64 L.en) := by rw [cell_of_row w B 4 _ 36 (0, 0) h.blk]; rfl
theorem St.c5 {w : World} {B : Nat} {S : Src} {L : Lim} {p : Nat} {e : Int} (h : St w B S L p e) : w.cell? ⟨B, 5, none⟩ = some (.int .i64 e) := by rw [cell_of_row w B 5 _ 36 (0, 0) h.blk]; rfl
theorem St.free {w : World} {B : Nat} {S : Src} {L : Lim} {p : Nat} {e : Int} (h : St w B S L p e) (j : Nat) : w.frozen? ⟨B, j, none⟩ = false := frozen_of_row w B j _ 36 h.blk
theorem St.drewN {w : World} {B : Nat} {S : Src} {L : Lim} {p : Nat} {e : Int} (h : St w B S L p e) (q : Nat) : St (w.drewN q) B S L p e := ⟨h.blk, h.dat, h.ne, h.adr⟩

theorem cell_lt {w : World} {p : Addr} {v : Value} (h : w.cell? p = some v) : p.block < w.heap.size := by
  by_cases hp : p.block < w.heap.size
  · exact hp
  · have hb : w.heap[p.block]? = none := Array.getElem?_eq_none_iff.2 (by omega)
    simp [World.cell?, hb] at h

/-- pos is written. -/
theorem St.setPos {w : World} {B : Nat} {S : Src} {L : Lim} {p : Nat} {e : Int} (h : St w B S L p e) (p' : Nat) : St (w.setCell ⟨B, 1, none⟩ (.int .i64 (p' : Int))) B S L p' e := by
  refine ⟨?_, fun j hj => ?_, h.ne, h.adr⟩
  · rw [heap_setCell_same w B 1 _ 36 _ h.blk]; rfl
  · rw [World.cell?_of_block (a := ⟨S.b, j, none⟩) (heap_setCell_other w ⟨B, 1, none⟩ S.b _ h.ne)]; exact h.dat j hj
theorem St.setEnt {w : World} {B : Nat} {S : Src} {L : Lim} {p : Nat} {e : Int} (h : St w B S L p e) (e' : Int) : St (w.setCell ⟨B, 5, none⟩ (.int .i64 e')) B S L p e' := by
  refine ⟨?_, fun j hj => ?_, h.ne, h.adr⟩
  · rw [heap_setCell_same w B 5 _ 36 _ h.blk]; rfl
  · rw [World.cell?_of_block (a := ⟨S.b, j, none⟩) (heap_setCell_other w ⟨B, 5, none⟩ S.b _ h.ne)]; exact h.dat j hj

/-- pos and entries can be read. -/
def Ok (B : Nat) (w : World) : Prop := (∃ v, w.cell? ⟨B, 1, none⟩ = some v) ∧ (∃ v, w.cell? ⟨B, 5, none⟩ = some v)
/-- What a step leaves of all other memory; and that the scanner's own block can still be read. -/
structure Fr (B : Nat) (w w' : World) : Prop where
  gr : w.grownBy w' (some B)
  ok : Ok B w → Ok B w'
theorem Fr.os {B : Nat} {w w' : World} (h : Fr B w w') : w'.os = w.os := h.gr.os
theorem Fr.tape {B : Nat} {w w' : World} (h : Fr B w w') : w'.tape = w.tape := h.gr.tape
theorem Fr.output {B : Nat} {w w' : World} (h : Fr B w w') : w'.output = w.output := h.gr.output
theorem Fr.size {B : Nat} {w w' : World} (h : Fr B w w') : w.heap.size ≤ w'.heap.size := h.gr.size
theorem Fr.block {B : Nat} {w w' : World} (h : Fr B w w') : ∀ i, i < w.heap.size → some i ≠ some B → w'.heap[i]? = w.heap[i]? := h.gr.block
theorem Fr.refl (B : Nat) (w : World) : Fr B w w := ⟨⟨rfl, rfl, rfl, Nat.le_refl _, fun _ _ _ => rfl⟩, fun h => h⟩
theorem Fr.trans {B : Nat} {a b c : World} (h : Fr B a b) (k : Fr B b c) : Fr B a c :=
  ⟨⟨k.os.trans h.os, k.tape.trans h.tape, k.output.trans h.output, Nat.le_trans h.size k.size, fun i hi hn => (k.block i (Nat.lt_of_lt_of_le hi h.size) hn).trans (h.block i hi hn)⟩, fun o => k.ok (h.ok o)⟩
theorem Fr.drewN {B : Nat} {a w : World} (h : Fr B a w) (q : Nat) : Fr B a (w.drewN q) := h.trans ⟨⟨rfl, rfl, rfl, Nat.le_refl _, fun _ _ _ => rfl⟩, fun h => h⟩
theorem Fr.set {B : Nat} {a w : World} (h : Fr B a w) (j : Nat) (v : Value) : Fr B a (w.setCell ⟨B, j, none⟩ v) :=
  h.trans ⟨⟨rfl, rfl, rfl, by simp [World.setCell], fun k _ hn => heap_setCell_other w ⟨B, j, none⟩ k v (fun e => hn (by rw [e]))⟩, fun ⟨⟨x, hx⟩, ⟨y, hy⟩⟩ => ⟨cell?_setCell_some hx, cell?_setCell_some hy⟩⟩
theorem Fr.alloc {B : Nat} {a w : World} (h : Fr B a w) (o : Obj) : Fr B a (w.alloc o) :=
  h.trans ⟨⟨rfl, rfl, rfl, by simp, fun k hk _ => Below.heap_alloc _ _ _ hk⟩, fun ⟨⟨x, hx⟩, ⟨y, hy⟩⟩ => ⟨⟨x, (Below.cell ((Below.refl w.heap.size w).alloc (Nat.le_refl _) o) (cell_lt hx)).trans hx⟩, ⟨y, (Below.cell ((Below.refl w.heap.size w).alloc (Nat.le_refl _) o) (cell_lt hy)).trans hy⟩⟩⟩

/-- Where the scanner at B stands. -/
def posOf (w : World) (B : Nat) : Nat := (intOf ((w.cell? ⟨B, 1, none⟩).getD undef)).toNat
theorem St.pos {w : World} {B : Nat} {S : Src} {L : Lim} {p : Nat} {e : Int} (h : St w B S L p e) : posOf w B = p := by
  unfold posOf
  rw [h.c1]
  simp [intOf]
theorem pos_less {w w' : World} {B : Nat} {S : Src} {L : Lim} {p p' : Nat} {e e' : Int} (h : St w B S L p e) (h' : St w' B S L p' e') (hp : p < p') (hn : p < S.n) : S.n - posOf w' B < S.n - posOf w B := by
  rw [h.pos, h'.pos]; omega

set_option maxHeartbeats 1000000 in
set_option maxRecDepth 100000 in
theorem skipLine_st (B : Nat) (S : Src) (L : Lim) (p : Nat) (e : Int) (w : World) (hn : S.n ≤ 65536) (hp : p ≤ S.n) (h : St w B S L p e) :
    Calls Tryf.prog 17 #[.pointer (some ⟨B, 0, none⟩)] w fun en w' => en = .returned (.tuple #[]) ∧ St w' B S L (Pl.skl S.d S.n p) e ∧ Fr B w w' := by
  have H : Hid (St w B S L p e) := h
  clear h
  go_enter Tryf.func17, Tryf.ntmps17
  go_wp2_with fail
  go_loopw [2] (fun v wr => ∃ k : Nat, k ≤ S.n ∧ Hid (St wr B S L k e) ∧ Hid (Pl.skl S.d S.n k = Pl.skl S.d S.n p) ∧ Hid (Fr B w wr)) (fun v wr => S.n - posOf wr B)
  case atStart => exact ⟨p, hp, H, rfl, Fr.refl _ _⟩
  case round =>
    obtain ⟨k, hk, HS, HE, HF⟩ := hrel
    have c0 := HS.out.c0
    have c1 := HS.out.c1
    have f1 := HS.out.free 1
    by_cases hlt : k < S.n
    · have cx := HS.out.dat k hlt
      rw [HS.out.adr (by omega)] at c0
      have z0 : (0 : Int) ≤ (k : Int) := by omega
      have z1 : (k : Int) < (S.n : Int) := by omega
      by_cases hd : S.d k = 10 ∨ S.d k = 13
      · have HN : Hid (k + 1 = Pl.skl S.d S.n p) := (Pl.skl_nl S.d S.n k hlt hd).symm.trans HE.out
        have HD : Hid (S.d k = 10 ∨ S.d k = 13) := hd
        clear hd
        rcases HD.out with h | h
        all_goals
          rw [h] at cx
          clear h HD
          go_wp2_with fail
          go_quiet (fail)
          go_wp2_with fail
          go_quiet (fail)
          go_wp2_with fail
          refine bodyPost_ret (results_none Tryf.results17 _ _ _) rfl ?_
          exact ⟨rfl, by rw [← HN.out]; exact (HS.out.drewN _).setPos (k + 1), (HF.out.drewN _).set _ _⟩
      · have HN : Hid (Pl.skl S.d S.n (k + 1) = Pl.skl S.d S.n p) := (Pl.skl_go S.d S.n k hlt hd).symm.trans HE.out
        have d1 : (S.d k == 10) = false := beq_eq_false_iff_ne.2 (by omega)
        have d2 : (S.d k == 13) = false := beq_eq_false_iff_ne.2 (by omega)
        clear hd
        go_wp2_with fail
        go_quiet (fail)
        go_wp2_with fail
        go_quiet (fail)
        go_wp2_with fail
        go_roundw
        case rel => exact ⟨k + 1, by omega, (HS.out.drewN _).setPos (k + 1), HN, (HF.out.drewN _).set _ _⟩
        case measure => exact pos_less HS.out ((HS.out.drewN _).setPos (k + 1)) (by omega) hlt
    · have HN : Hid (k = Pl.skl S.d S.n p) := (Pl.skl_ge S.d S.n k hlt).symm.trans HE.out
      go_wp2_with fail
      go_quiet (fail)
      go_wp2_with fail
      go_end0
      exact ⟨rfl, by rw [← HN.out]; exact HS.out.drewN _, HF.out.drewN _⟩
end Go.Proofs.Qxb6604368aFmt
