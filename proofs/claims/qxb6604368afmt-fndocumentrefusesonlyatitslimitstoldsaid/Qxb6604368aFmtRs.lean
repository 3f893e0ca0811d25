/-
  WHAT A READER OF THE SCANNER DOES, WHATEVER THE LIMITS: where it ends and what it counts is r; a limit makes an error, and nothing else.
-/
import Derived.Test.Qxb6604368aFmtKey
import Derived.Test.Qxb6604368aFmtPlp
namespace Go.Proofs.Qxb6604368aFmt
open Go.RowKit Go.Extern.Stop Go.Stop Go.Extern
set_option linter.unusedVariables false

/-- No limit on levels and names. -/
def Top (L : Lim) : Prop := L.lv = 9223372036854775807 ∧ L.nm = 9223372036854775807

def Res (B : Nat) (S : Src) (L : Lim) (e : Int) (r : Nat × Nat) (w : World) (en : Ending) (w' : World) : Prop :=
  Fr B w w' ∧ ((en = .returned .nilIface ∧ (e ≤ L.en → e + (r.2 : Int) ≤ L.en) ∧ St w' B S L r.1 (e + (r.2 : Int))) ∨ ((∃ v, en = .returned (.iface 56 v)) ∧ (Top L → L.en < e + (r.2 : Int))))

/-- Function f from p on. -/
def Does (F : Interp) (S : Src) (f p : Nat) (r : Nat × Nat) : Prop :=
  ∀ (B : Nat) (L : Lim) (e lvl nm : Int) (w : World), F.answers w.tape → St w B S L p e → 0 ≤ e → e + (r.2 : Int) ≤ 1000000000 → lvl ≤ 9223372036854775807 → nm ≤ 9223372036854775807 →
    Calls Tryf.prog f #[.pointer (some ⟨B, 0, none⟩), .int .i64 lvl, .int .i64 nm] w (Res B S L e r w)

/-- What an item's closure finds in its boxes. -/
structure Box (w : World) (B b1 b2 b3 : Nat) (lvl nm : Int) : Prop where
  c1 : w.cell? ⟨b1, 0, none⟩ = some (.pointer (some ⟨B, 0, none⟩))
  c2 : w.cell? ⟨b2, 0, none⟩ = some (.int .i64 lvl)
  c3 : w.cell? ⟨b3, 0, none⟩ = some (.int .i64 nm)
  n1 : b1 ≠ B
  n2 : b2 ≠ B
  n3 : b3 ≠ B

theorem Fr.cell {B : Nat} {w w' : World} (h : Fr B w w') {b j : Nat} {v : Value} (hb : b ≠ B) (hc : w.cell? ⟨b, j, none⟩ = some v) : w'.cell? ⟨b, j, none⟩ = some v := by
  have h1 : b < w.heap.size := cell_lt hc
  rw [World.cell?_of_block (a := ⟨b, j, none⟩) (h.block b h1 (fun e => hb (by injection e)))]
  exact hc
theorem Box.fr {w w' : World} {B b1 b2 b3 : Nat} {lvl nm : Int} (h : Box w B b1 b2 b3 lvl nm) (f : Fr B w w') : Box w' B b1 b2 b3 lvl nm :=
  ⟨f.cell h.n1 h.c1, f.cell h.n2 h.c2, f.cell h.n3 h.c3, h.n1, h.n2, h.n3⟩

/-- An item's closure f from p on. -/
def ItemDoes (F : Interp) (S : Src) (f p : Nat) (first : Bool) (r : Nat × Nat) : Prop :=
  ∀ (B : Nat) (L : Lim) (e lvl nm : Int) (b1 b2 b3 : Nat) (w : World), F.answers w.tape → St w B S L p e → Box w B b1 b2 b3 lvl nm → 0 ≤ e → e + (r.2 : Int) ≤ 1000000000 → lvl ≤ 9223372036854775807 → nm ≤ 9223372036854775807 →
    Calls Tryf.prog f #[.bool first, .pointer (some ⟨b1, 0, none⟩), .pointer (some ⟨b2, 0, none⟩), .pointer (some ⟨b3, 0, none⟩)] w (Res B S L e r w)

theorem top_le {L : Lim} {lvl nm e : Int} {k : Int} (h : L.lv < lvl ∨ L.nm < nm ∨ L.en < e + k) (h1 : lvl ≤ 9223372036854775807) (h2 : nm ≤ 9223372036854775807) : Top L → L.en < e + k := by
  rintro ⟨t1, t2⟩
  omega
end Go.Proofs.Qxb6604368aFmt
