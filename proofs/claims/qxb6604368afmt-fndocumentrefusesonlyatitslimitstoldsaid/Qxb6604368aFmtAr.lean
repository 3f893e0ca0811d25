/-
  WALKS: array, inlineTable and their closures.
-/
import Derived.Test.Qxb6604368aFmtIt
namespace Go.Proofs.Qxb6604368aFmt
open Go.RowKit Go.Extern.Stop Go.Stop Go.Extern
set_option linter.unusedVariables false

theorem box3 (w : World) (B : Nat) (lvl nm : Int) (hB : B < w.heap.size) :
    Box (((w.alloc (.cells #[.pointer (some ⟨B, 0, none⟩)] 32)).alloc (.cells #[.int .i64 lvl] 3)).alloc (.cells #[.int .i64 nm] 3)) B w.heap.size (w.heap.size + 1) (w.heap.size + 1 + 1) lvl nm := by
  refine ⟨?_, ?_, ?_, by omega, by omega, by omega⟩
  · exact cell_old _ _ _ _ _ (cell_old _ _ _ _ _ (cell_new w _ _ _ _ 0 rfl))
  · exact cell_old _ _ _ _ _ (cell_new (w.alloc _) _ _ _ _ 0 (by simp))
  · exact cell_new ((w.alloc _).alloc _) _ _ _ _ 0 (by simp)

set_option maxHeartbeats 1000000 in
theorem array_st (F : Interp) (S : Src) (hn : S.n ≤ 65536) (p : Nat) (hp : p < S.n) (g : Nat → Bool → Nat × Nat)
    (hg : ∀ q first, p < q → Pl.ist S.d S.n q → (q < (g q first).1 ∧ (g q first).1 ≤ S.n) ∧ ItemDoes F S 35 q first (g q first)) : Does F S 28 p (Pl.lp S.d S.n g (p + 1) true) := by
  intro B L e lvl nm w hF hS he hE hl hm
  have hB : B < w.heap.size := cell_lt hS.c1
  have HFa : Hid (F.answers w.tape) := hF
  have H : Hid (St w B S L p e) := hS
  have HI : Hid _ := items35_st F S hn p hp g hg B L e lvl nm
  clear hF hS hg
  go_enter Tryf.func28, Tryf.ntmps28
  go_wp2_with fail
  refine (HI.out _ _ _ _ (by exact HFa.out) (((H.out.alloc _).alloc _).alloc _) (box3 w B lvl nm hB) he hE hl hm).mono ?_
  rintro en w2 ⟨hf, ⟨rfl, hen, hs⟩ | ⟨⟨v, rfl⟩, herr⟩⟩
  · have HR : Hid (Res B S L e (Pl.lp S.d S.n g (p + 1) true) w (.returned .nilIface) w2) := ⟨((((Fr.refl _ _).alloc _).alloc _).alloc _).trans hf, .inl ⟨rfl, hen, hs⟩⟩
    clear hf hen hs
    go_wp2_with fail
    go_ret
    exact HR
  · have HR : Hid (Res B S L e (Pl.lp S.d S.n g (p + 1) true) w (.returned (.iface 56 v)) w2) := ⟨((((Fr.refl _ _).alloc _).alloc _).alloc _).trans hf, .inr ⟨⟨v, rfl⟩, herr⟩⟩
    clear hf herr
    go_wp2_with fail
    go_ret
    exact HR

set_option maxHeartbeats 1000000 in
theorem inline_st (F : Interp) (S : Src) (hn : S.n ≤ 65536) (p : Nat) (hp : p < S.n) (g : Nat → Bool → Nat × Nat)
    (hg : ∀ q first, p < q → Pl.ist S.d S.n q → (q < (g q first).1 ∧ (g q first).1 ≤ S.n) ∧ ItemDoes F S 36 q first (g q first)) : Does F S 29 p (Pl.lp S.d S.n g (p + 1) true) := by
  intro B L e lvl nm w hF hS he hE hl hm
  have hB : B < w.heap.size := cell_lt hS.c1
  have HFa : Hid (F.answers w.tape) := hF
  have H : Hid (St w B S L p e) := hS
  have HI : Hid _ := items36_st F S hn p hp g hg B L e lvl nm
  clear hF hS hg
  go_enter Tryf.func29, Tryf.ntmps29
  go_wp2_with fail
  refine (HI.out _ _ _ _ (by exact HFa.out) (((H.out.alloc _).alloc _).alloc _) (box3 w B lvl nm hB) he hE hl hm).mono ?_
  rintro en w2 ⟨hf, ⟨rfl, hen, hs⟩ | ⟨⟨v, rfl⟩, herr⟩⟩
  · have HR : Hid (Res B S L e (Pl.lp S.d S.n g (p + 1) true) w (.returned .nilIface) w2) := ⟨((((Fr.refl _ _).alloc _).alloc _).alloc _).trans hf, .inl ⟨rfl, hen, hs⟩⟩
    clear hf hen hs
    go_wp2_with fail
    go_ret
    exact HR
  · have HR : Hid (Res B S L e (Pl.lp S.d S.n g (p + 1) true) w (.returned (.iface 56 v)) w2) := ⟨((((Fr.refl _ _).alloc _).alloc _).alloc _).trans hf, .inr ⟨⟨v, rfl⟩, herr⟩⟩
    clear hf herr
    go_wp2_with fail
    go_ret
    exact HR

set_option maxHeartbeats 2000000 in
/-- array's closure. -/
theorem array1_st (F : Interp) (S : Src) (hn : S.n ≤ 65536) (h0 : 0 < S.n) (p : Nat) (hp : p ≤ S.n) (first : Bool) (r : Nat × Nat) (hV : Does F S 23 p r) : ItemDoes F S 35 p first (r.1, r.2 + if first = true then 1 else 0) := by
  intro B L e lvl nm b1 b2 b3 w hF hS hX he hE hl hm
  have HFa : Hid (F.answers w.tape) := hF
  have H : Hid (St w B S L p e) := hS
  have HX : Hid (Box w B b1 b2 b3 lvl nm) := hX
  have HV : Hid (Does F S 23 p r) := hV
  have c1 := hX.c1
  have c2 := hX.c2
  have c3 := hX.c3
  clear hF hS hV hX
  cases first
  · rw [if_neg (by decide), Nat.add_zero] at hE ⊢
    have HE : Hid (e + (r.2 : Int) ≤ 1000000000) := hE
    clear hE
    go_enter Tryf.func35, Tryf.ntmps35
    go_wp2_with fail
    refine (HV.out B L e _ nm _ HFa.out H.out he HE.out (wrap64_le _) hm).mono ?_
    rintro en w2 ⟨hf, ⟨rfl, hen, hs⟩ | ⟨⟨v, rfl⟩, herr⟩⟩
    · have HR : Hid (Res B S L e (r.1, r.2) w (.returned .nilIface) w2) := ⟨hf, .inl ⟨rfl, hen, hs⟩⟩
      clear hf hen hs
      go_wp2_with fail
      go_ret
      exact HR
    · have HR : Hid (Res B S L e (r.1, r.2) w (.returned (.iface 56 v)) w2) := ⟨hf, .inr ⟨⟨v, rfl⟩, herr⟩⟩
      clear hf herr
      go_wp2_with fail
      go_ret
      exact HR
  · rw [if_pos rfl] at hE ⊢
    have HE : Hid (e + ((r.2 + 1 : Nat) : Int) ≤ 1000000000) := hE
    clear hE
    go_enter Tryf.func35, Tryf.ntmps35
    go_wp2_with fail
    refine (check_st F B S L p e lvl nm 1 _ HFa.out hn h0 hp he (by have := HE.out; omega) (by decide) H.out).mono ?_
    rintro en w2 ⟨hf, ⟨rfl, hen, hs⟩ | ⟨⟨v, rfl⟩, herr⟩⟩
    · have HS2 : Hid (St w2 B S L p (e + ((1 : Nat) : Int))) := hs
      have HF2 : Hid (Fr B w w2) := hf
      have HN2 : Hid (e + ((1 : Nat) : Int) ≤ L.en) := hen
      have d1 := (HX.out.fr hf).c1
      have d2 := (HX.out.fr hf).c2
      have d3 := (HX.out.fr hf).c3
      clear hf hen hs c1 c2 c3
      go_wp2_with fail
      refine (HV.out B L _ _ nm _ (tape_fr HF2.out HFa.out) HS2.out (by omega) (by have := HE.out; omega) (wrap64_le _) hm).mono ?_
      rintro en w3 ⟨hf, ⟨rfl, hen, hs⟩ | ⟨⟨v, rfl⟩, herr⟩⟩
      · have hec : e + ((1 : Nat) : Int) + (r.2 : Int) = e + ((r.2 + 1 : Nat) : Int) := by omega
        have HR : Hid (Res B S L e (r.1, r.2 + 1) w (.returned .nilIface) w3) := ⟨HF2.out.trans hf, .inl ⟨rfl, fun _ => by rw [← hec]; exact hen HN2.out, by rw [← hec]; exact hs⟩⟩
        clear hf hen hs
        go_wp2_with fail
        go_ret
        exact HR
      · have HR : Hid (Res B S L e (r.1, r.2 + 1) w (.returned (.iface 56 v)) w3) := ⟨HF2.out.trans hf, .inr ⟨⟨v, rfl⟩, fun t => by have := herr t; show L.en < e + ((r.2 + 1 : Nat) : Int); omega⟩⟩
        clear hf herr
        go_wp2_with fail
        go_ret
        exact HR
    · have HR : Hid (Res B S L e (r.1, r.2 + 1) w (.returned (.iface 56 v)) w2) := ⟨hf, .inr ⟨⟨v, rfl⟩, fun t => by have := top_le herr hl hm t; show L.en < e + ((r.2 + 1 : Nat) : Int); omega⟩⟩
      clear hf herr
      go_wp2_with fail
      go_ret
      exact HR

set_option maxHeartbeats 2000000 in
/-- inlineTable's closure. -/
theorem inline1_st (F : Interp) (S : Src) (p : Nat) (first : Bool) (rv rk : Nat × Nat) (hV : Does F S 23 p rv) (hK : Does F S 16 p rk) : ItemDoes F S 36 p first (if first = true then rk else rv) := by
  intro B L e lvl nm b1 b2 b3 w hF hS hX he hE hl hm
  have HFa : Hid (F.answers w.tape) := hF
  have H : Hid (St w B S L p e) := hS
  have HV : Hid (Does F S 23 p rv) := hV
  have HK : Hid (Does F S 16 p rk) := hK
  have c1 := hX.c1
  have c2 := hX.c2
  have c3 := hX.c3
  clear hF hS hV hK hX
  cases first
  · rw [if_neg (by decide)] at hE ⊢
    have HE : Hid (e + (rv.2 : Int) ≤ 1000000000) := hE
    clear hE
    go_enter Tryf.func36, Tryf.ntmps36
    go_wp2_with fail
    refine (HV.out B L e _ nm _ HFa.out H.out he HE.out (wrap64_le _) hm).mono ?_
    rintro en w2 ⟨hf, ⟨rfl, hen, hs⟩ | ⟨⟨v, rfl⟩, herr⟩⟩
    · have HR : Hid (Res B S L e rv w (.returned .nilIface) w2) := ⟨hf, .inl ⟨rfl, hen, hs⟩⟩
      clear hf hen hs
      go_wp2_with fail
      go_ret
      exact HR
    · have HR : Hid (Res B S L e rv w (.returned (.iface 56 v)) w2) := ⟨hf, .inr ⟨⟨v, rfl⟩, herr⟩⟩
      clear hf herr
      go_wp2_with fail
      go_ret
      exact HR
  · rw [if_pos rfl] at hE ⊢
    have HE : Hid (e + (rk.2 : Int) ≤ 1000000000) := hE
    clear hE
    go_enter Tryf.func36, Tryf.ntmps36
    go_wp2_with fail
    refine (HK.out B L e lvl nm _ HFa.out H.out he HE.out hl hm).mono ?_
    rintro en w2 ⟨hf, ⟨rfl, hen, hs⟩ | ⟨⟨v, rfl⟩, herr⟩⟩
    · have HR : Hid (Res B S L e rk w (.returned .nilIface) w2) := ⟨hf, .inl ⟨rfl, hen, hs⟩⟩
      clear hf hen hs
      go_wp2_with fail
      go_ret
      exact HR
    · have HR : Hid (Res B S L e rk w (.returned (.iface 56 v)) w2) := ⟨hf, .inr ⟨⟨v, rfl⟩, herr⟩⟩
      clear hf herr
      go_wp2_with fail
      go_ret
      exact HR
end Go.Proofs.Qxb6604368aFmt
