/-
  WALKS: skipString.
-/
import Derived.Test.Qxb6604368aFmtSk
import Derived.Test.Qxb6604368aFmtShelf
import Derived.Deep.RegionHeld3
namespace Go.Proofs.Qxb6604368aFmt
open Go.RowKit
set_option linter.unusedVariables false

theorem cell_new (w : World) (C : Array Value) (fr : Nat × Nat) (t b j : Nat) (h : b = w.heap.size) : (w.alloc (.cells C t fr)).cell? ⟨b, j, none⟩ = C[j]? := by
  subst h
  exact cell_of_row _ w.heap.size j C t fr (heap_alloc_new w _)
theorem cell_old (w : World) (o : Obj) (b j : Nat) (v : Value) (h : w.cell? ⟨b, j, none⟩ = some v) : (w.alloc o).cell? ⟨b, j, none⟩ = some v :=
  (Below.cell ((Below.refl w.heap.size w).alloc (Nat.le_refl _) o) (cell_lt h)).trans h

/-- Do the bytes from p on begin with ys? -/
def pre (S : Src) (p : Nat) (ys : List Int) : Bool := Lib.hasPrefix (Lib.bytesOf ((List.range (S.n - p)).map fun j => S.d (p + j))) (Lib.bytesOf ys)
theorem pre_len (S : Src) (p : Nat) (ys : List Int) (h : pre S p ys = true) : ys.length ≤ S.n - p := by
  unfold pre Lib.hasPrefix at h
  rw [List.isPrefixOf_iff_prefix] at h
  have := h.length_le
  simpa [Lib.bytesOf] using this

theorem hasPre_row (S : Src) (p b2 : Nat) (ys : List Int) (m c2 : Nat) (w : World) (hm : ys.length = m) (hc1 : ∀ j, j < S.n → w.cell? ⟨S.b, j, none⟩ = some (.int .u8 (S.d j))) (hc2 : ∀ i, i < m → w.cell? ⟨b2, i, none⟩ = some (.int .u8 (ys.getD i 0))) :
    Calls Tryf.prog 13 #[.slice (some ⟨S.b, p, none⟩) (S.n - p) (S.n - p), .slice (some ⟨b2, 0, none⟩) m c2] w fun e w' => e = .returned (.bool (pre S p ys)) ∧ w' = w :=
  Tryf.bytes_HasPrefix S.b p (S.n - p) (S.n - p) b2 0 m c2 _ ys w (by simp) hm (Nat.le_refl _) (fun i hi => by
    rw [hc1 (p + i) (by omega)]
    congr 2
    simp [hi]) (fun i hi => by rw [Nat.zero_add]; exact hc2 i hi)

theorem St.alloc {w : World} {B : Nat} {S : Src} {L : Lim} {p : Nat} {e : Int} (h : St w B S L p e) (o : Obj) : St (w.alloc o) B S L p e := by
  have hB : B < w.heap.size := cell_lt h.c1
  exact ⟨by rw [Below.heap_alloc _ _ _ hB]; exact h.blk, fun j hj => cell_old _ _ _ _ _ (h.dat j hj), h.ne, h.adr⟩

theorem rnq_lt' (S : Src) (p j : Nat) (h : j < S.n) (e : S.d j = S.d p) : j < Pl.rnq S.d S.n (S.d p) j ∧ Pl.rnq S.d S.n (S.d p) j ≤ S.n := ⟨Pl.rnq_lt _ _ _ _ h e, (Pl.rnq_bd _ _ _ _ (by omega)).2⟩
def Kp (B : Nat) (S : Src) (L : Lim) (p : Nat) (e : Int) (w w' : World) : Prop := St w' B S L p e ∧ Fr B w w'

theorem Kp.mk {B : Nat} {S : Src} {L : Lim} {p : Nat} {e : Int} {w w' : World} (h : St w' B S L p e) (f : Fr B w w') (hn : 0 < S.n) : w'.cell? ⟨B, 0, none⟩ = some (.slice (some ⟨S.b, 0, none⟩) S.n S.n) ∧ w'.cell? ⟨B, 1, none⟩ = some (.int .i64 p) ∧ Kp B S L p e w w' :=
  ⟨by rw [← h.adr hn]; exact h.c0, h.c1, h, f⟩
theorem three_cells (w : World) (x : Int) (b : Nat) (hb : b = w.heap.size) (i : Nat) (hi : i < 3) : (w.alloc (.cells #[.int .u8 x, .int .u8 x, .int .u8 x] 5)).cell? ⟨b, i, none⟩ = some (.int .u8 ([x, x, x].getD i 0)) := by
  rw [cell_new w _ _ _ b i hb]
  have : i = 0 ∨ i = 1 ∨ i = 2 := by omega
  rcases this with rfl | rfl | rfl <;> rfl

set_option maxHeartbeats 4000000 in
set_option maxRecDepth 100000 in
theorem skipString_st (ml : Bool) (B : Nat) (S : Src) (L : Lim) (p : Nat) (e : Int) (w : World) (hn : S.n ≤ 65536) (hp : p < S.n) (h : St w B S L p e) :
    Calls Tryf.prog 24 #[.pointer (some ⟨B, 0, none⟩), .bool ml] w fun en w' => en = .returned (.tuple #[]) ∧ St w' B S L (Pl.skq S.d S.n (S.d p) (if (ml && pre S p [S.d p, S.d p, S.d p]) = true then 3 else 1) (p + if (ml && pre S p [S.d p, S.d p, S.d p]) = true then 3 else 1)) e ∧ Fr B w w' := by
  have H : Hid (St w B S L p e) := h
  have c0 := h.c0
  rw [h.adr (by omega)] at c0
  have c1 := h.c1
  have cx := h.dat p hp
  have z0 : (0 : Int) ≤ (p : Int) := by omega
  have z1 : (p : Int) < (S.n : Int) := by omega
  have z2 : (p : Int) ≤ (S.n : Int) := by omega
  have z3 : ¬ S.n = p := by omega
  clear h
  obtain ⟨k, hk0⟩ : ∃ k, k = (if (ml && pre S p [S.d p, S.d p, S.d p]) = true then 3 else 1) := ⟨_, rfl⟩
  rw [← hk0]
  have HK : Hid (k = (if (ml && pre S p [S.d p, S.d p, S.d p]) = true then 3 else 1)) := hk0
  clear hk0
  go_enter Tryf.func24, Tryf.ntmps24
  go_wp2_with fail
  go_quiet (fail)
  go_upto_region 3 with fail
  go_cut [37] from 9 (fun t w2 => t = .bool (ml && pre S p [S.d p, S.d p, S.d p]) ∧ St w2 B S L p e ∧ Fr B w w2)
  case first =>
    cases ml
    · go_quiet (fail)
      go_wp2_with fail
      go_meet
      case rel => exact ⟨rfl, (H.out.drewN _).drewN _, ((Fr.refl _ _).drewN _).drewN _⟩
    · go_region_held3 (fun w' => w'.cell? ⟨B, 0, none⟩ = some (.slice (some ⟨S.b, 0, none⟩) S.n S.n) ∧ w'.cell? ⟨B, 1, none⟩ = some (.int .i64 p) ∧ Kp B S L p e w w') ((first | exact Kp.mk (H.out.drewN _) ((Fr.refl _ _).drewN _) (by omega) | exact Kp.mk ((H.out.drewN _).drewN 1) (((Fr.refl _ _).drewN _).drewN 1) (by omega) | exact Kp.mk ((H.out.drewN _).alloc _) (((Fr.refl _ _).drewN _).alloc _) (by omega))) ((go_at_call 13; refine (hasPre_row S p _ [S.d p, S.d p, S.d p] 3 3 _ rfl (St.alloc (H.out.drewN _) _).dat (fun i hi => ?_)).mono ?_; (exact three_cells _ _ _ rfl i hi); rintro e w' ⟨rfl, rfl⟩))
      go_wp2_with fail
      go_meet
      case rel => exact ⟨rfl, ((H.out.drewN _).alloc _), (((Fr.refl _ _).drewN _).alloc _)⟩
  case rest =>
    obtain ⟨rfl, hS, hF⟩ := hcut
    clear c0 c1 cx z0 z1 z2 z3
    generalize hb : (ml && pre S p [S.d p, S.d p, S.d p]) = bb at HK ⊢
    have HB : Hid (bb = true → p + 3 ≤ S.n) := by
      intro hb2
      subst hb2
      have := pre_len S p [S.d p, S.d p, S.d p] (by cases ml <;> simp_all)
      simp at this
      omega
    clear hb
    have c1 := hS.c1
    have f1 := hS.free 1
    go_upto_if 37 with fail
    go_cut [6] from 38 (fun t w2 => t = .int .i64 k ∧ p + k ≤ S.n ∧ w2 = wc)
    case first =>
      cases bb
      · have HK1 : Hid (k = 1) := HK.out
        clear HK
        go_wp2_with fail
        go_meet
        case rel => exact ⟨by rw [HK1.out]; rfl, by rw [HK1.out]; omega, rfl⟩
      · have HB3 : p + 3 ≤ S.n := HB.out rfl
        have HK1 : Hid (k = 3) := HK.out
        clear HK
        go_wp2_with fail
        go_meet
        case rel => exact ⟨by rw [HK1.out]; rfl, by rw [HK1.out]; omega, rfl⟩
    case rest =>
      obtain ⟨rfl, hk, rfl⟩ := hcut
      clear HB HK
      go_wp2_with fail
      go_loopw [7, 8] (fun v7 v8 wr => ∃ j : Nat, j ≤ S.n + 1 ∧ Hid (St wr B S L j e) ∧ Hid (Pl.skq S.d S.n (S.d p) k j = Pl.skq S.d S.n (S.d p) k (p + k)) ∧ Hid (Fr B w wr)) (fun v7 v8 wr => S.n - posOf wr B)
      case atStart => exact ⟨p + k, by omega, hS.setPos (p + k), rfl, hF.set _ _⟩
      case round =>
        obtain ⟨j, hj, HS, HE, HF⟩ := hrel
        clear c1 f1
        have c0 := HS.out.c0
        have c1 := HS.out.c1
        have f1 := HS.out.free 1
        by_cases hlt : j < S.n
        case neg =>
          have HN : Hid (S.n = Pl.skq S.d S.n (S.d p) k (p + k)) := (Pl.skq_ge S.d S.n (S.d p) k j hlt).symm.trans HE.out
          have z1 : decide ((j : Int) < (S.n : Int)) = false := decide_eq_false (by omega)
          go_wp2_with fail
          go_quiet (fail)
          go_wp2_with fail
          go_end0
          exact ⟨rfl, by rw [← HN.out]; exact (HS.out.drewN _).setPos _, (HF.out.drewN _).set _ _⟩
        have cx := HS.out.dat j hlt
        rw [HS.out.adr (by omega)] at c0
        have z0 : (0 : Int) ≤ (j : Int) := by omega
        have z1 : (j : Int) < (S.n : Int) := by omega
        have z2 : decide ((j : Int) < (S.n : Int)) = true := decide_eq_true z1
        go_wp2_with fail
        go_quiet (fail)
        go_wp2_with fail
        go_quiet (fail)
        by_cases hA : S.d j = 92 ∧ S.d p = 34
        · have HN : Hid (Pl.skq S.d S.n (S.d p) k (j + 2) = Pl.skq S.d S.n (S.d p) k (p + k)) := (Pl.skq_bs S.d S.n (S.d p) k j hlt hA).symm.trans HE.out
          have b1 : (S.d j == 92) = true := beq_iff_eq.2 hA.1
          have b2 : (S.d p == 34) = true := beq_iff_eq.2 hA.2
          clear hA
          go_wp2_with fail
          go_roundw
          case rel => exact ⟨j + 2, by omega, (HS.out.drewN _).setPos (j + 2), HN, (HF.out.drewN _).set _ _⟩
          case measure => exact pos_less HS.out ((HS.out.drewN _).setPos (j + 2)) (by omega) hlt
        · have hbs : (S.d j == 92) = false ∨ ((S.d j == 92) = true ∧ (S.d p == 34) = false) := by
            by_cases h9 : S.d j = 92
            · exact .inr ⟨beq_iff_eq.2 h9, beq_eq_false_iff_ne.2 (fun h => hA ⟨h9, h⟩)⟩
            · exact .inl (beq_eq_false_iff_ne.2 h9)
          have HA : Hid (¬ (S.d j = 92 ∧ S.d p = 34)) := hA
          clear hA
          by_cases hQ : S.d j = S.d p
          · have b3 : (S.d j == S.d p) = true := beq_iff_eq.2 hQ
            have HQ : Hid (S.d j = S.d p) := hQ
            clear hQ
            have hr1 := rnq_lt' S p j hlt HQ.out
            rcases hbs with b1 | ⟨b1, b2⟩
            all_goals
              go_wp2_with fail
              clear c0 c1 f1 cx z0 z1 z2 b1 b3
              go_loopw [94] (fun v wr2 => ∃ i : Nat, j ≤ i ∧ i ≤ S.n ∧ Hid (St wr2 B S L i e) ∧ Hid (Pl.rnq S.d S.n (S.d p) i = Pl.rnq S.d S.n (S.d p) j) ∧ Hid (Fr B w wr2)) (fun v wr2 => S.n - posOf wr2 B)
              case atStart => exact ⟨j, Nat.le_refl _, by omega, HS.out.drewN _, rfl, HF.out.drewN _⟩
              case round =>
                obtain ⟨i, hi1, hi2, HSi, HEi, HFi⟩ := hrel
                have c0 := HSi.out.c0
                have c1 := HSi.out.c1
                have f1 := HSi.out.free 1
                have hstop : (i < S.n ∧ S.d i = S.d p) ∨ ¬ (i < S.n ∧ S.d i = S.d p) := Classical.em _
                rcases hstop with ⟨hil, hiq⟩ | hst
                · have HNi : Hid (Pl.rnq S.d S.n (S.d p) (i + 1) = Pl.rnq S.d S.n (S.d p) j) := (Pl.rnq_go S.d S.n (S.d p) i hil hiq).symm.trans HEi.out
                  have cx := HSi.out.dat i hil
                  rw [HSi.out.adr (by omega)] at c0
                  have z0 : (0 : Int) ≤ (i : Int) := by omega
                  have z1 : (i : Int) < (S.n : Int) := by omega
                  have z2 : decide ((i : Int) < (S.n : Int)) = true := decide_eq_true z1
                  have b3 : (S.d i == S.d p) = true := beq_iff_eq.2 hiq
                  clear hiq
                  go_wp2_with fail
                  go_quiet (fail)
                  go_wp2_with fail
                  go_roundw
                  case rel => exact ⟨i + 1, by omega, by omega, (HSi.out.drewN _).setPos (i + 1), HNi, (HFi.out.drewN _).set _ _⟩
                  case measure => exact pos_less HSi.out ((HSi.out.drewN _).setPos (i + 1)) (by omega) hil
                · have HNi : Hid (i = Pl.rnq S.d S.n (S.d p) j) := by
                    by_cases hil : i < S.n
                    · exact (Pl.rnq_st S.d S.n (S.d p) i hil (fun h => hst ⟨hil, h⟩)).symm.trans HEi.out
                    · exact (Pl.rnq_ge S.d S.n (S.d p) i hil).symm.trans HEi.out
                  have hji : j < i := by rw [HNi.out]; exact hr1.1
                  have hcase : Hid ((i < S.n ∧ S.d i ≠ S.d p) ∨ ¬ i < S.n) := by
                    by_cases hil : i < S.n
                    · exact .inl ⟨hil, fun h => hst ⟨hil, h⟩⟩
                    · exact .inr hil
                  clear hst
                  by_cases hki : k ≤ i - j
                  · have HX : Hid (i = Pl.skq S.d S.n (S.d p) k (p + k)) := by
                      rw [← HE.out, Pl.skq_end S.d S.n (S.d p) k j hlt HA.out HQ.out (by rw [← HNi.out]; exact hki)]
                      exact HNi.out
                    have y1 : decide ((i : Int) - (j : Int) ≥ (k : Int)) = true := decide_eq_true (by omega)
                    rcases hcase.out with ⟨hil, hiq⟩ | hil
                    · have cx := HSi.out.dat i hil
                      rw [HSi.out.adr (by omega)] at c0
                      have z0 : (0 : Int) ≤ (i : Int) := by omega
                      have z1 : (i : Int) < (S.n : Int) := by omega
                      have z2 : decide ((i : Int) < (S.n : Int)) = true := decide_eq_true z1
                      have b3 : (S.d i == S.d p) = false := beq_eq_false_iff_ne.2 hiq
                      clear hiq
                      go_wp2_with fail
                      go_quiet (fail)
                      go_wp2_with fail
                      refine bodyPost_ret (results_none Tryf.results24 _ _ _) rfl ?_
                      exact ⟨rfl, by rw [← HX.out]; exact HSi.out.drewN _, HFi.out.drewN _⟩
                    · have z2 : decide ((i : Int) < (S.n : Int)) = false := decide_eq_false (by omega)
                      go_wp2_with fail
                      go_quiet (fail)
                      go_wp2_with fail
                      refine bodyPost_ret (results_none Tryf.results24 _ _ _) rfl ?_
                      exact ⟨rfl, by rw [← HX.out]; exact HSi.out.drewN _, HFi.out.drewN _⟩
                  · have HX : Hid (Pl.skq S.d S.n (S.d p) k i = Pl.skq S.d S.n (S.d p) k (p + k)) := by
                      have h5 := Pl.skq_run S.d S.n (S.d p) k j hlt HA.out HQ.out (by rw [← HNi.out]; exact hki)
                      rw [← HNi.out] at h5
                      exact h5.symm.trans HE.out
                    have y1 : decide ((i : Int) - (j : Int) ≥ (k : Int)) = false := decide_eq_false (by omega)
                    rcases hcase.out with ⟨hil, hiq⟩ | hil
                    · have cx := HSi.out.dat i hil
                      rw [HSi.out.adr (by omega)] at c0
                      have z0 : (0 : Int) ≤ (i : Int) := by omega
                      have z1 : (i : Int) < (S.n : Int) := by omega
                      have z2 : decide ((i : Int) < (S.n : Int)) = true := decide_eq_true z1
                      have b3 : (S.d i == S.d p) = false := beq_eq_false_iff_ne.2 hiq
                      clear hiq
                      go_wp2_with fail
                      go_quiet (fail)
                      go_wp2_with fail
                      go_roundw
                      case rel => exact ⟨i, by omega, HSi.out.drewN _, HX, HFi.out.drewN _⟩
                      case measure => exact pos_less HS.out (HSi.out.drewN _) hji hlt
                    · have z2 : decide ((i : Int) < (S.n : Int)) = false := decide_eq_false (by omega)
                      go_wp2_with fail
                      go_quiet (fail)
                      go_wp2_with fail
                      go_roundw
                      case rel => exact ⟨i, by omega, HSi.out.drewN _, HX, HFi.out.drewN _⟩
                      case measure => exact pos_less HS.out (HSi.out.drewN _) hji hlt
          · have HN : Hid (Pl.skq S.d S.n (S.d p) k (j + 1) = Pl.skq S.d S.n (S.d p) k (p + k)) := (Pl.skq_ot S.d S.n (S.d p) k j hlt HA.out hQ).symm.trans HE.out
            have b3 : (S.d j == S.d p) = false := beq_eq_false_iff_ne.2 hQ
            clear hQ HA
            rcases hbs with b1 | ⟨b1, b2⟩
            all_goals
              go_wp2_with fail
              go_roundw
              case rel => exact ⟨j + 1, by omega, (HS.out.drewN _).setPos (j + 1), HN, (HF.out.drewN _).set _ _⟩
              case measure => exact pos_less HS.out ((HS.out.drewN _).setPos (j + 1)) (by omega) hlt
end Go.Proofs.Qxb6604368aFmt
