/-
  WALKS: document.
-/
import Derived.Test.Qxb6604368aFmtInd
import Derived.Test.Qxb6604368aFmtPdl
import Derived.Lib.ConvBytes
namespace Go.Proofs.Qxb6604368aFmt
open Go.RowKit Go.Extern.Stop Go.Stop Go.Extern
set_option linter.unusedVariables false

theorem hasPre0 (a : Option Addr) (m c b2 : Nat) (hm : 0 < m) (w : World) : Calls Tryf.prog 13 #[.slice a 0 0, .slice (some ⟨b2, 0, none⟩) m c] w fun e w' => e = .returned (.bool false) ∧ w' = w := by
  have z : decide ((0 : Int) ≥ (m : Int)) = false := decide_eq_false (by omega)
  go_enter Tryf.func13, Tryf.ntmps13
  go_wp2
  go_ret
  exact ⟨rfl, rfl⟩

theorem hasPre_any (S : Src) (b2 : Nat) (ys : List Int) (m c2 : Nat) (w : World) (hm : ys.length = m) (hm0 : 0 < m) (ha : 0 < S.n → S.a = some ⟨S.b, 0, none⟩) (hc1 : ∀ j, j < S.n → w.cell? ⟨S.b, j, none⟩ = some (.int .u8 (S.d j))) (hc2 : ∀ i, i < m → w.cell? ⟨b2, i, none⟩ = some (.int .u8 (ys.getD i 0))) :
    Calls Tryf.prog 13 #[.slice S.a S.n S.n, .slice (some ⟨b2, 0, none⟩) m c2] w fun e w' => e = .returned (.bool (pre S 0 ys)) ∧ w' = w := by
  by_cases h0 : 0 < S.n
  · rw [ha h0]
    exact hasPre_row S 0 b2 ys m c2 w hm hc1 hc2
  · have hn : S.n = 0 := by omega
    have hp : pre S 0 ys = false := by
      cases h : pre S 0 ys
      · rfl
      · have := pre_len S 0 ys h
        omega
    rw [hp, hn]
    exact hasPre0 S.a m c2 b2 hm0 w

theorem St.bytes {w : World} {B : Nat} {S : Src} {L : Lim} {p : Nat} {e : Int} (h : St w B S L p e) (s : ByteArray) : St (Lib.bytesWorld w 5 s) B S L p e := by
  have hB : B < w.heap.size := cell_lt h.c1
  refine ⟨by rw [Lib.bytesWorld_at_old w 5 s B hB]; exact h.blk, fun j hj => ?_, h.ne, h.adr⟩
  have h1 := h.dat j hj
  rw [World.cell?_of_block (a := ⟨S.b, j, none⟩) (Lib.bytesWorld_at_old w 5 s S.b (cell_lt h1))]
  exact h1
theorem bytes_cell {w : World} {b j : Nat} {v : Value} (h : w.cell? ⟨b, j, none⟩ = some v) (s : ByteArray) : (Lib.bytesWorld w 5 s).cell? ⟨b, j, none⟩ = some v := by
  rw [World.cell?_of_block (a := ⟨b, j, none⟩) (Lib.bytesWorld_at_old w 5 s b (cell_lt h))]
  exact h
theorem Fr.bytes {B : Nat} {a w : World} (h : Fr B a w) (s : ByteArray) : Fr B a (Lib.bytesWorld w 5 s) :=
  h.trans ⟨⟨rfl, rfl, rfl, by rw [Lib.bytesWorld_size]; omega, fun k hk _ => Lib.bytesWorld_at_old w 5 s k hk⟩, fun ⟨⟨x, hx⟩, ⟨y, hy⟩⟩ => ⟨⟨x, bytes_cell hx s⟩, ⟨y, bytes_cell hy s⟩⟩⟩
theorem Fr.strs {B b i : Nat} {w w' : World} {v : Value} (h : Fr B w w') (hb : b ≠ B) (hc : w.cell? ⟨b, i, none⟩ = some v) : w'.cell? ⟨b, i, none⟩ = some v := h.cell hb hc

/-- The three marks as they lie in memory. -/
structure Strs (w : World) (b : Nat) : Prop where
  k0 : w.cell? ⟨b, 0, none⟩ = some (.string ⟨#[239, 187, 191]⟩)
  k1 : w.cell? ⟨b, 1, none⟩ = some (.string ⟨#[255, 254]⟩)
  k2 : w.cell? ⟨b, 2, none⟩ = some (.string ⟨#[254, 255]⟩)
theorem Strs.bytes {w : World} {b : Nat} (h : Strs w b) (s : ByteArray) : Strs (Lib.bytesWorld w 5 s) b := ⟨bytes_cell h.k0 s, bytes_cell h.k1 s, bytes_cell h.k2 s⟩

/-- Past a byte-order mark. -/
def bom (S : Src) : Nat := if pre S 0 [239, 187, 191] = true then 3 else if pre S 0 [255, 254] = true then 2 else if pre S 0 [254, 255] = true then 2 else 0
theorem bom_bd (S : Src) : bom S ≤ S.n := by
  unfold bom
  by_cases h1 : pre S 0 [239, 187, 191] = true
  · rw [if_pos h1]; have := pre_len S 0 _ h1; simp at this; omega
  · rw [if_neg h1]
    by_cases h2 : pre S 0 [255, 254] = true
    · rw [if_pos h2]; have := pre_len S 0 _ h2; simp at this; omega
    · rw [if_neg h2]
      by_cases h3 : pre S 0 [254, 255] = true
      · rw [if_pos h3]; have := pre_len S 0 _ h3; simp at this; omega
      · rw [if_neg h3]; omega

/-- The loop of document. -/
def DocRel (B : Nat) (S : Src) (L : Lim) (g : Nat → Nat × Nat) (R : Nat) (w : World) (v5 v6 : Value) (wr : World) : Prop :=
  ∃ (j c : Nat) (a b : Int), j ≤ S.n ∧ a ≤ 9223372036854775807 ∧ b ≤ 9223372036854775807 ∧ v5 = .int .i64 a ∧ v6 = .int .i64 b ∧ Hid (St wr B S L j (c : Int)) ∧ Hid (c + Pl.dl S.d S.n g j = R) ∧ Hid (0 ≤ L.en → (c : Int) ≤ L.en) ∧ Hid (Fr B w wr)

set_option maxHeartbeats 4000000 in
set_option maxRecDepth 100000 in
theorem document_st (F : Interp) (S : Src) (hn : S.n ≤ 65536) (g : Nat → Nat × Nat)
    (hg : ∀ q, q < S.n → (q ≤ (g q).1 ∧ (g q).1 ≤ S.n ∧ (g q).2 ≤ (g q).1 - q + 1) ∧ (S.d q = 91 → g q = Pl.key S.d S.n (hdp S q)) ∧ (S.d q ≠ 91 → Does F S 16 q (g q)))
    (B : Nat) (L : Lim) (w : World) (hF : F.answers w.tape) (h : St w B S L 0 0) :
    Calls Tryf.prog 11 #[.pointer (some ⟨B, 0, none⟩)] w (Res B S L 0 (S.n, Pl.dl S.d S.n g (bom S)) w) := by
  have HFa : Hid (F.answers w.tape) := hF
  have H : Hid (St w B S L 0 0) := h
  have HG : Hid _ := hg
  have hbd := Pl.dl_bd S.d S.n g (fun q hq => (hg q hq).1) (bom S) (bom_bd S)
  obtain ⟨R, hR⟩ : ∃ R, Pl.dl S.d S.n g (bom S) = R := ⟨_, rfl⟩
  rw [hR] at hbd ⊢
  have hR' : Hid (Pl.dl S.d S.n g (bom S) = R) := hR
  clear hF h hg hR
  go_enter Tryf.func11, Tryf.ntmps11
  have hcv : ∀ (w : World) (s : ByteArray), (convert 9 22 (.string s)).run Tryf.prog w = .ok (.slice (some ⟨w.heap.size, 0, none⟩) s.size (grownCap w s.size 0 5)) (Lib.bytesWorld w 5 s) := fun w s => Lib.run_convert_string_bytes w 9 22 5 s Tryf.underlying9 Tryf.underlying22 Tryf.underlying5
  go_upto_block 0 with fail
  have hB : B < w.heap.size := cell_lt H.out.c1
  go_cut [2] from 4 (fun v w2 => v = .nilIface ∧ Hid (St w2 B S L (bom S) 0) ∧ Hid (Fr B w w2))
  case first =>
    have HS1 : Hid (St (w.alloc (.cells #[.string ⟨#[239, 187, 191]⟩, .string ⟨#[255, 254]⟩, .string ⟨#[254, 255]⟩] 9)) B S L 0 0) := H.out.alloc _
    have HK1 : Hid (Strs (w.alloc (.cells #[.string ⟨#[239, 187, 191]⟩, .string ⟨#[255, 254]⟩, .string ⟨#[254, 255]⟩] 9)) w.heap.size) := ⟨cell_new w _ _ _ _ 0 rfl, cell_new w _ _ _ _ 1 rfl, cell_new w _ _ _ _ 2 rfl⟩
    have HF1 : Hid (Fr B w (w.alloc (.cells #[.string ⟨#[239, 187, 191]⟩, .string ⟨#[255, 254]⟩, .string ⟨#[254, 255]⟩] 9))) := (Fr.refl _ _).alloc _
    go_wp2_with fail
    go_loopw [4, 10] (fun v4 v10 wr => ∃ i : Nat, i ≤ 3 ∧ v10 = .int .i64 (i : Int) ∧ Hid (St wr B S L 0 0) ∧ Hid (Fr B w wr) ∧ Hid (Strs wr w.heap.size) ∧ Hid ((1 ≤ i → pre S 0 [239, 187, 191] = false) ∧ (2 ≤ i → pre S 0 [255, 254] = false) ∧ (3 ≤ i → pre S 0 [254, 255] = false))) (fun v4 v10 wr => 3 - (intOf v10).toNat)
    case atStart => exact ⟨0, by omega, rfl, HS1, HF1, HK1, ⟨fun h => absurd h (by omega), fun h => absurd h (by omega), fun h => absurd h (by omega)⟩⟩
    case round =>
      obtain ⟨i, hi, rfl, HS, HF, HK, HP⟩ := hrel
      have c0 := HS.out.c0
      have hi4 : i = 0 ∨ i = 1 ∨ i = 2 ∨ i = 3 := by omega
      rcases hi4 with rfl | rfl | rfl | rfl
      · have kk := HK.out.k0
        go_wp2_with fail
        refine (hasPre_any S _ [239, 187, 191] 3 _ _ rfl (by decide) HS.out.adr (St.bytes HS.out _).dat (fun i hi => ?_)).mono ?_
        · rw [Lib.bytesWorld_cell wr 5 ⟨#[239, 187, 191]⟩ i (by exact hi)]
          have hi3 : i < 3 := hi
          have : i = 0 ∨ i = 1 ∨ i = 2 := by omega
          rcases this with rfl | rfl | rfl <;> rfl
        rintro e1 w1 ⟨rfl, rfl⟩
        cases hpre : pre S 0 [239, 187, 191]
        · have HP2 : Hid ((1 ≤ 1 → pre S 0 [239, 187, 191] = false) ∧ (2 ≤ 1 → pre S 0 [255, 254] = false) ∧ (3 ≤ 1 → pre S 0 [254, 255] = false)) := ⟨fun _ => hpre, fun h => absurd h (by omega), fun h => absurd h (by omega)⟩
          clear hpre
          go_wp2_with fail
          go_roundw
          case rel => exact ⟨1, by omega, rfl, St.bytes HS.out _, HF.out.bytes _, HK.out.bytes _, HP2⟩
          case measure => simp [intOf]
        · have HBm : Hid (bom S = 3) := if_pos hpre
          have f1 := (St.bytes HS.out ⟨#[239, 187, 191]⟩).free 1
          have c1 := (St.bytes HS.out ⟨#[239, 187, 191]⟩).c1
          clear hpre
          go_wp2_with fail
          go_meet
          case rel => exact ⟨rfl, by rw [HBm.out]; exact (St.bytes HS.out _).setPos 3, (HF.out.bytes _).set _ _⟩
      · have kk := HK.out.k1
        go_wp2_with fail
        refine (hasPre_any S _ [255, 254] 2 _ _ rfl (by decide) HS.out.adr (St.bytes HS.out _).dat (fun i hi => ?_)).mono ?_
        · rw [Lib.bytesWorld_cell wr 5 ⟨#[255, 254]⟩ i (by exact hi)]
          have hi3 : i < 2 := hi
          have : i = 0 ∨ i = 1 := by omega
          rcases this with rfl | rfl <;> rfl
        rintro e1 w1 ⟨rfl, rfl⟩
        cases hpre : pre S 0 [255, 254]
        · have HP2 : Hid ((1 ≤ 2 → pre S 0 [239, 187, 191] = false) ∧ (2 ≤ 2 → pre S 0 [255, 254] = false) ∧ (3 ≤ 2 → pre S 0 [254, 255] = false)) := ⟨fun _ => HP.out.1 (by omega), fun _ => hpre, fun h => absurd h (by omega)⟩
          clear hpre
          go_wp2_with fail
          go_roundw
          case rel => exact ⟨2, by omega, rfl, St.bytes HS.out _, HF.out.bytes _, HK.out.bytes _, HP2⟩
          case measure => simp [intOf]
        · have HBm : Hid (bom S = 2) := by unfold bom; rw [if_neg (by rw [HP.out.1 (by omega)]; decide)]; exact if_pos hpre
          have f1 := (St.bytes HS.out ⟨#[255, 254]⟩).free 1
          have c1 := (St.bytes HS.out ⟨#[255, 254]⟩).c1
          clear hpre
          go_wp2_with fail
          go_meet
          case rel => exact ⟨rfl, by rw [HBm.out]; exact (St.bytes HS.out _).setPos 2, (HF.out.bytes _).set _ _⟩
      · have kk := HK.out.k2
        go_wp2_with fail
        refine (hasPre_any S _ [254, 255] 2 _ _ rfl (by decide) HS.out.adr (St.bytes HS.out _).dat (fun i hi => ?_)).mono ?_
        · rw [Lib.bytesWorld_cell wr 5 ⟨#[254, 255]⟩ i (by exact hi)]
          have hi3 : i < 2 := hi
          have : i = 0 ∨ i = 1 := by omega
          rcases this with rfl | rfl <;> rfl
        rintro e1 w1 ⟨rfl, rfl⟩
        cases hpre : pre S 0 [254, 255]
        · have HP2 : Hid ((1 ≤ 3 → pre S 0 [239, 187, 191] = false) ∧ (2 ≤ 3 → pre S 0 [255, 254] = false) ∧ (3 ≤ 3 → pre S 0 [254, 255] = false)) := ⟨fun _ => HP.out.1 (by omega), fun _ => HP.out.2.1 (by omega), fun _ => hpre⟩
          clear hpre
          go_wp2_with fail
          go_roundw
          case rel => exact ⟨3, by omega, rfl, St.bytes HS.out _, HF.out.bytes _, HK.out.bytes _, HP2⟩
          case measure => simp [intOf]
        · have HBm : Hid (bom S = 2) := by unfold bom; rw [if_neg (by rw [HP.out.1 (by omega)]; decide), if_neg (by rw [HP.out.2.1 (by omega)]; decide)]; exact if_pos hpre
          have f1 := (St.bytes HS.out ⟨#[254, 255]⟩).free 1
          have c1 := (St.bytes HS.out ⟨#[254, 255]⟩).c1
          clear hpre
          go_wp2_with fail
          go_meet
          case rel => exact ⟨rfl, by rw [HBm.out]; exact (St.bytes HS.out _).setPos 2, (HF.out.bytes _).set _ _⟩
      · have HBm : Hid (bom S = 0) := by
          show bom S = 0
          unfold bom
          rw [if_neg (by rw [HP.out.1 (by omega)]; decide), if_neg (by rw [HP.out.2.1 (by omega)]; decide), if_neg (by rw [HP.out.2.2 (by omega)]; decide)]
        go_wp2_with fail
        go_meet
        case rel => exact ⟨rfl, by rw [HBm.out]; exact HS, HF⟩
  case rest =>
    obtain ⟨rfl, HS1, HF1⟩ := hcut
    clear hcv H hB
    have HRd : Hid (Pl.dl S.d S.n g (bom S) = R) := hR'
    have hbm := bom_bd S
    go_wp2_with fail
    go_loopw [5, 6] (fun v5 v6 wr => DocRel B S L g R w v5 v6 wr) (fun v5 v6 wr => S.n - posOf wr B)
    case atStart => exact ⟨bom S, 0, 0, 0, hbm, by decide, by decide, rfl, rfl, HS1, by rw [Nat.zero_add]; exact HRd, fun h => h, HF1⟩
    case round =>
      obtain ⟨j, c, a, b, hj, ha, hb, rfl, rfl, HS, HE, HN, HF⟩ := hrel
      have hbb := Pl.skb_bd S.d S.n true j hj
      go_wp2_with fail
      refine (skipBlank_st true B S L j _ _ hn hj HS.out).mono ?_
      rintro en w3 ⟨rfl, hs3, hf3⟩
      generalize hs : Pl.skb S.d S.n true j = s at hs3 hbb
      have HSs : Hid (Pl.skb S.d S.n true j = s) := hs
      clear hs
      have HS3 : Hid (St w3 B S L s (c : Int)) := hs3
      have HF3 : Hid (Fr B w w3) := HF.out.trans hf3
      clear hs3 hf3
      have c1 := HS3.out.c1
      have c0 := HS3.out.c0
      by_cases hlt : s < S.n
      case neg =>
        have HK : Hid (c = R ∧ s = S.n) := by
          have h1 := HE.out
          rw [Pl.dl_end S.d S.n g j (by rw [HSs.out]; exact hlt)] at h1
          exact ⟨by omega, by omega⟩
        have z3 : ((s : Int) == (S.n : Int)) = true := beq_iff_eq.2 (by omega)
        go_wp2_with fail
        go_quiet (fail)
        go_wp2_with fail
        go_ret
        refine ⟨HF3.out.drewN _, .inl ⟨rfl, fun h0 => ?_, ?_⟩⟩
        · have h7 := HN.out h0
          have h8 := HK.out.1
          show 0 + (R : Int) ≤ L.en
          omega
        · show St _ B S L S.n (0 + (R : Int))
          rw [← HK.out.1, ← HK.out.2, Int.zero_add]
          exact HS3.out.drewN _
      have cx := HS3.out.dat s hlt
      rw [HS3.out.adr (by omega)] at c0
      have z0 : (0 : Int) ≤ (s : Int) := by omega
      have z1 : (s : Int) < (S.n : Int) := by omega
      have z3 : ((s : Int) == (S.n : Int)) = false := beq_eq_false_iff_ne.2 (by omega)
      have hgs := (HG.out s hlt).1
      have hnx := Pl.skl_next S.d S.n s (g s).1 hlt hgs.1 hgs.2.1
      have HD : Hid (c + (g s).2 + Pl.dl S.d S.n g (Pl.skl S.d S.n (g s).1) = R) := by
        have h1 := HE.out
        rw [Pl.dl_go S.d S.n g j hj (by rw [HSs.out]; exact hlt) (by rw [HSs.out]; omega), HSs.out] at h1
        show c + (g s).2 + Pl.dl S.d S.n g (Pl.skl S.d S.n (g s).1) = R
        omega
      have HB9 : Hid ((c : Int) + ((g s).2 : Int) ≤ 1000000000) := by
        have h1 := HD.out
        show (c : Int) + ((g s).2 : Int) ≤ 1000000000
        omega
      by_cases h91 : S.d s = 91
      · have HGk : Hid (g s = Pl.key S.d S.n (hdp S s)) := (HG.out s hlt).2.1 h91
        rw [h91] at cx
        clear h91
        go_wp2_with fail
        go_quiet (fail)
        go_wp2_with fail
        go_quiet (fail)
        go_wp2_with fail
        refine (header_st F B S L s (c : Int) _ (tape_fr (HF3.out.drewN _) HFa.out) hn hlt (by omega) (by have := HB9.out; omega) (HS3.out.drewN _)).mono ?_
        rw [← HGk.out]
        rintro en w5 ⟨hf, ⟨a2, b2, ha2, hb2, rfl, hen, hs⟩ | ⟨⟨v, rfl⟩, herr⟩⟩
        · have HEN : Hid ((c : Int) + ((g s).2 : Int) ≤ L.en) := hen
          clear hen
          have HS5 : Hid (St w5 B S L (g s).1 (((c + (g s).2 : Nat)) : Int)) := by
            show St w5 B S L (g s).1 (((c + (g s).2 : Nat)) : Int)
            rw [show (((c + (g s).2 : Nat)) : Int) = (c : Int) + ((g s).2 : Int) by omega]
            exact hs
          have HF5 : Hid (Fr B w w5) := (HF3.out.drewN _).trans hf
          have HN5 : Hid (0 ≤ L.en → (((c + (g s).2 : Nat)) : Int) ≤ L.en) := fun h0 => by
            have h7 := HN.out h0
            have h8 : (c : Int) + ((g s).2 : Int) ≤ L.en := HEN
            omega
          clear hs hf
          go_wp2_with fail
          refine (skipLine_st B S L (g s).1 _ _ hn hgs.2.1 HS5.out).mono ?_
          rintro en w6 ⟨rfl, hs6, hf6⟩
          have HS6 : Hid (St w6 B S L (Pl.skl S.d S.n (g s).1) (((c + (g s).2 : Nat)) : Int)) := hs6
          have HF6 : Hid (Fr B w w6) := HF5.out.trans hf6
          clear hs6 hf6
          go_wp2_with fail
          go_roundw
          case rel => exact ⟨Pl.skl S.d S.n (g s).1, c + (g s).2, a2, b2, hnx.2.1, ha2, hb2, rfl, rfl, HS6, HD, HN5, HF6⟩
          case measure => exact pos_less HS.out HS6.out (by omega) (by omega)
        · have HR : Hid (Res B S L 0 (S.n, R) w (.returned (.iface 56 v)) w5) := ⟨(HF3.out.drewN _).trans hf, .inr ⟨⟨v, rfl⟩, fun t => by
            have h7 : L.en < (c : Int) + ((g s).2 : Int) := herr t
            have h8 := HD.out
            show L.en < 0 + (R : Int)
            omega⟩⟩
          clear hf herr
          go_wp2_with fail
          go_ret
          exact HR
      · have HDo : Hid (Does F S 16 s (g s)) := (HG.out s hlt).2.2 h91
        have b91 : (S.d s == 91) = false := beq_eq_false_iff_ne.2 h91
        clear h91
        go_wp2_with fail
        go_quiet (fail)
        go_wp2_with fail
        go_quiet (fail)
        go_wp2_with fail
        refine (HDo.out B L (c : Int) a b _ (tape_fr (HF3.out.drewN _) HFa.out) (HS3.out.drewN _) (by omega) HB9.out ha hb).mono ?_
        rintro en w5 ⟨hf, ⟨rfl, hen, hs⟩ | ⟨⟨v, rfl⟩, herr⟩⟩
        · have HEN0 : Hid ((c : Int) ≤ L.en → (c : Int) + ((g s).2 : Int) ≤ L.en) := hen
          clear hen
          have HS5 : Hid (St w5 B S L (g s).1 (((c + (g s).2 : Nat)) : Int)) := by
            show St w5 B S L (g s).1 (((c + (g s).2 : Nat)) : Int)
            rw [show (((c + (g s).2 : Nat)) : Int) = (c : Int) + ((g s).2 : Int) by omega]
            exact hs
          have HF5 : Hid (Fr B w w5) := (HF3.out.drewN _).trans hf
          have HN5 : Hid (0 ≤ L.en → (((c + (g s).2 : Nat)) : Int) ≤ L.en) := fun h0 => by
            have h7 := HN.out h0
            have h8 := HEN0.out h7
            omega
          clear hs hf
          go_wp2_with fail
          refine (skipLine_st B S L (g s).1 _ _ hn hgs.2.1 HS5.out).mono ?_
          rintro en w6 ⟨rfl, hs6, hf6⟩
          have HS6 : Hid (St w6 B S L (Pl.skl S.d S.n (g s).1) (((c + (g s).2 : Nat)) : Int)) := hs6
          have HF6 : Hid (Fr B w w6) := HF5.out.trans hf6
          clear hs6 hf6
          go_wp2_with fail
          go_roundw
          case rel => exact ⟨Pl.skl S.d S.n (g s).1, c + (g s).2, a, b, hnx.2.1, ha, hb, rfl, rfl, HS6, HD, HN5, HF6⟩
          case measure => exact pos_less HS.out HS6.out (by omega) (by omega)
        · have HR : Hid (Res B S L 0 (S.n, R) w (.returned (.iface 56 v)) w5) := ⟨(HF3.out.drewN _).trans hf, .inr ⟨⟨v, rfl⟩, fun t => by
            have h7 : L.en < (c : Int) + ((g s).2 : Int) := herr t
            have h8 := HD.out
            show L.en < 0 + (R : Int)
            omega⟩⟩
          clear hf herr
          go_wp2_with fail
          go_ret
          exact HR
end Go.Proofs.Qxb6604368aFmt
