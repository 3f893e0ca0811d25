/-
  WALKS: items, over each of the two closures.
-/
import Derived.Test.Qxb6604368aFmtRs
namespace Go.Proofs.Qxb6604368aFmt
open Go.RowKit Go.Extern.Stop Go.Stop Go.Extern
set_option linter.unusedVariables false

theorem tape_fr {F : Interp} {B : Nat} {w w' : World} (h : Fr B w w') (hF : F.answers w.tape) : F.answers w'.tape := by rw [h.tape]; exact hF

/-- The loop of items. -/
def ItRel (B : Nat) (S : Src) (L : Lim) (e : Int) (g : Nat → Bool → Nat × Nat) (p : Nat) (R : Nat × Nat) (w : World) (v10 : Value) (wr : World) : Prop :=
  ∃ (j c : Nat) (first : Bool), p < j ∧ j ≤ S.n ∧ v10 = .bool first ∧ Hid (St wr B S L j (e + (c : Int))) ∧ Hid (Pl.lp S.d S.n g j first = (R.1, R.2 - c) ∧ c ≤ R.2) ∧ Hid (e ≤ L.en → e + (c : Int) ≤ L.en) ∧ Hid (Fr B w wr)

set_option maxHeartbeats 8000000 in
set_option maxRecDepth 100000 in
theorem items35_st (F : Interp) (S : Src) (hn : S.n ≤ 65536) (p : Nat) (hp : p < S.n) (g : Nat → Bool → Nat × Nat)
    (hg : ∀ q first, p < q → Pl.ist S.d S.n q → (q < (g q first).1 ∧ (g q first).1 ≤ S.n) ∧ ItemDoes F S 35 q first (g q first))
    (B : Nat) (L : Lim) (e lvl nm : Int) (b1 b2 b3 : Nat) (w : World) (hF : F.answers w.tape) (h : St w B S L p e) (hX : Box w B b1 b2 b3 lvl nm) (he : 0 ≤ e)
    (hE : e + ((Pl.lp S.d S.n g (p + 1) true).2 : Int) ≤ 1000000000) (hl : lvl ≤ 9223372036854775807) (hm : nm ≤ 9223372036854775807) :
    Calls Tryf.prog 34 #[.pointer (some ⟨B, 0, none⟩), .int .i64 lvl, .int .i64 nm, .func (.func 35) #[] #[.pointer (some ⟨b1, 0, none⟩), .pointer (some ⟨b2, 0, none⟩), .pointer (some ⟨b3, 0, none⟩)]] w (Res B S L e (Pl.lp S.d S.n g (p + 1) true) w) := by
  have H : Hid (St w B S L p e) := h
  have HFa : Hid (F.answers w.tape) := hF
  have HX : Hid (Box w B b1 b2 b3 lvl nm) := hX
  have HG : Hid (∀ q first, p < q → Pl.ist S.d S.n q → (q < (g q first).1 ∧ (g q first).1 ≤ S.n) ∧ ItemDoes F S 35 q first (g q first)) := hg
  obtain ⟨R, hR⟩ : ∃ R, Pl.lp S.d S.n g (p + 1) true = R := ⟨_, rfl⟩
  rw [hR] at hE ⊢
  have HR : Hid (Pl.lp S.d S.n g (p + 1) true = R) := hR
  have HL : Hid (e + (R.2 : Int) ≤ 1000000000 ∧ lvl ≤ 9223372036854775807 ∧ nm ≤ 9223372036854775807) := ⟨hE, hl, hm⟩
  clear h hF hX hg hR hl hm hE
  go_enter Tryf.func34, Tryf.ntmps34
  go_wp2_with fail
  refine (check_st F B S L p e lvl nm 0 _ HFa.out hn (by omega) (by omega) he (by have := HL.out.1; omega) (by decide) H.out).mono ?_
  rintro en w2 ⟨hf2, ⟨rfl, hen, hs2⟩ | ⟨⟨v, rfl⟩, herr⟩⟩
  · have HS2 : Hid (St w2 B S L p (e + ((0 : Nat) : Int))) := hs2
    have HF2 : Hid (Fr B w w2) := hf2
    have HN2 : Hid (e + ((0 : Nat) : Int) ≤ L.en) := hen
    clear hs2 hf2 hen
    have c1 := HS2.out.c1
    have f1 := HS2.out.free 1
    have z0 : (p : Int) ≤ 65536 := by omega
    go_wp2_with fail
    go_loopw [10] (fun v10 wr => ItRel B S L e g p R w v10 wr) (fun v10 wr => S.n - posOf wr B)
    case atStart => exact ⟨p + 1, 0, true, by omega, by omega, rfl, HS2.out.setPos (p + 1), ⟨by rw [HR.out]; rfl, Nat.zero_le _⟩, fun _ => HN2.out, HF2.out.set _ _⟩
    case round =>
      obtain ⟨j, c, first, hpj, hj, rfl, HS, HE, HN, HF⟩ := hrel
      clear c1 f1
      have hb := Pl.skb_bd S.d S.n true j hj
      go_wp2_with fail
      refine (skipBlank_st true B S L j _ _ hn hj HS.out).mono ?_
      rintro en w3 ⟨rfl, hs3, hf3⟩
      generalize hs : Pl.skb S.d S.n true j = s at hs3 hb
      have HSs : Hid (Pl.skb S.d S.n true j = s) := hs
      clear hs
      have HS3 : Hid (St w3 B S L s (e + (c : Int))) := hs3
      have HF3 : Hid (Fr B w w3) := HF.out.trans hf3
      clear hs3 hf3
      have c1 := HS3.out.c1
      have c0 := HS3.out.c0
      have f1 := HS3.out.free 1
      by_cases hlt : s < S.n
      case neg =>
        have HK : Hid (s = R.1 ∧ c = R.2) := by
          have h1 := HE.out.1
          rw [Pl.lp_end S.d S.n g j first (by rw [HSs.out]; exact hlt), HSs.out] at h1
          have h2 := congrArg Prod.fst h1
          have h3 := congrArg Prod.snd h1
          have h4 := HE.out.2
          dsimp only at h2 h3
          exact ⟨h2, by omega⟩
        have z3 : ((s : Int) == (S.n : Int)) = true := beq_iff_eq.2 (by omega)
        go_wp2_with fail
        go_quiet (fail)
        go_wp2_with fail
        go_ret
        refine ⟨HF3.out.drewN _, .inl ⟨rfl, ?_, ?_⟩⟩
        · rw [← HK.out.2]; exact HN.out
        · rw [← HK.out.1, ← HK.out.2]; exact HS3.out.drewN _
      have cx := HS3.out.dat s hlt
      rw [HS3.out.adr (by omega)] at c0
      have z0 : (0 : Int) ≤ (s : Int) := by omega
      have z1 : (s : Int) < (S.n : Int) := by omega
      have z3 : ((s : Int) == (S.n : Int)) = false := beq_eq_false_iff_ne.2 (by omega)
      have HLt : Hid (Pl.skb S.d S.n true j < S.n) := by rw [HSs.out]; exact hlt
      by_cases hcl : S.d s = 93 ∨ S.d s = 125
      · have HK : Hid (s + 1 = R.1 ∧ c = R.2) := by
          have h1 := HE.out.1
          rw [Pl.lp_close S.d S.n g j first hj HLt.out (by rw [HSs.out]; exact hcl), HSs.out] at h1
          have h2 := congrArg Prod.fst h1
          have h3 := congrArg Prod.snd h1
          have h4 := HE.out.2
          dsimp only at h2 h3
          exact ⟨h2, by omega⟩
        rcases hcl with hq | hq
        all_goals
          rw [hq] at cx
          clear hq
          go_wp2_with fail
          go_quiet (fail)
          go_wp2_with fail
          go_quiet (fail)
          go_wp2_with fail
          go_ret
          refine ⟨(HF3.out.drewN _).set _ _, .inl ⟨rfl, ?_, ?_⟩⟩
          · rw [← HK.out.2]; exact HN.out
          · rw [← HK.out.1, ← HK.out.2]; exact (HS3.out.drewN _).setPos (s + 1)
      · have b93 : (S.d s == 93) = false := beq_eq_false_iff_ne.2 (by omega)
        have b125 : (S.d s == 125) = false := beq_eq_false_iff_ne.2 (by omega)
        have HC : Hid (¬ (S.d s = 93 ∨ S.d s = 125)) := hcl
        clear hcl
        by_cases hq : S.d s = 44
        · have HK : Hid (Pl.lp S.d S.n g (s + 1) true = (R.1, R.2 - c) ∧ c ≤ R.2) := by
            have h1 := HE.out.1
            rw [Pl.lp_comma S.d S.n g j first hj HLt.out (by rw [HSs.out]; exact HC.out) (by rw [HSs.out]; exact hq), HSs.out] at h1
            exact ⟨h1, HE.out.2⟩
          rw [hq] at cx
          clear hq b93 b125
          go_wp2_with fail
          go_quiet (fail)
          go_wp2_with fail
          go_quiet (fail)
          go_wp2_with fail
          go_roundw
          case rel => exact ⟨s + 1, c, true, by omega, by omega, rfl, (HS3.out.drewN _).setPos (s + 1), HK, HN, (HF3.out.drewN _).set _ _⟩
          case measure => exact pos_less HS.out ((HS3.out.drewN _).setPos (s + 1)) (by omega) (by omega)
        · have b44 : (S.d s == 44) = false := beq_eq_false_iff_ne.2 hq
          have HI := HG.out s first (by omega) (by have := Pl.ist_at S.d S.n j hj HLt.out (by rw [HSs.out]; exact HC.out) (by rw [HSs.out]; exact hq); rw [HSs.out] at this; exact this)
          have HK : Hid (Pl.lp S.d S.n g (g s first).1 false = (R.1, R.2 - (c + (g s first).2)) ∧ c + (g s first).2 ≤ R.2) := by
            have h1 := HE.out.1
            rw [Pl.lp_item S.d S.n g j first hj HLt.out (by rw [HSs.out]; exact HC.out) (by rw [HSs.out]; exact hq) (by rw [HSs.out]; exact HI.1.1), HSs.out] at h1
            have h2 := congrArg Prod.fst h1
            have h3 := congrArg Prod.snd h1
            have h4 := HE.out.2
            dsimp only at h2 h3
            exact ⟨Prod.ext h2 (by show _ = R.2 - (c + (g s first).2); omega), by omega⟩
          have HID : Hid (ItemDoes F S 35 s first (g s first)) := HI.2
          have hg1 := HI.1
          clear HI hq
          go_wp2_with fail
          go_quiet (fail)
          go_wp2_with fail
          go_quiet (fail)
          go_wp2_with fail
          refine (HID.out B L (e + (c : Int)) lvl nm b1 b2 b3 _ (tape_fr (HF3.out.drewN _) HFa.out) (HS3.out.drewN _) (HX.out.fr (HF3.out.drewN _)) (by omega) (by have h1 := HL.out.1; have h2 := HK.out.2; omega) HL.out.2.1 HL.out.2.2).mono ?_
          rintro en w4 ⟨hf4, ⟨rfl, hen, hs4⟩ | ⟨⟨v, rfl⟩, herr⟩⟩
          · have hec : e + (c : Int) + ((g s first).2 : Int) = e + ((c + (g s first).2 : Nat) : Int) := by omega
            rw [hec] at hs4 hen
            have HS4 : Hid (St w4 B S L (g s first).1 (e + ((c + (g s first).2 : Nat) : Int))) := hs4
            have HN4 : Hid (e ≤ L.en → e + ((c + (g s first).2 : Nat) : Int) ≤ L.en) := fun h5 => hen (HN.out h5)
            have HF4 : Hid (Fr B w w4) := (HF3.out.drewN _).trans hf4
            clear hs4 hen hf4 hec
            go_wp2_with fail
            go_roundw
            case rel => exact ⟨(g s first).1, c + (g s first).2, false, by omega, hg1.2, rfl, HS4, HK, HN4, HF4⟩
            case measure => exact pos_less HS.out HS4.out (by omega) (by omega)
          · have HF4 : Hid (Fr B w w4) := (HF3.out.drewN _).trans hf4
            have HX4 : Hid (Top L → L.en < e + (c : Int) + ((g s first).2 : Int)) := herr
            clear herr hf4
            go_wp2_with fail
            go_ret
            refine ⟨HF4.out, .inr ⟨⟨_, rfl⟩, fun t => ?_⟩⟩
            have h1 := HX4.out t
            have h2 := HK.out.2
            omega
  · have HE2 : Hid (L.lv < lvl ∨ L.nm < nm ∨ L.en < e + ((0 : Nat) : Int)) := herr
    have HF2 : Hid (Fr B w w2) := hf2
    clear herr hf2
    go_wp2_with fail
    go_ret
    refine ⟨HF2.out, .inr ⟨⟨_, rfl⟩, fun t => ?_⟩⟩
    have := top_le HE2.out HL.out.2.1 HL.out.2.2 t
    omega

set_option maxHeartbeats 8000000 in
set_option maxRecDepth 100000 in
theorem items36_st (F : Interp) (S : Src) (hn : S.n ≤ 65536) (p : Nat) (hp : p < S.n) (g : Nat → Bool → Nat × Nat)
    (hg : ∀ q first, p < q → Pl.ist S.d S.n q → (q < (g q first).1 ∧ (g q first).1 ≤ S.n) ∧ ItemDoes F S 36 q first (g q first))
    (B : Nat) (L : Lim) (e lvl nm : Int) (b1 b2 b3 : Nat) (w : World) (hF : F.answers w.tape) (h : St w B S L p e) (hX : Box w B b1 b2 b3 lvl nm) (he : 0 ≤ e)
    (hE : e + ((Pl.lp S.d S.n g (p + 1) true).2 : Int) ≤ 1000000000) (hl : lvl ≤ 9223372036854775807) (hm : nm ≤ 9223372036854775807) :
    Calls Tryf.prog 34 #[.pointer (some ⟨B, 0, none⟩), .int .i64 lvl, .int .i64 nm, .func (.func 36) #[] #[.pointer (some ⟨b1, 0, none⟩), .pointer (some ⟨b2, 0, none⟩), .pointer (some ⟨b3, 0, none⟩)]] w (Res B S L e (Pl.lp S.d S.n g (p + 1) true) w) := by
  have H : Hid (St w B S L p e) := h
  have HFa : Hid (F.answers w.tape) := hF
  have HX : Hid (Box w B b1 b2 b3 lvl nm) := hX
  have HG : Hid (∀ q first, p < q → Pl.ist S.d S.n q → (q < (g q first).1 ∧ (g q first).1 ≤ S.n) ∧ ItemDoes F S 36 q first (g q first)) := hg
  obtain ⟨R, hR⟩ : ∃ R, Pl.lp S.d S.n g (p + 1) true = R := ⟨_, rfl⟩
  rw [hR] at hE ⊢
  have HR : Hid (Pl.lp S.d S.n g (p + 1) true = R) := hR
  have HL : Hid (e + (R.2 : Int) ≤ 1000000000 ∧ lvl ≤ 9223372036854775807 ∧ nm ≤ 9223372036854775807) := ⟨hE, hl, hm⟩
  clear h hF hX hg hR hl hm hE
  go_enter Tryf.func34, Tryf.ntmps34
  go_wp2_with fail
  refine (check_st F B S L p e lvl nm 0 _ HFa.out hn (by omega) (by omega) he (by have := HL.out.1; omega) (by decide) H.out).mono ?_
  rintro en w2 ⟨hf2, ⟨rfl, hen, hs2⟩ | ⟨⟨v, rfl⟩, herr⟩⟩
  · have HS2 : Hid (St w2 B S L p (e + ((0 : Nat) : Int))) := hs2
    have HF2 : Hid (Fr B w w2) := hf2
    have HN2 : Hid (e + ((0 : Nat) : Int) ≤ L.en) := hen
    clear hs2 hf2 hen
    have c1 := HS2.out.c1
    have f1 := HS2.out.free 1
    have z0 : (p : Int) ≤ 65536 := by omega
    go_wp2_with fail
    go_loopw [10] (fun v10 wr => ItRel B S L e g p R w v10 wr) (fun v10 wr => S.n - posOf wr B)
    case atStart => exact ⟨p + 1, 0, true, by omega, by omega, rfl, HS2.out.setPos (p + 1), ⟨by rw [HR.out]; rfl, Nat.zero_le _⟩, fun _ => HN2.out, HF2.out.set _ _⟩
    case round =>
      obtain ⟨j, c, first, hpj, hj, rfl, HS, HE, HN, HF⟩ := hrel
      clear c1 f1
      have hb := Pl.skb_bd S.d S.n true j hj
      go_wp2_with fail
      refine (skipBlank_st true B S L j _ _ hn hj HS.out).mono ?_
      rintro en w3 ⟨rfl, hs3, hf3⟩
      generalize hs : Pl.skb S.d S.n true j = s at hs3 hb
      have HSs : Hid (Pl.skb S.d S.n true j = s) := hs
      clear hs
      have HS3 : Hid (St w3 B S L s (e + (c : Int))) := hs3
      have HF3 : Hid (Fr B w w3) := HF.out.trans hf3
      clear hs3 hf3
      have c1 := HS3.out.c1
      have c0 := HS3.out.c0
      have f1 := HS3.out.free 1
      by_cases hlt : s < S.n
      case neg =>
        have HK : Hid (s = R.1 ∧ c = R.2) := by
          have h1 := HE.out.1
          rw [Pl.lp_end S.d S.n g j first (by rw [HSs.out]; exact hlt), HSs.out] at h1
          have h2 := congrArg Prod.fst h1
          have h3 := congrArg Prod.snd h1
          have h4 := HE.out.2
          dsimp only at h2 h3
          exact ⟨h2, by omega⟩
        have z3 : ((s : Int) == (S.n : Int)) = true := beq_iff_eq.2 (by omega)
        go_wp2_with fail
        go_quiet (fail)
        go_wp2_with fail
        go_ret
        refine ⟨HF3.out.drewN _, .inl ⟨rfl, ?_, ?_⟩⟩
        · rw [← HK.out.2]; exact HN.out
        · rw [← HK.out.1, ← HK.out.2]; exact HS3.out.drewN _
      have cx := HS3.out.dat s hlt
      rw [HS3.out.adr (by omega)] at c0
      have z0 : (0 : Int) ≤ (s : Int) := by omega
      have z1 : (s : Int) < (S.n : Int) := by omega
      have z3 : ((s : Int) == (S.n : Int)) = false := beq_eq_false_iff_ne.2 (by omega)
      have HLt : Hid (Pl.skb S.d S.n true j < S.n) := by rw [HSs.out]; exact hlt
      by_cases hcl : S.d s = 93 ∨ S.d s = 125
      · have HK : Hid (s + 1 = R.1 ∧ c = R.2) := by
          have h1 := HE.out.1
          rw [Pl.lp_close S.d S.n g j first hj HLt.out (by rw [HSs.out]; exact hcl), HSs.out] at h1
          have h2 := congrArg Prod.fst h1
          have h3 := congrArg Prod.snd h1
          have h4 := HE.out.2
          dsimp only at h2 h3
          exact ⟨h2, by omega⟩
        rcases hcl with hq | hq
        all_goals
          rw [hq] at cx
          clear hq
          go_wp2_with fail
          go_quiet (fail)
          go_wp2_with fail
          go_quiet (fail)
          go_wp2_with fail
          go_ret
          refine ⟨(HF3.out.drewN _).set _ _, .inl ⟨rfl, ?_, ?_⟩⟩
          · rw [← HK.out.2]; exact HN.out
          · rw [← HK.out.1, ← HK.out.2]; exact (HS3.out.drewN _).setPos (s + 1)
      · have b93 : (S.d s == 93) = false := beq_eq_false_iff_ne.2 (by omega)
        have b125 : (S.d s == 125) = false := beq_eq_false_iff_ne.2 (by omega)
        have HC : Hid (¬ (S.d s = 93 ∨ S.d s = 125)) := hcl
        clear hcl
        by_cases hq : S.d s = 44
        · have HK : Hid (Pl.lp S.d S.n g (s + 1) true = (R.1, R.2 - c) ∧ c ≤ R.2) := by
            have h1 := HE.out.1
            rw [Pl.lp_comma S.d S.n g j first hj HLt.out (by rw [HSs.out]; exact HC.out) (by rw [HSs.out]; exact hq), HSs.out] at h1
            exact ⟨h1, HE.out.2⟩
          rw [hq] at cx
          clear hq b93 b125
          go_wp2_with fail
          go_quiet (fail)
          go_wp2_with fail
          go_quiet (fail)
          go_wp2_with fail
          go_roundw
          case rel => exact ⟨s + 1, c, true, by omega, by omega, rfl, (HS3.out.drewN _).setPos (s + 1), HK, HN, (HF3.out.drewN _).set _ _⟩
          case measure => exact pos_less HS.out ((HS3.out.drewN _).setPos (s + 1)) (by omega) (by omega)
        · have b44 : (S.d s == 44) = false := beq_eq_false_iff_ne.2 hq
          have HI := HG.out s first (by omega) (by have := Pl.ist_at S.d S.n j hj HLt.out (by rw [HSs.out]; exact HC.out) (by rw [HSs.out]; exact hq); rw [HSs.out] at this; exact this)
          have HK : Hid (Pl.lp S.d S.n g (g s first).1 false = (R.1, R.2 - (c + (g s first).2)) ∧ c + (g s first).2 ≤ R.2) := by
            have h1 := HE.out.1
            rw [Pl.lp_item S.d S.n g j first hj HLt.out (by rw [HSs.out]; exact HC.out) (by rw [HSs.out]; exact hq) (by rw [HSs.out]; exact HI.1.1), HSs.out] at h1
            have h2 := congrArg Prod.fst h1
            have h3 := congrArg Prod.snd h1
            have h4 := HE.out.2
            dsimp only at h2 h3
            exact ⟨Prod.ext h2 (by show _ = R.2 - (c + (g s first).2); omega), by omega⟩
          have HID : Hid (ItemDoes F S 36 s first (g s first)) := HI.2
          have hg1 := HI.1
          clear HI hq
          go_wp2_with fail
          go_quiet (fail)
          go_wp2_with fail
          go_quiet (fail)
          go_wp2_with fail
          refine (HID.out B L (e + (c : Int)) lvl nm b1 b2 b3 _ (tape_fr (HF3.out.drewN _) HFa.out) (HS3.out.drewN _) (HX.out.fr (HF3.out.drewN _)) (by omega) (by have h1 := HL.out.1; have h2 := HK.out.2; omega) HL.out.2.1 HL.out.2.2).mono ?_
          rintro en w4 ⟨hf4, ⟨rfl, hen, hs4⟩ | ⟨⟨v, rfl⟩, herr⟩⟩
          · have hec : e + (c : Int) + ((g s first).2 : Int) = e + ((c + (g s first).2 : Nat) : Int) := by omega
            rw [hec] at hs4 hen
            have HS4 : Hid (St w4 B S L (g s first).1 (e + ((c + (g s first).2 : Nat) : Int))) := hs4
            have HN4 : Hid (e ≤ L.en → e + ((c + (g s first).2 : Nat) : Int) ≤ L.en) := fun h5 => hen (HN.out h5)
            have HF4 : Hid (Fr B w w4) := (HF3.out.drewN _).trans hf4
            clear hs4 hen hf4 hec
            go_wp2_with fail
            go_roundw
            case rel => exact ⟨(g s first).1, c + (g s first).2, false, by omega, hg1.2, rfl, HS4, HK, HN4, HF4⟩
            case measure => exact pos_less HS.out HS4.out (by omega) (by omega)
          · have HF4 : Hid (Fr B w w4) := (HF3.out.drewN _).trans hf4
            have HX4 : Hid (Top L → L.en < e + (c : Int) + ((g s first).2 : Int)) := herr
            clear herr hf4
            go_wp2_with fail
            go_ret
            refine ⟨HF4.out, .inr ⟨⟨_, rfl⟩, fun t => ?_⟩⟩
            have h1 := HX4.out t
            have h2 := HK.out.2
            omega
  · have HE2 : Hid (L.lv < lvl ∨ L.nm < nm ∨ L.en < e + ((0 : Nat) : Int)) := herr
    have HF2 : Hid (Fr B w w2) := hf2
    clear herr hf2
    go_wp2_with fail
    go_ret
    refine ⟨HF2.out, .inr ⟨⟨_, rfl⟩, fun t => ?_⟩⟩
    have := top_le HE2.out HL.out.2.1 HL.out.2.2 t
    omega
end Go.Proofs.Qxb6604368aFmt
