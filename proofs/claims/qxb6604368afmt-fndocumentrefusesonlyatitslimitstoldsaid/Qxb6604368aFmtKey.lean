/-
  WALKS: key.
-/
import Derived.Test.Qxb6604368aFmtChk2
import Derived.Test.Qxb6604368aFmtPk
import Derived.Deep.CutRange
namespace Go.Proofs.Qxb6604368aFmt
open Go.RowKit Go.Extern.Stop Go.Stop Go.Extern
set_option linter.unusedVariables false

/-- What key leaves. -/
def KeyPost (B : Nat) (S : Src) (L : Lim) (p : Nat) (e : Int) (w : World) (en : Ending) (w' : World) : Prop :=
  (∃ z : Int, z ≤ 9223372036854775807 ∧ en = .returned (.tuple #[.int .i64 (((Pl.key S.d S.n p).2 : Nat) : Int), .int .i64 z])) ∧ St w' B S L (Pl.key S.d S.n p).1 e ∧ Fr B w w'

/-- The loop of key. -/
def KeyRel (B : Nat) (S : Src) (L : Lim) (p : Nat) (e : Int) (w : World) (v2 v3 : Value) (wr : World) : Prop :=
  ∃ (j c : Nat) (z : Int), j ≤ S.n ∧ v2 = .int .i64 (c : Int) ∧ v3 = .int .i64 z ∧ z ≤ 9223372036854775807 ∧ Hid (St wr B S L j e) ∧ Hid ((Pl.key S.d S.n j).1 = (Pl.key S.d S.n p).1) ∧ Hid (c + (Pl.key S.d S.n j).2 = (Pl.key S.d S.n p).2) ∧ Hid (Fr B w wr)

set_option maxHeartbeats 8000000 in
set_option maxRecDepth 100000 in
theorem key_st (B : Nat) (S : Src) (L : Lim) (p : Nat) (e : Int) (w : World) (hn : S.n ≤ 65536) (hp : p ≤ S.n) (h : St w B S L p e) :
    Calls Tryf.prog 20 #[.pointer (some ⟨B, 0, none⟩)] w (KeyPost B S L p e w) := by
  have H : Hid (St w B S L p e) := h
  clear h
  go_enter Tryf.func20, Tryf.ntmps20
  go_wp2_with fail
  go_loopw [2, 3, 4] (fun v2 v3 v4 wr => KeyRel B S L p e w v2 v3 wr) (fun v2 v3 v4 wr => S.n - posOf wr B)
  case atStart => exact ⟨p, 0, 0, hp, rfl, rfl, by decide, H, rfl, by rw [Nat.zero_add]; exact rfl, Fr.refl _ _⟩
  case round =>
    obtain ⟨j, c, z, hj, rfl, rfl, hz, HS, HE1, HE2, HF⟩ := hrel
    have hcn : c ≤ S.n := by
      have h1 := HE2.out
      have h2 := Pl.key_bd S.d S.n p hp
      omega
    have hb := Pl.key_bds S.d S.n j hj
    go_wp2_with fail
    refine (skipBlank_st false B S L j e _ hn hj HS.out).mono ?_
    rintro en w2 ⟨rfl, hs2, hf2⟩
    generalize hs : Pl.skb S.d S.n false j = s at hs2 hb
    have HSs : Hid (Pl.skb S.d S.n false j = s) := hs
    clear hs
    have HS2 : Hid (St w2 B S L s e) := hs2
    have HF2 : Hid (Fr B w w2) := HF.out.trans hf2
    clear hs2 hf2
    have c1 := HS2.out.c1
    go_upto_region 3 with fail
    go_cut [46] from 5 to 157 (fun v w3 => v = .bool (Pl.quo S.d S.n s) ∧ Hid (St w3 B S L s e) ∧ Hid (Fr B w w3))
    case first =>
      have c0 := HS2.out.c0
      by_cases hlt : s < S.n
      · have cx := HS2.out.dat s hlt
        rw [HS2.out.adr (by omega)] at c0
        have z0 : (0 : Int) ≤ (s : Int) := by omega
        have z1 : (s : Int) < (S.n : Int) := by omega
        have z2 : decide ((s : Int) < (S.n : Int)) = true := decide_eq_true z1
        have hq : Hid (Pl.quo S.d S.n s = (S.d s == 34 || S.d s == 39)) := by
          show Pl.quo S.d S.n s = _
          unfold Pl.quo
          rw [decide_eq_true hlt, Bool.true_and]
        cases b1 : (S.d s == 34)
        · cases b2 : (S.d s == 39)
          · have HQ : Hid (Pl.quo S.d S.n s = false) := by rw [hq.out, b1, b2]; exact rfl
            clear hq
            go_quiet (fail)
            go_wp2_with fail
            go_meet
            case rel => exact ⟨by rw [HQ.out], HS2.out.drewN _, HF2.out.drewN _⟩
          · have HQ : Hid (Pl.quo S.d S.n s = true) := by rw [hq.out, b1, b2]; exact rfl
            clear hq
            go_quiet (fail)
            go_wp2_with fail
            go_meet
            case rel => exact ⟨by rw [HQ.out], HS2.out.drewN _, HF2.out.drewN _⟩
        · have HQ : Hid (Pl.quo S.d S.n s = true) := by rw [hq.out, b1]; exact rfl
          clear hq
          go_quiet (fail)
          go_wp2_with fail
          go_meet
          case rel => exact ⟨by rw [HQ.out], HS2.out.drewN _, HF2.out.drewN _⟩
      · have z2 : decide ((s : Int) < (S.n : Int)) = false := decide_eq_false (by omega)
        have HQ : Hid (Pl.quo S.d S.n s = false) := by
          show Pl.quo S.d S.n s = false
          unfold Pl.quo
          rw [decide_eq_false hlt, Bool.false_and]
        go_quiet (fail)
        go_wp2_with fail
        go_meet
        case rel => exact ⟨by rw [HQ.out], HS2.out.drewN _, HF2.out.drewN _⟩
    case rest =>
      obtain ⟨rfl, HS3, HF3⟩ := hcut
      clear c1 HS2 HF2
      go_upto_if 46 with fail
      go_cut [4] from 5 to 157 (fun v w4 => v = .int .i64 (s : Int) ∧ Hid (St w4 B S L (Pl.kpt S.d S.n s) e) ∧ Hid (Fr B w w4))
      case first =>
        cases hq : Pl.quo S.d S.n s
        · have HK : Hid (Pl.kpt S.d S.n s = Pl.skk S.d S.n s) := by
            show Pl.kpt S.d S.n s = _
            unfold Pl.kpt
            rw [hq]
            rfl
          clear hq
          go_wp2_with fail
          go_loopw [49] (fun v wr2 => ∃ i : Nat, s ≤ i ∧ i ≤ S.n ∧ Hid (St wr2 B S L i e) ∧ Hid (Pl.skk S.d S.n i = Pl.skk S.d S.n s) ∧ Hid (Fr B w wr2)) (fun v wr2 => S.n - posOf wr2 B)
          case atStart => exact ⟨s, Nat.le_refl _, by omega, HS3, rfl, HF3⟩
          case round =>
            obtain ⟨i, hi1, hi2, HSi, HEi, HFi⟩ := hrel
            have c0 := HSi.out.c0
            have c1 := HSi.out.c1
            have f1 := HSi.out.free 1
            by_cases hil : i < S.n
            case neg =>
              have HN : Hid (i = Pl.skk S.d S.n s) := (Pl.skk_ge S.d S.n i hil).symm.trans HEi.out
              have z2 : decide ((i : Int) < (S.n : Int)) = false := decide_eq_false (by omega)
              go_wp2_with fail
              go_quiet (fail)
              go_wp2_with fail
              go_meet
              case rel => exact ⟨rfl, by rw [HK.out, ← HN.out]; exact HSi.out.drewN _, HFi.out.drewN _⟩
            have cx := HSi.out.dat i hil
            rw [HSi.out.adr (by omega)] at c0
            have z0 : (0 : Int) ≤ (i : Int) := by omega
            have z1 : (i : Int) < (S.n : Int) := by omega
            have z2 : decide ((i : Int) < (S.n : Int)) = true := decide_eq_true z1
            cases hd : Pl.del (S.d i)
            case true =>
              have HN : Hid (i = Pl.skk S.d S.n s) := (Pl.skk_st S.d S.n i hil (by unfold Pl.kst; rw [hd]; rfl)).symm.trans HEi.out
              go_wp2_with fail
              go_quiet ((go_at_call 25; exact Calls.quiet_of_same (delim_any _ _)))
              go_wp2_with fail
              go_meet
              case rel => exact ⟨rfl, by rw [HK.out, ← HN.out]; exact HSi.out.drewN _, HFi.out.drewN _⟩
            cases b1 : (S.d i == 46)
            case true =>
              have HN : Hid (i = Pl.skk S.d S.n s) := (Pl.skk_st S.d S.n i hil (by unfold Pl.kst; rw [hd, b1]; rfl)).symm.trans HEi.out
              have b1' : (S.d i != 46) = false := by rw [bne, b1]; rfl
              go_wp2_with fail
              go_quiet ((go_at_call 25; exact Calls.quiet_of_same (delim_any _ _)))
              go_wp2_with fail
              go_meet
              case rel => exact ⟨rfl, by rw [HK.out, ← HN.out]; exact HSi.out.drewN _, HFi.out.drewN _⟩
            cases b2 : (S.d i == 61)
            case true =>
              have HN : Hid (i = Pl.skk S.d S.n s) := (Pl.skk_st S.d S.n i hil (by unfold Pl.kst; rw [hd, b1, b2]; rfl)).symm.trans HEi.out
              have b1' : (S.d i != 46) = true := by rw [bne, b1]; rfl
              have b2' : (S.d i != 61) = false := by rw [bne, b2]; rfl
              go_wp2_with fail
              go_quiet ((go_at_call 25; exact Calls.quiet_of_same (delim_any _ _)))
              go_wp2_with fail
              go_meet
              case rel => exact ⟨rfl, by rw [HK.out, ← HN.out]; exact HSi.out.drewN _, HFi.out.drewN _⟩
            have HN : Hid (Pl.skk S.d S.n (i + 1) = Pl.skk S.d S.n s) := (Pl.skk_go S.d S.n i hil (by unfold Pl.kst; rw [hd, b1, b2]; rfl)).symm.trans HEi.out
            have b1' : (S.d i != 46) = true := by rw [bne, b1]; rfl
            have b2' : (S.d i != 61) = true := by rw [bne, b2]; rfl
            go_wp2_with fail
            go_quiet ((go_at_call 25; exact Calls.quiet_of_same (delim_any _ _)))
            go_wp2_with fail
            go_roundw
            case rel => exact ⟨i + 1, by omega, by omega, (HSi.out.drewN _).setPos (i + 1), HN, (HFi.out.drewN _).set _ _⟩
            case measure => exact pos_less HSi.out ((HSi.out.drewN _).setPos (i + 1)) (by omega) hil
        · have hlt : s < S.n := by
            unfold Pl.quo at hq
            simp at hq
            exact hq.1
          have HK : Hid (Pl.kpt S.d S.n s = Pl.skq S.d S.n (S.d s) 1 (s + 1)) := by
            show Pl.kpt S.d S.n s = _
            unfold Pl.kpt
            rw [hq]
            rfl
          clear hq
          go_wp2_with fail
          refine (skipString_st false B S L s e _ hn hlt HS3.out).mono ?_
          rintro en w4 ⟨rfl, hs4, hf4⟩
          have HS4 : Hid (St w4 B S L (Pl.skq S.d S.n (S.d s) 1 (s + 1)) e) := hs4
          have HF4 : Hid (Fr B w w4) := HF3.out.trans hf4
          clear hs4 hf4
          go_wp2_with fail
          go_meet
          case rel => exact ⟨rfl, by rw [HK.out]; exact HS4, HF4⟩
      case rest =>
        obtain ⟨rfl, HS4, HF4⟩ := hcut
        clear HS3 HF3
        generalize ht : Pl.kpt S.d S.n s = t at HS4 hb
        have HT : Hid (Pl.kpt S.d S.n s = t) := ht
        clear ht
        have c1 := HS4.out.c1
        by_cases hts : t = s
        · have HN : Hid (Pl.key S.d S.n j = (s, 0)) := by
            show Pl.key S.d S.n j = (s, 0)
            have h9 := Pl.key_none S.d S.n j (by rw [HSs.out, HT.out]; exact hts)
            rw [HSs.out] at h9
            exact h9
          have HR : Hid (s = (Pl.key S.d S.n p).1 ∧ c = (Pl.key S.d S.n p).2) := by
            have h1 := HE1.out
            have h2 := HE2.out
            rw [HN.out] at h1 h2
            exact ⟨h1, h2⟩
          have HS5 : Hid (St wc B S L s e) := by rw [← hts]; exact HS4
          have b1 : ((t : Int) == (s : Int)) = true := beq_iff_eq.2 (by omega)
          clear hts
          go_wp2_with fail
          go_ret2
          exact ⟨⟨z, hz, by rw [← HR.out.2]; rfl⟩, by rw [← HR.out.1]; exact HS5, HF4⟩
        · have b1 : ((t : Int) == (s : Int)) = false := beq_eq_false_iff_ne.2 (by omega)
          have HTS : Hid (t ≠ s) := hts
          clear hts
          have y1 : (c : Int) ≤ 65536 := by omega
          go_wp2_with (go_at_call 22; refine (join_any _ _ _).mono ?_; rintro e1 w1 ⟨⟨z2, rfl, hz2⟩, rfl⟩)
          refine (skipBlank_st false B S L t e _ hn (by omega) HS4.out).mono ?_
          rintro en w5 ⟨rfl, hs5, hf5⟩
          generalize hu : Pl.skb S.d S.n false t = u at hs5 hb
          have HU : Hid (Pl.skb S.d S.n false t = u) := hu
          clear hu
          have HS5 : Hid (St w5 B S L u e) := hs5
          have HF5 : Hid (Fr B w w5) := HF4.out.trans hf5
          clear hs5 hf5 c1
          have c1 := HS5.out.c1
          have c0 := HS5.out.c0
          have f1 := HS5.out.free 1
          by_cases hm : u < S.n ∧ S.d u = 46
          · have HN : Hid (Pl.key S.d S.n j = ((Pl.key S.d S.n (u + 1)).1, (Pl.key S.d S.n (u + 1)).2 + 1)) := by
              show Pl.key S.d S.n j = _
              have h9 := Pl.key_more S.d S.n j hj (by rw [HSs.out, HT.out]; exact HTS.out) (by rw [HSs.out, HT.out, HU.out]; exact hm)
              rw [HSs.out, HT.out, HU.out] at h9
              exact h9
            have HR : Hid ((Pl.key S.d S.n (u + 1)).1 = (Pl.key S.d S.n p).1 ∧ (c + 1) + (Pl.key S.d S.n (u + 1)).2 = (Pl.key S.d S.n p).2) := by
              have h1 := HE1.out
              have h2 := HE2.out
              rw [HN.out] at h1 h2
              dsimp only at h1 h2
              exact ⟨h1, by omega⟩
            have hlt : u < S.n := hm.1
            have cx := HS5.out.dat u hlt
            rw [hm.2] at cx
            rw [HS5.out.adr (by omega)] at c0
            have z0 : (0 : Int) ≤ (u : Int) := by omega
            have z1 : (u : Int) < (S.n : Int) := by omega
            have z3 : ((u : Int) == (S.n : Int)) = false := beq_eq_false_iff_ne.2 (by omega)
            clear hm
            go_wp2_with fail
            go_quiet (fail)
            go_wp2_with fail
            go_roundw
            case rel => exact ⟨u + 1, c + 1, z2, by omega, rfl, rfl, hz2, (HS5.out.drewN _).setPos (u + 1), HR.out.1, HR.out.2, (HF5.out.drewN _).set _ _⟩
            case measure => exact pos_less HS.out ((HS5.out.drewN _).setPos (u + 1)) (by omega) (by omega)
          have HN : Hid (Pl.key S.d S.n j = (u, 1)) := by
            show Pl.key S.d S.n j = _
            have h9 := Pl.key_one S.d S.n j (by rw [HSs.out, HT.out]; exact HTS.out) (by rw [HSs.out, HT.out, HU.out]; exact hm)
            rw [HSs.out, HT.out, HU.out] at h9
            exact h9
          have HR : Hid (u = (Pl.key S.d S.n p).1 ∧ c + 1 = (Pl.key S.d S.n p).2) := by
            have h1 := HE1.out
            have h2 := HE2.out
            rw [HN.out] at h1 h2
            exact ⟨h1, h2⟩
          by_cases hlt : u < S.n
          · have hne : S.d u ≠ 46 := fun h => hm ⟨hlt, h⟩
            have b2 : (S.d u != 46) = true := by rw [bne, beq_eq_false_iff_ne.2 hne]; rfl
            have cx := HS5.out.dat u hlt
            rw [HS5.out.adr (by omega)] at c0
            have z0 : (0 : Int) ≤ (u : Int) := by omega
            have z1 : (u : Int) < (S.n : Int) := by omega
            have z3 : ((u : Int) == (S.n : Int)) = false := beq_eq_false_iff_ne.2 (by omega)
            clear hm hne
            go_wp2_with fail
            go_quiet (fail)
            go_wp2_with fail
            go_ret2
            exact ⟨⟨z2, hz2, by rw [← HR.out.2]; rfl⟩, by rw [← HR.out.1]; exact HS5.out.drewN _, HF5.out.drewN _⟩
          · have z3 : ((u : Int) == (S.n : Int)) = true := beq_iff_eq.2 (by omega)
            clear hm
            go_wp2_with fail
            go_quiet (fail)
            go_wp2_with fail
            go_ret2
            exact ⟨⟨z2, hz2, by rw [← HR.out.2]; rfl⟩, by rw [← HR.out.1]; exact HS5.out.drewN _, HF5.out.drewN _⟩
end Go.Proofs.Qxb6604368aFmt
