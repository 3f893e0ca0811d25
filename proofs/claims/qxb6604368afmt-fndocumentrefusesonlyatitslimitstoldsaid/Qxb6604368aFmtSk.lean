/-
  WALKS: skipBlank, isTOMLDelimiter, skipScalar.
-/
import Derived.Test.Qxb6604368aFmtSt
namespace Go.Proofs.Qxb6604368aFmt
open Go.RowKit
set_option linter.unusedVariables false

set_option maxHeartbeats 4000000 in
set_option maxRecDepth 100000 in
theorem skipBlank_st (nl : Bool) (B : Nat) (S : Src) (L : Lim) (p : Nat) (e : Int) (w : World) (hn : S.n ≤ 65536) (hp : p ≤ S.n) (h : St w B S L p e) :
    Calls Tryf.prog 14 #[.pointer (some ⟨B, 0, none⟩), .bool nl] w fun en w' => en = .returned (.tuple #[]) ∧ St w' B S L (Pl.skb S.d S.n nl p) e ∧ Fr B w w' := by
  have H : Hid (St w B S L p e) := h
  clear h
  go_enter Tryf.func14, Tryf.ntmps14
  go_wp2_with fail
  go_loopw [24] (fun v wr => ∃ k : Nat, k ≤ S.n ∧ Hid (St wr B S L k e) ∧ Hid (Pl.skb S.d S.n nl k = Pl.skb S.d S.n nl p) ∧ Hid (Fr B w wr)) (fun v wr => S.n - posOf wr B)
  case atStart => exact ⟨p, hp, H, rfl, Fr.refl _ _⟩
  case round =>
    obtain ⟨k, hk, HS, HE, HF⟩ := hrel
    have c0 := HS.out.c0
    have c1 := HS.out.c1
    have f1 := HS.out.free 1
    by_cases hlt : k < S.n
    case neg =>
      have HN : Hid (k = Pl.skb S.d S.n nl p) := (Pl.skb_ge S.d S.n nl k hlt).symm.trans HE.out
      go_wp2_with fail
      go_quiet (fail)
      go_wp2_with fail
      go_end0
      exact ⟨rfl, by rw [← HN.out]; exact HS.out.drewN _, HF.out.drewN _⟩
    have cx := HS.out.dat k hlt
    rw [HS.out.adr (by omega)] at c0
    have z0 : (0 : Int) ≤ (k : Int) := by omega
    have z1 : (k : Int) < (S.n : Int) := by omega
    by_cases h32 : S.d k = 32 ∨ S.d k = 9
    · have HN : Hid (Pl.skb S.d S.n nl (k + 1) = Pl.skb S.d S.n nl p) := (Pl.skb_sp S.d S.n nl k hlt h32).symm.trans HE.out
      have HD : Hid (S.d k = 32 ∨ S.d k = 9) := h32
      clear h32
      rcases HD.out with h | h
      all_goals
        rw [h] at cx
        clear h HD
        go_wp2_with fail
        go_quiet (fail)
        go_wp2_with fail
        go_quiet (fail)
        go_wp2_with fail
        go_roundw
        case rel => exact ⟨k + 1, by omega, (HS.out.drewN _).setPos (k + 1), HN, (HF.out.drewN _).set _ _⟩
        case measure => exact pos_less HS.out ((HS.out.drewN _).setPos (k + 1)) (by omega) hlt
    have b32 : (S.d k == 32) = false := beq_eq_false_iff_ne.2 (by omega)
    have b9 : (S.d k == 9) = false := beq_eq_false_iff_ne.2 (by omega)
    cases nl
    case false =>
      have HN : Hid (k = Pl.skb S.d S.n false p) := (Pl.skb_no S.d S.n k hlt h32).symm.trans HE.out
      clear h32
      by_cases h10 : S.d k = 10 ∨ S.d k = 13 ∨ S.d k = 35
      · have HD : Hid (S.d k = 10 ∨ S.d k = 13 ∨ S.d k = 35) := h10
        clear h10
        rcases HD.out with h | h | h
        all_goals
          rw [h] at cx
          clear h HD b32 b9
          go_wp2_with fail
          go_quiet (fail)
          go_wp2_with fail
          go_quiet (fail)
          go_wp2_with fail
          refine bodyPost_ret (results_none Tryf.results14 _ _ _) rfl ?_
          exact ⟨rfl, by rw [← HN.out]; exact HS.out.drewN _, HF.out.drewN _⟩
      · have b10 : (S.d k == 10) = false := beq_eq_false_iff_ne.2 (by omega)
        have b13 : (S.d k == 13) = false := beq_eq_false_iff_ne.2 (by omega)
        have b35 : (S.d k == 35) = false := beq_eq_false_iff_ne.2 (by omega)
        clear h10
        go_wp2_with fail
        go_quiet (fail)
        go_wp2_with fail
        go_quiet (fail)
        go_wp2_with fail
        refine bodyPost_ret (results_none Tryf.results14 _ _ _) rfl ?_
        exact ⟨rfl, by rw [← HN.out]; exact HS.out.drewN _, HF.out.drewN _⟩
    case true =>
      by_cases h10 : S.d k = 10 ∨ S.d k = 13
      · have HN : Hid (Pl.skb S.d S.n true (k + 1) = Pl.skb S.d S.n true p) := (Pl.skb_nl S.d S.n k hlt h10).symm.trans HE.out
        have HD : Hid (S.d k = 10 ∨ S.d k = 13) := h10
        clear h32 h10
        rcases HD.out with h | h
        all_goals
          rw [h] at cx
          clear h HD b32 b9
          go_wp2_with fail
          go_quiet (fail)
          go_wp2_with fail
          go_quiet (fail)
          go_wp2_with fail
          go_roundw
          case rel => exact ⟨k + 1, by omega, (HS.out.drewN _).setPos (k + 1), HN, (HF.out.drewN _).set _ _⟩
          case measure => exact pos_less HS.out ((HS.out.drewN _).setPos (k + 1)) (by omega) hlt
      have b10 : (S.d k == 10) = false := beq_eq_false_iff_ne.2 (by omega)
      have b13 : (S.d k == 13) = false := beq_eq_false_iff_ne.2 (by omega)
      by_cases h35 : S.d k = 35
      · have HN : Hid (Pl.skb S.d S.n true (Pl.skl S.d S.n k) = Pl.skb S.d S.n true p) := (Pl.skb_cm S.d S.n k hlt h35).symm.trans HE.out
        have hl1 := Pl.skl_lt S.d S.n k hlt
        have hl2 := (Pl.skl_bd S.d S.n k hk).2
        rw [h35] at cx
        clear h35 h32 h10 b32 b9 b10 b13
        go_wp2_with fail
        go_quiet (fail)
        go_wp2_with fail
        go_quiet (fail)
        go_wp2_with fail
        refine (skipLine_st B S L k e _ hn hk (HS.out.drewN _)).mono ?_
        rintro en w2 ⟨rfl, hs2, hf2⟩
        have HS2 : Hid (St w2 B S L (Pl.skl S.d S.n k) e) := hs2
        have HF2 : Hid (Fr B w w2) := (HF.out.drewN _).trans hf2
        clear hs2 hf2 c0 c1 f1 cx
        go_wp2_with fail
        go_roundw
        case rel => exact ⟨_, hl2, HS2, HN, HF2⟩
        case measure => exact pos_less HS.out HS2.out hl1 hlt
      · have HN : Hid (k = Pl.skb S.d S.n true p) := (Pl.skb_ot S.d S.n k hlt h32 h10 h35).symm.trans HE.out
        have b35 : (S.d k == 35) = false := beq_eq_false_iff_ne.2 h35
        clear h32 h10 h35
        go_wp2_with fail
        go_quiet (fail)
        go_wp2_with fail
        go_quiet (fail)
        go_wp2_with fail
        refine bodyPost_ret (results_none Tryf.results14 _ _ _) rfl ?_
        exact ⟨rfl, by rw [← HN.out]; exact HS.out.drewN _, HF.out.drewN _⟩

/-- isTOMLDelimiter. -/
theorem delim_any (x : Int) (w : World) : Calls Tryf.prog 25 #[.int .u8 x] w fun e w' => e = .returned (.bool (Pl.del x)) ∧ w' = w := by
  go_enter Tryf.func25, Tryf.ntmps25
  go_wp2
  all_goals
    go_ret
    exact ⟨by simp [Pl.del, *], rfl⟩

set_option maxHeartbeats 4000000 in
set_option maxRecDepth 100000 in
theorem skipScalar_st (B : Nat) (S : Src) (L : Lim) (p : Nat) (e : Int) (w : World) (hn : S.n ≤ 65536) (hp : p ≤ S.n) (h : St w B S L p e) :
    Calls Tryf.prog 30 #[.pointer (some ⟨B, 0, none⟩)] w fun en w' => en = .returned (.tuple #[]) ∧ St w' B S L (Pl.skc S.d S.n p) e ∧ Fr B w w' := by
  have H : Hid (St w B S L p e) := h
  clear h
  go_enter Tryf.func30, Tryf.ntmps30
  go_wp2_with fail
  go_loopw [25] (fun v wr => ∃ k : Nat, k ≤ S.n ∧ Hid (St wr B S L k e) ∧ Hid (Pl.skc S.d S.n k = Pl.skc S.d S.n p) ∧ Hid (Fr B w wr)) (fun v wr => S.n - posOf wr B)
  case atStart => exact ⟨p, hp, H, rfl, Fr.refl _ _⟩
  case round =>
    obtain ⟨k, hk, HS, HE, HF⟩ := hrel
    have c0 := HS.out.c0
    have c1 := HS.out.c1
    have f1 := HS.out.free 1
    by_cases hlt : k < S.n
    case neg =>
      have HN : Hid (k = Pl.skc S.d S.n p) := (Pl.skc_ge S.d S.n k hlt).symm.trans HE.out
      have z1 : decide ((k : Int) < (S.n : Int)) = false := decide_eq_false (by omega)
      go_wp2_with fail
      go_quiet (fail)
      go_wp2_with fail
      go_end0
      exact ⟨rfl, by rw [← HN.out]; exact HS.out.drewN _, HF.out.drewN _⟩
    have cx := HS.out.dat k hlt
    rw [HS.out.adr (by omega)] at c0
    have z0 : (0 : Int) ≤ (k : Int) := by omega
    have z1 : (k : Int) < (S.n : Int) := by omega
    have z2 : decide ((k : Int) < (S.n : Int)) = true := decide_eq_true z1
    cases hd : Pl.del (S.d k)
    · have HN : Hid (Pl.skc S.d S.n (k + 1) = Pl.skc S.d S.n p) := (Pl.skc_go S.d S.n k hlt hd).symm.trans HE.out
      go_wp2_with fail
      go_quiet ((go_at_call 25; exact Calls.quiet_of_same (delim_any _ _)))
      go_wp2_with fail
      go_roundw
      case rel => exact ⟨k + 1, by omega, (HS.out.drewN _).setPos (k + 1), HN, (HF.out.drewN _).set _ _⟩
      case measure => exact pos_less HS.out ((HS.out.drewN _).setPos (k + 1)) (by omega) hlt
    · have HN : Hid (k = Pl.skc S.d S.n p) := (Pl.skc_st S.d S.n k hlt hd).symm.trans HE.out
      go_wp2_with fail
      go_quiet ((go_at_call 25; exact Calls.quiet_of_same (delim_any _ _)))
      go_wp2_with fail
      go_end0
      exact ⟨rfl, by rw [← HN.out]; exact HS.out.drewN _, HF.out.drewN _⟩
end Go.Proofs.Qxb6604368aFmt
