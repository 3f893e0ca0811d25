/-
  SHARED WALKS: strings.IndexByte at the delimiters, ValueEnd.
-/
import Derived.Test.Qxb6603727aStr
import Derived.Test.Qxb6603727aPlain2
namespace Go.Proofs.Qxb6603727a
open Go.RowKit
set_option linter.unusedVariables false

/-! ### strings.IndexByte -/
theorem del_first (x r : Int) (h : First (fun i => ([44, 125, 93, 32, 9, 10, 13] : List Int).getD i 0) 7 x r) : (Pl.del x = true ∧ 0 ≤ r) ∨ (Pl.del x = false ∧ r = -1) := by
  rcases h with ⟨h1, h2⟩ | ⟨m, h1, h2, h3, h4⟩
  · right
    refine ⟨?_, h1⟩
    have e0 := h2 0 (by omega); have e1 := h2 1 (by omega); have e2 := h2 2 (by omega); have e3 := h2 3 (by omega)
    have e4 := h2 4 (by omega); have e5 := h2 5 (by omega); have e6 := h2 6 (by omega)
    simp at e0 e1 e2 e3 e4 e5 e6
    simp [Pl.del]
    omega
  · left
    refine ⟨?_, by omega⟩
    subst h3
    match m, h2 with
    | 0, _ => rfl
    | 1, _ => rfl
    | 2, _ => rfl
    | 3, _ => rfl
    | 4, _ => rfl
    | 5, _ => rfl
    | 6, _ => rfl

/-- strings.IndexByte of the delimiters. -/
theorem delims (x : Int) (w : World) (hx : 0 ≤ x ∧ x ≤ 255) :
    Calls Try.prog 29 #[.string ⟨#[44, 125, 93, 32, 9, 10, 13]⟩, .int .u8 x] w fun e w' => (∃ r : Int, e = .returned (.int .i64 r) ∧ ((Pl.del x = true ∧ 0 ≤ r) ∨ (Pl.del x = false ∧ r = -1))) ∧ w' = w := by
  have hf := first_of [44, 125, 93, 32, 9, 10, 13] x hx (fun z hz => by simp at hz; omega)
  have hb : Lib.bytesOf [44, 125, 93, 32, 9, 10, 13] = [44, 125, 93, 32, 9, 10, 13] := by decide
  rw [hb] at hf
  have hd := del_first x _ hf
  have hrun := Lib.run_indexByteString (P := Try.prog) ⟨#[44, 125, 93, 32, 9, 10, 13]⟩ x w
  have hl : (ByteArray.mk #[44, 125, 93, 32, 9, 10, 13]).data.toList = [44, 125, 93, 32, 9, 10, 13] := rfl
  rw [hl] at hrun
  generalize Lib.indexByte [44, 125, 93, 32, 9, 10, 13] x.toNat.toUInt8 = r at hd hrun
  have HD : Hid ((Pl.del x = true ∧ 0 ≤ r) ∨ (Pl.del x = false ∧ r = -1)) := hd
  clear hf hb hd hl hx
  go_enter Try.func29, Try.ntmps29
  go_wp2
  rw [run_callFunc_extern Try.func41 (by kernel_rfl) (by kernel_rfl) (by kernel_rfl) (e := Extern.BytealgIndexByte.indexByte) (by kernel_rfl), hrun]
  simp only [Result.andThen]
  rw [Oper.upon_value]
  go_wp2
  go_ret
  exact ⟨⟨r, rfl, HD.out⟩, rfl⟩

/-! ### ValueEnd -/
theorem valueEnd_end (a : Option Addr) (n c : Nat) (w : World) : Calls Try.prog 17 #[.slice a n c, .int .i64 n] w fun e w' => e = .returned (.int .i64 n) ∧ w' = w := by
  have hb : ((n : Int) == (n : Int)) = true := beq_iff_eq.2 rfl
  go_enter Try.func17, Try.ntmps17
  go_wp2
  go_ret
  exact ⟨rfl, rfl⟩

theorem valueEnd_str (b o n c : Nat) (d : Nat → Int) (i : Nat) (w : World) (hn : n ≤ 1048576) (hcap : n ≤ c) (hcm : c ≤ 1048576) (hi : i < n)
    (hc : ∀ j, j < n → w.cell? ⟨b, o + j, none⟩ = some (.int .u8 (d j))) (hd : ∀ j, j < n → 0 ≤ d j ∧ d j ≤ 255) (h34 : d i = 34) :
    Calls Try.prog 17 #[.slice (some ⟨b, o, none⟩) n c, .int .i64 i] w fun e w' => e = .returned (.int .i64 (Pl.scan d n (i + 1) : Nat)) ∧ w' = w := by
  have H : Hid (Calls Try.prog 23 #[.slice (some ⟨b, o, none⟩) n c, .int .i64 i] w fun e w' => e = .returned (.int .i64 (Pl.scan d n (i + 1) : Nat)) ∧ w' = w) := stringEnd_row b o n c d i w (by omega) hcap (by omega) hi hc hd
  have hcx := hc i hi
  rw [h34] at hcx
  have hne : ((i : Int) == (n : Int)) = false := beq_eq_false_iff_ne.2 (by omega)
  clear hc hd h34
  go_enter Try.func17, Try.ntmps17
  go_wp2_with fail
  refine H.out.mono ?_
  rintro e w' ⟨rfl, rfl⟩
  clear H
  go_wp2
  go_ret
  exact ⟨rfl, rfl⟩

set_option maxHeartbeats 4000000 in
theorem valueEnd_brk (b o n c : Nat) (d : Nat → Int) (i : Nat) (w : World) (hn : n ≤ 1048576) (hcap : n ≤ c) (hcm : c ≤ 1048576) (hi : i < n)
    (hc : ∀ j, j < n → w.cell? ⟨b, o + j, none⟩ = some (.int .u8 (d j))) (hd : ∀ j, j < n → 0 ≤ d j ∧ d j ≤ 255) (h34 : d i = 123 ∨ d i = 91) :
    Calls Try.prog 17 #[.slice (some ⟨b, o, none⟩) n c, .int .i64 i] w fun e w' => e = .returned (.int .i64 (Pl.brk d n i 0 : Nat)) ∧ w' = w := by
  have HC : Hid (∀ j, j < n → w.cell? ⟨b, o + j, none⟩ = some (.int .u8 (d j))) := hc
  have HD : Hid (∀ j, j < n → 0 ≤ d j ∧ d j ≤ 255) := hd
  have hcx := hc i hi
  have hne : ((i : Int) == (n : Int)) = false := beq_eq_false_iff_ne.2 (by omega)
  clear hc hd
  have e34 : (d i == 34) = false := beq_eq_false_iff_ne.2 (by omega)
  have H34 : Hid (d i = 123 ∨ d i = 91) := h34
  clear h34
  go_enter Try.func17, Try.ntmps17
  rcases H34.out with h | h
  all_goals
    rw [h] at hcx e34
    clear h e34 H34
    go_wp2_with fail
    clear hcx hne
    go_loop [1, 5] (fun v dp => ∃ (k : Nat) (dep : Int), k ≤ n ∧ v = .int .i64 k ∧ dp = .int .i64 dep ∧ -(k : Int) ≤ dep ∧ dep ≤ k ∧ Pl.brk d n k dep = Pl.brk d n i 0) (fun v _ => n - (intOf v).toNat)
    case atStart => exact ⟨i, 0, by omega, rfl, rfl, by omega, by omega, rfl⟩
    case round =>
      obtain ⟨k, dep, hk, rfl, rfl, hlo, hup, hs⟩ := hrel
      have HS : Hid (Pl.brk d n k dep = Pl.brk d n i 0) := hs
      clear hs
      by_cases hlt : k < n
      · have hcx := HC.out k hlt
        by_cases e1 : d k = 34
        · rw [e1] at hcx
          have HN : Hid (Pl.brk d n (Pl.scan d n (k + 1)) dep = Pl.brk d n i 0) := (Pl.brk_str d n k dep hlt e1).symm.trans HS.out
          have hp := Pl.scan_past d n k hlt
          have hl := Pl.scan_le d n (k + 1)
          have H23 : Hid (Calls Try.prog 23 #[.slice (some ⟨b, o, none⟩) n c, .int .i64 k] w fun e w' => e = .returned (.int .i64 (Pl.scan d n (k + 1) : Nat)) ∧ w' = w) := stringEnd_row b o n c d k w (by omega) hcap (by omega) hlt HC.out HD.out
          obtain ⟨r, hr⟩ : ∃ r, r = Pl.scan d n (k + 1) := ⟨_, rfl⟩
          rw [← hr] at HN hp hl H23
          clear hr e1 HS
          go_wp2_with fail
          refine H23.out.mono ?_
          rintro e w' ⟨rfl, rfl⟩
          clear H23 hcx
          go_wp2
          go_round
          case rel => exact ⟨r, dep, hl, rfl, rfl, by omega, by omega, HN.out⟩
          case measure => simp [intOf]; omega
        · have b34 : (d k == 34) = false := beq_eq_false_iff_ne.2 e1
          by_cases e2 : d k = 123 ∨ d k = 91
          · have HN : Hid (Pl.brk d n (k + 1) (dep + 1) = Pl.brk d n i 0) := (Pl.brk_in d n k dep hlt e2).symm.trans HS.out
            have E2 : Hid (d k = 123 ∨ d k = 91) := e2
            clear e2 e1 HS
            rcases E2.out with h | h
            all_goals
              rw [h] at hcx b34
              clear h b34 E2
              go_wp2
              go_round
              case rel => exact ⟨k + 1, dep + 1, by omega, by go_num, rfl, by omega, by omega, HN.out⟩
              case measure => simp [intOf]; omega
          · have b123 : (d k == 123) = false := beq_eq_false_iff_ne.2 (by omega)
            have b91 : (d k == 91) = false := beq_eq_false_iff_ne.2 (by omega)
            by_cases e3 : d k = 125 ∨ d k = 93
            · by_cases e4 : dep = 1
              · have HN : Hid (k + 1 = Pl.brk d n i 0) := (Pl.brk_last d n k dep hlt e3 e4).symm.trans HS.out
                subst e4
                have E2 : Hid (d k = 125 ∨ d k = 93) := e3
                clear e3 e2 e1 HS
                rcases E2.out with h | h
                all_goals
                  rw [h] at hcx
                  rw [h] at b34
                  clear b34 b123 b91 h E2
                  go_wp2
                  go_ret
                  exact ⟨ret_int (by rw [← HN.out]; simp), rfl⟩
              · have HN : Hid (Pl.brk d n (k + 1) (dep - 1) = Pl.brk d n i 0) := (Pl.brk_out d n k dep hlt e3 e4).symm.trans HS.out
                have hd0 : (dep - 1 == 0) = false := beq_eq_false_iff_ne.2 (by omega)
                have E2 : Hid (d k = 125 ∨ d k = 93) := e3
                have E4 : Hid (¬ dep = 1) := e4
                clear e3 e2 e1 HS e4
                rcases E2.out with h | h
                all_goals
                  rw [h] at hcx
                  rw [h] at b34
                  clear b34 b123 b91 h E2
                  go_wp2
                  go_round
                  case rel => exact ⟨k + 1, dep - 1, by omega, by go_num, rfl, by omega, by omega, HN.out⟩
                  case measure => simp [intOf]; omega
            · have b125 : (d k == 125) = false := beq_eq_false_iff_ne.2 (by omega)
              have b93 : (d k == 93) = false := beq_eq_false_iff_ne.2 (by omega)
              have HN : Hid (Pl.brk d n (k + 1) dep = Pl.brk d n i 0) := (Pl.brk_oth d n k dep hlt e1 e2 e3).symm.trans HS.out
              clear e1 e2 e3 HS
              go_wp2
              go_round
              case rel => exact ⟨k + 1, dep, by omega, by go_num, rfl, by omega, by omega, HN.out⟩
              case measure => simp [intOf]; omega
      · have HN : Hid (k = Pl.brk d n i 0) := by rw [← HS.out, Pl.brk_ge d n k dep hlt]; show k = n; omega
        clear HS
        go_wp2
        go_ret
        exact ⟨ret_nat HN.out, rfl⟩

set_option maxHeartbeats 1000000 in
theorem valueEnd_lit (b o n c : Nat) (d : Nat → Int) (i : Nat) (w : World) (hn : n ≤ 1048576) (hcap : n ≤ c) (hcm : c ≤ 1048576) (hi : i < n)
    (hc : ∀ j, j < n → w.cell? ⟨b, o + j, none⟩ = some (.int .u8 (d j))) (hd : ∀ j, j < n → 0 ≤ d j ∧ d j ≤ 255) (h34 : d i ≠ 34) (h123 : ¬ (d i = 123 ∨ d i = 91)) :
    Calls Try.prog 17 #[.slice (some ⟨b, o, none⟩) n c, .int .i64 i] w fun e w' => e = .returned (.int .i64 (Pl.lit d n i : Nat)) ∧ w' = w := by
  have HC : Hid (∀ j, j < n → w.cell? ⟨b, o + j, none⟩ = some (.int .u8 (d j))) := hc
  have HD : Hid (∀ j, j < n → 0 ≤ d j ∧ d j ≤ 255) := hd
  have hcx := hc i hi
  have hne : ((i : Int) == (n : Int)) = false := beq_eq_false_iff_ne.2 (by omega)
  have b34 : (d i == 34) = false := beq_eq_false_iff_ne.2 h34
  have b123 : (d i == 123) = false := beq_eq_false_iff_ne.2 (by omega)
  have b91 : (d i == 91) = false := beq_eq_false_iff_ne.2 (by omega)
  clear hc hd h34 h123
  go_enter Try.func17, Try.ntmps17
  go_wp2_with fail
  clear hcx hne b34 b123 b91
  go_loop [1] (fun v => ∃ k : Nat, k ≤ n ∧ v = .int .i64 k ∧ Pl.lit d n k = Pl.lit d n i) (fun v => n - (intOf v).toNat)
  case atStart => exact ⟨i, by omega, rfl, rfl⟩
  case round =>
    obtain ⟨k, hk, rfl, hs⟩ := hrel
    have HS : Hid (Pl.lit d n k = Pl.lit d n i) := hs
    clear hs
    by_cases hlt : k < n
    · have hcx := HC.out k hlt
      go_wp2_with fail
      refine (delims (d k) w (HD.out k hlt)).mono ?_
      rintro e w' ⟨⟨r, rfl, hr⟩, rfl⟩
      rcases hr with ⟨hr, hpos⟩ | ⟨hr, rfl⟩
      · have HN : Hid (k = Pl.lit d n i) := (Pl.lit_stop d n k hlt hr).symm.trans HS.out
        clear hr HS
        go_wp2
        go_ret
        exact ⟨ret_nat HN.out, rfl⟩
      · have HN : Hid (Pl.lit d n (k + 1) = Pl.lit d n i) := (Pl.lit_go d n k hlt hr).symm.trans HS.out
        clear hr HS
        go_wp2
        go_round
        case rel => exact ⟨k + 1, by omega, by go_num, HN.out⟩
        case measure => simp [intOf]; omega
    · have HN : Hid (k = Pl.lit d n i) := by rw [← HS.out, Pl.lit_ge d n k hlt]; show k = n; omega
      clear HS
      go_wp2
      go_ret
      exact ⟨ret_nat HN.out, rfl⟩

/-- ValueEnd, whatever the row. -/
theorem valueEnd_any (a : Option Addr) (n c : Nat) (d : Nat → Int) (i : Nat) (w : World) (hn : n ≤ 1048576) (hcap : n ≤ c) (hcm : c ≤ 1048576) (hi : i ≤ n)
    (hr : Row w a n d) (hd : ∀ j, j < n → 0 ≤ d j ∧ d j ≤ 255) :
    Calls Try.prog 17 #[.slice a n c, .int .i64 i] w fun e w' => e = .returned (.int .i64 (Pl.vend d n i : Nat)) ∧ w' = w := by
  unfold Pl.vend
  by_cases h : i = n
  · subst h
    rw [if_pos rfl]
    exact valueEnd_end a i c w
  · rw [if_neg h]
    have hlt : i < n := by omega
    rcases hr with h0 | ⟨b, o, rfl, hc⟩
    · omega
    by_cases e1 : d i = 34
    · rw [if_pos e1]; exact valueEnd_str b o n c d i w hn hcap hcm hlt hc hd e1
    · rw [if_neg e1]
      by_cases e2 : d i = 123 ∨ d i = 91
      · rw [if_pos e2]; exact valueEnd_brk b o n c d i w hn hcap hcm hlt hc hd e2
      · rw [if_neg e2]; exact valueEnd_lit b o n c d i w hn hcap hcm hlt hc hd e1 e2
end Go.Proofs.Qxb6603727a
