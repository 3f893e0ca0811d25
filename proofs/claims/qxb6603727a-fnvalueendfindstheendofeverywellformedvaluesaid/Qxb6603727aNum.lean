/-
  SHARED WALKS: digitsEnd, validNumber, zqFollowsValue.
-/
import Derived.Test.Qxb6603727aVal
import Derived.Test.Qxb6603727aPlain3
import Derived.Deep.CutBlock
namespace Go.Proofs.Qxb6603727a
open Go.RowKit
set_option linter.unusedVariables false

set_option maxHeartbeats 1000000 in
theorem digitsEnd_row (b o n c : Nat) (d : Nat → Int) (i : Nat) (w : World) (hn : n ≤ 1048576) (hi : i ≤ n)
    (hc : ∀ j, j < n → w.cell? ⟨b, o + j, none⟩ = some (.int .u8 (d j))) :
    Calls Try.prog 38 #[.slice (some ⟨b, o, none⟩) n c, .int .i64 i] w fun e w' => e = .returned (.int .i64 (Pl.run d n i : Nat)) ∧ w' = w := by
  have HC : Hid (∀ j, j < n → w.cell? ⟨b, o + j, none⟩ = some (.int .u8 (d j))) := hc
  clear hc
  go_enter Try.func38, Try.ntmps38
  go_wp2_with fail
  go_loop [1] (fun v => ∃ k : Nat, k ≤ n ∧ v = .int .i64 k ∧ Pl.run d n k = Pl.run d n i) (fun v => n - (intOf v).toNat)
  case atStart => exact ⟨i, by omega, rfl, rfl⟩
  case round =>
    obtain ⟨k, hk, rfl, hs⟩ := hrel
    have HS : Hid (Pl.run d n k = Pl.run d n i) := hs
    clear hs
    by_cases hlt : k < n
    · have hcx := HC.out k hlt
      by_cases h1 : 48 ≤ d k
      · by_cases h2 : d k ≤ 57
        · have HN : Hid (Pl.run d n (k + 1) = Pl.run d n i) := (Pl.run_go d n k hlt ⟨h1, h2⟩).symm.trans HS.out
          clear HS
          go_wp2
          go_round
          case rel => exact ⟨k + 1, by omega, by go_num, HN.out⟩
          case measure => simp [intOf]; omega
        · have HN : Hid (k = Pl.run d n i) := (Pl.run_stop d n k hlt (by omega)).symm.trans HS.out
          clear HS
          go_wp2
          go_ret
          exact ⟨ret_nat HN.out, rfl⟩
      · have HN : Hid (k = Pl.run d n i) := (Pl.run_stop d n k hlt (by omega)).symm.trans HS.out
        clear HS
        go_wp2
        go_ret
        exact ⟨ret_nat HN.out, rfl⟩
    · have HN : Hid (k = Pl.run d n i) := (Pl.run_ge d n k hlt).symm.trans HS.out
      clear HS
      go_wp2
      go_ret
      exact ⟨ret_nat HN.out, rfl⟩

/-- zqFollowsValue. -/
theorem follows_any (x : Int) (w : World) : Calls Try.prog 16 #[.int .u8 x] w fun e w' => e = .returned (.bool (Pl.del x)) ∧ w' = w := by
  go_enter Try.func16, Try.ntmps16
  go_wp2
  all_goals
    go_ret
    exact ⟨by simp [Pl.del, *], rfl⟩

/-- What a reader of numbers answers: where it says yes, all that it passed over are bytes of a number. -/
def NumAns (d : Nat → Int) (n i : Nat) (e : Ending) : Prop :=
  ∃ (k : Nat) (ok : Bool), e = .returned (.tuple #[.int .i64 k, .bool ok]) ∧ k ≤ n ∧ (ok = true → i < k ∧ Pl.Num d i k)
theorem NumAns.no {d : Nat → Int} {n i k : Nat} (h : k ≤ n) : NumAns d n i (.returned (.tuple #[.int .i64 k, .bool false])) := ⟨k, false, rfl, h, fun h => by cases h⟩
theorem NumAns.yes {d : Nat → Int} {n i k : Nat} (h : k ≤ n) (h1 : i < k) (h2 : Pl.Num d i k) : NumAns d n i (.returned (.tuple #[.int .i64 k, .bool true])) := ⟨k, true, rfl, h, fun _ => ⟨h1, h2⟩⟩

set_option maxHeartbeats 4000000 in
set_option maxRecDepth 100000 in
/-- validNumber: where it says yes, all that it passed over are bytes of a number. -/
theorem validNumber_row (b o n c : Nat) (d : Nat → Int) (i : Nat) (w : World) (hn : n ≤ 1048576) (hi : i < n)
    (hc : ∀ j, j < n → w.cell? ⟨b, o + j, none⟩ = some (.int .u8 (d j))) :
    Calls Try.prog 30 #[.slice (some ⟨b, o, none⟩) n c, .int .i64 i] w fun e w' => NumAns d n i e ∧ w' = w := by
  have HC : Hid (∀ j, j < n → w.cell? ⟨b, o + j, none⟩ = some (.int .u8 (d j))) := hc
  have hci := hc i hi
  clear hc
  go_enter Try.func30, Try.ntmps30
  go_upto_if 10 with fail
  go_cut [1] from 6 (fun v wc => wc = w ∧ ∃ k : Nat, v = .int .i64 k ∧ i ≤ k ∧ k ≤ n ∧ Pl.Num d i k)
  case first =>
    by_cases h : d i = 45
    · have hb : (d i == 45) = true := beq_iff_eq.2 h
      have HN : Hid (Pl.Num d i (i + 1)) := (Pl.Num.nil d i).snoc (.inl h)
      clear h
      go_wp2
      go_meet
      case rel => exact ⟨rfl, i + 1, by go_num, by omega, by omega, HN.out⟩
    · have hb : (d i == 45) = false := beq_eq_false_iff_ne.2 h
      clear h
      go_wp2
      go_meet
      case rel => exact ⟨rfl, i, rfl, by omega, by omega, Pl.Num.nil d i⟩
  clear hci
  obtain ⟨rfl, k, rfl, hik, hkn, hnum⟩ := hcut
  have HN : Hid (Pl.Num d i k) := hnum
  clear hnum
  go_upto_block 0 with fail
  go_cut [1] from 6 (fun v w2 => w2 = wc ∧ ∃ k : Nat, v = .int .i64 k ∧ i < k ∧ k ≤ n ∧ Pl.Num d i k)
  case first =>
    by_cases h : k = n
    · have hb : ((k : Int) == (n : Int)) = true := beq_iff_eq.2 (by omega)
      clear h
      go_wp2
      go_ret2
      exact ⟨NumAns.no hkn, rfl⟩
    · have hlt : k < n := by omega
      have hb : ((k : Int) == (n : Int)) = false := beq_eq_false_iff_ne.2 (by omega)
      clear h
      have hcx := HC.out k hlt
      by_cases h0 : 48 ≤ d k
      · by_cases h9 : d k ≤ 57
        · by_cases hz : d k = 48
          · have hzb : (d k == 48) = true := beq_iff_eq.2 hz
            have HN2 : Hid (Pl.Num d i (k + 1)) := HN.out.snoc (Pl.nch_dig ⟨h0, h9⟩)
            clear hz
            go_wp2
            go_meet
            case rel => exact ⟨rfl, k + 1, by go_num, by omega, by omega, HN2.out⟩
          · have hzb : (d k == 48) = false := beq_eq_false_iff_ne.2 hz
            clear hz
            obtain ⟨r1, r2, r3, r4⟩ := Pl.run_facts d n k hkn
            have hr : k + 1 ≤ Pl.run d n k := by
              rw [Pl.run_go d n k hlt ⟨h0, h9⟩]; exact (Pl.run_facts d n (k + 1) (by omega)).1
            have HN2 : Hid (Pl.Num d i (Pl.run d n k)) := HN.out.digits r3
            have H38 : Hid (Calls Try.prog 38 #[.slice (some ⟨b, o, none⟩) n c, .int .i64 k] wc fun e w' => e = .returned (.int .i64 (Pl.run d n k : Nat)) ∧ w' = wc) := digitsEnd_row b o n c d k wc hn hkn HC.out
            generalize Pl.run d n k = r at r1 r2 r3 r4 hr HN2 H38
            clear r3 r4
            go_wp2_with (first | (go_at_call 38; refine H38.out.mono ?_; rintro e w' ⟨rfl, rfl⟩) | go_in)
            go_meet
            case rel => exact ⟨rfl, r, rfl, by omega, by omega, HN2.out⟩
        · go_wp2
          go_ret2
          exact ⟨NumAns.no hkn, rfl⟩
      · go_wp2
        go_ret2
        exact ⟨NumAns.no hkn, rfl⟩
  clear HN hik hkn
  obtain ⟨rfl, k, rfl, hik, hkn, hnum⟩ := hcut
  have HN : Hid (Pl.Num d i k) := hnum
  clear hnum
  go_upto_region 8 with fail
  go_cut [48] from 6 (fun t w2 => w2 = wc ∧ ∃ x : Bool, t = .bool x ∧ (x = true → k < n ∧ d k = 46))
  case first =>
    by_cases hlt : k < n
    · have hcx := HC.out k hlt
      go_wp2
      go_meet
      case rel => exact ⟨rfl, _, rfl, fun h => ⟨hlt, by simpa using h⟩⟩
    · go_wp2
      go_meet
      case rel => exact ⟨rfl, _, rfl, fun h => by cases h⟩
  obtain ⟨rfl, x, rfl, hx⟩ := hcut
  have HX : Hid (x = true → k < n ∧ d k = 46) := hx
  clear hx
  go_upto_if 48 with fail
  go_cut [1] from 6 (fun v w2 => w2 = wc ∧ ∃ k : Nat, v = .int .i64 k ∧ i < k ∧ k ≤ n ∧ Pl.Num d i k)
  case first =>
    cases x
    · go_wp2
      go_meet
      case rel => exact ⟨rfl, k, rfl, hik, hkn, HN.out⟩
    · obtain ⟨hlt, h46⟩ := HX.out rfl
      have HN1 : Hid (Pl.Num d i (k + 1)) := HN.out.snoc (.inr (.inr (.inl h46)))
      clear h46 HN HX
      by_cases h : k + 1 = n
      · have hb : ((k : Int) + 1 == (n : Int)) = true := beq_iff_eq.2 (by omega)
        clear h
        go_wp2
        go_ret2
        exact ⟨NumAns.no (k := k + 1) (by omega), rfl⟩
      · have hlt1 : k + 1 < n := by omega
        have hb : ((k : Int) + 1 == (n : Int)) = false := beq_eq_false_iff_ne.2 (by omega)
        clear h
        have hcx := HC.out (k + 1) hlt1
        by_cases h0 : 48 ≤ d (k + 1)
        · by_cases h9 : d (k + 1) ≤ 57
          · obtain ⟨r1, r2, r3, r4⟩ := Pl.run_facts d n (k + 1) (by omega)
            have HN2 : Hid (Pl.Num d i (Pl.run d n (k + 1))) := HN1.out.digits r3
            have H38 : Hid (Calls Try.prog 38 #[.slice (some ⟨b, o, none⟩) n c, .int .i64 ((k : Int) + 1)] wc fun e w' => e = .returned (.int .i64 (Pl.run d n (k + 1) : Nat)) ∧ w' = wc) := digitsEnd_row b o n c d (k + 1) wc hn (by omega) HC.out
            generalize Pl.run d n (k + 1) = r at r1 r2 r3 r4 HN2 H38
            clear r3 r4
            go_wp2_with (first | (go_at_call 38; refine H38.out.mono ?_; rintro e w' ⟨rfl, rfl⟩) | go_in)
            go_meet
            case rel => exact ⟨rfl, r, rfl, by omega, by omega, HN2.out⟩
          · go_wp2
            go_ret2
            exact ⟨NumAns.no (k := k + 1) (by omega), rfl⟩
        · go_wp2
          go_ret2
          exact ⟨NumAns.no (k := k + 1) (by omega), rfl⟩
  clear HN HX hik hkn
  obtain ⟨rfl, k, rfl, hik, hkn, hnum⟩ := hcut
  have HN : Hid (Pl.Num d i k) := hnum
  clear hnum
  go_upto_region 13 with fail
  go_cut [84] from 6 (fun t w2 => w2 = wc ∧ ∃ x : Bool, t = .bool x ∧ (x = true → k < n ∧ (d k = 101 ∨ d k = 69)))
  case first =>
    by_cases hlt : k < n
    · have hcx := HC.out k hlt
      by_cases h1 : d k = 101
      · have hb : (d k == 101) = true := beq_iff_eq.2 h1
        clear h1
        go_wp2
        go_meet
        case rel => exact ⟨rfl, true, rfl, fun _ => ⟨hlt, .inl (by simpa using hb)⟩⟩
      · have hb : (d k == 101) = false := beq_eq_false_iff_ne.2 h1
        clear h1
        go_wp2
        go_meet
        case rel => exact ⟨rfl, _, rfl, fun h => ⟨hlt, .inr (by simpa using h)⟩⟩
    · go_wp2
      go_meet
      case rel => exact ⟨rfl, false, rfl, fun h => by cases h⟩
  obtain ⟨rfl, x, rfl, hx⟩ := hcut
  have HX : Hid (x = true → k < n ∧ (d k = 101 ∨ d k = 69)) := hx
  clear hx
  go_upto_if 84 with fail
  go_cut [1] from 6 (fun v w2 => w2 = wc ∧ ∃ k : Nat, v = .int .i64 k ∧ i < k ∧ k ≤ n ∧ Pl.Num d i k)
  case first =>
    cases x
    · go_wp2
      go_meet
      case rel => exact ⟨rfl, k, rfl, hik, hkn, HN.out⟩
    · obtain ⟨hlt, he⟩ := HX.out rfl
      have HN1 : Hid (Pl.Num d i (k + 1)) := HN.out.snoc (by rcases he with h | h; exact .inr (.inr (.inr (.inl h))); exact .inr (.inr (.inr (.inr (.inl h)))))
      clear he HN HX
      go_upto_region 15 with fail
      go_cut [104] from 6 (fun t w2 => w2 = wc ∧ ∃ x : Bool, t = .bool x ∧ (x = true → k + 1 < n ∧ (d (k + 1) = 43 ∨ d (k + 1) = 45)))
      case first =>
        by_cases hlt1 : k + 1 < n
        · have hcx := HC.out (k + 1) hlt1
          by_cases h1 : d (k + 1) = 43
          · have hb : (d (k + 1) == 43) = true := beq_iff_eq.2 h1
            clear h1
            go_wp2
            go_meet
            case rel => exact ⟨rfl, true, rfl, fun _ => ⟨hlt1, .inl (by simpa using hb)⟩⟩
          · have hb : (d (k + 1) == 43) = false := beq_eq_false_iff_ne.2 h1
            clear h1
            go_wp2
            go_meet
            case rel => exact ⟨rfl, _, rfl, fun h => ⟨hlt1, .inr (by simpa using h)⟩⟩
        · go_wp2
          go_meet
          case rel => exact ⟨rfl, false, rfl, fun h => by cases h⟩
      obtain ⟨rfl, x, rfl, hx⟩ := hcut
      have HX : Hid (x = true → k + 1 < n ∧ (d (k + 1) = 43 ∨ d (k + 1) = 45)) := hx
      clear hx
      go_upto_if 104 with fail
      go_cut [1] from 6 (fun v w2 => w2 = wc ∧ ∃ k : Nat, v = .int .i64 k ∧ i < k ∧ k ≤ n ∧ Pl.Num d i k)
      case first =>
        cases x
        · go_wp2
          go_meet
          case rel => exact ⟨rfl, k + 1, by go_num, by omega, by omega, HN1.out⟩
        · obtain ⟨hlt1, hs⟩ := HX.out rfl
          have HN2 : Hid (Pl.Num d i (k + 2)) := HN1.out.snoc (by rcases hs with h | h; exact .inr (.inl h); exact .inl h)
          clear hs HX
          go_wp2
          go_meet
          case rel => exact ⟨rfl, k + 2, by go_num, by omega, by omega, HN2.out⟩
      clear HN1 HX hik hkn hlt
      obtain ⟨rfl, k, rfl, hik, hkn, hnum⟩ := hcut
      have HN : Hid (Pl.Num d i k) := hnum
      clear hnum
      by_cases h : k = n
      · have hb : ((k : Int) == (n : Int)) = true := beq_iff_eq.2 (by omega)
        clear h
        go_wp2
        go_ret2
        exact ⟨NumAns.no hkn, rfl⟩
      · have hlt1 : k < n := by omega
        have hb : ((k : Int) == (n : Int)) = false := beq_eq_false_iff_ne.2 (by omega)
        clear h
        have hcx := HC.out k hlt1
        by_cases h0 : 48 ≤ d k
        · by_cases h9 : d k ≤ 57
          · obtain ⟨r1, r2, r3, r4⟩ := Pl.run_facts d n k (by omega)
            have HN2 : Hid (Pl.Num d i (Pl.run d n k)) := HN.out.digits r3
            have H38 : Hid (Calls Try.prog 38 #[.slice (some ⟨b, o, none⟩) n c, .int .i64 k] wc fun e w' => e = .returned (.int .i64 (Pl.run d n k : Nat)) ∧ w' = wc) := digitsEnd_row b o n c d k wc hn (by omega) HC.out
            generalize Pl.run d n k = r at r1 r2 r3 r4 HN2 H38
            clear r3 r4
            go_wp2_with (first | (go_at_call 38; refine H38.out.mono ?_; rintro e w' ⟨rfl, rfl⟩) | go_in)
            go_meet
            case rel => exact ⟨rfl, r, rfl, by omega, by omega, HN2.out⟩
          · go_wp2
            go_ret2
            exact ⟨NumAns.no hkn, rfl⟩
        · go_wp2
          go_ret2
          exact ⟨NumAns.no hkn, rfl⟩
  clear HN HX hik hkn
  obtain ⟨rfl, k, rfl, hik, hkn, hnum⟩ := hcut
  have HN : Hid (Pl.Num d i k) := hnum
  clear hnum
  go_wp2
  go_ret2
  exact ⟨NumAns.yes hkn hik HN.out, rfl⟩
end Go.Proofs.Qxb6603727a
