/-
  SHARED WALKS: jpNumber.
-/
import Derived.Test.Qxb6603727aJp1
namespace Go.Proofs.Qxb6603727a
open Go.RowKit
set_option linter.unusedVariables false

theorem num_ans {d : Nat → Int} {n i k : Nat} (h1 : i < k) (h2 : k ≤ n) (h : Pl.Num d i k) : JAns (Pl.Val d n i) (.returned (.tuple #[.int .i64 (k : Int), .bool true])) := JAns.yes k (Pl.val_num d n i k h1 h2 h)

set_option maxHeartbeats 4000000 in
set_option maxRecDepth 100000 in
theorem jpNumber_row (b o n c : Nat) (d : Nat → Int) (i : Nat) (w : World) (hn : n ≤ 1048576) (hi : i < n)
    (hc : ∀ j, j < n → w.cell? ⟨b, o + j, none⟩ = some (.int .u8 (d j))) :
    Calls Try.prog 28 #[.slice (some ⟨b, o, none⟩) n c, .int .i64 i] w fun e w' => JAns (Pl.Val d n i) e ∧ w' = w := by
  have HC : Hid (∀ j, j < n → w.cell? ⟨b, o + j, none⟩ = some (.int .u8 (d j))) := hc
  have hci := hc i hi
  clear hc
  go_enter Try.func28, Try.ntmps28
  go_upto_if 23 with fail
  go_cut [1] from 12 (fun v wc => wc = w ∧ ∃ k : Nat, v = .int .i64 k ∧ i ≤ k ∧ k ≤ n ∧ Pl.Num d i k)
  case first =>
    by_cases h : d i = 45
    · have hb : (d i == 45) = true := beq_iff_eq.2 h
      have HN : Hid (Pl.Num d i (i + 1)) := (Pl.Num.nil d i).snoc (.inl h)
      clear h
      go_wp2
      go_meet
      case rel => exact ⟨rfl, i + 1, by go_num, by omega, by omega, HN.out⟩
    · have hb : (d i == 45) = false := beq_eq_false_iff_ne.2 h
      clear h
      go_wp2
      go_meet
      case rel => exact ⟨rfl, i, rfl, by omega, by omega, Pl.Num.nil d i⟩
  clear hci
  obtain ⟨rfl, k, rfl, hik, hkn, hnum⟩ := hcut
  have HN : Hid (Pl.Num d i k) := hnum
  clear hnum
  go_wp2_with fail
  obtain ⟨r1, r2, r3, r4⟩ := Pl.run_facts d n k hkn
  refine (jpRun_row b o n c d k wc hn hkn HC.out).mono ?_
  rintro e w' ⟨rfl, rfl⟩
  generalize Pl.run d n k = r at r1 r2 r3 r4 ⊢
  have HN2 : Hid (Pl.Num d i r) := HN.out.digits r3
  clear r3 r4 HN
  by_cases hrk : r = k
  · have hb : ((r : Int) == (k : Int)) = true := beq_iff_eq.2 (by omega)
    clear hrk HN2
    go_wp2
    go_ret2
    exact ⟨JAns.no _, rfl⟩
  have hrk' : k < r := by omega
  have hbk : ((r : Int) == (k : Int)) = false := beq_eq_false_iff_ne.2 (by omega)
  have hik2 : i < r := by omega
  clear hrk
  have hck := HC.out k (by omega)
  go_upto_region 8 with fail
  go_cut [44] from 12 (fun t w2 => w2 = w' ∧ ∃ x : Bool, t = .bool x)
  case first =>
    by_cases hz : d k = 48
    · have hzb : (d k == 48) = true := beq_iff_eq.2 hz
      clear hz
      go_wp2
      go_meet
      case rel => exact ⟨rfl, _, rfl⟩
    · have hzb : (d k == 48) = false := beq_eq_false_iff_ne.2 hz
      clear hz
      go_wp2
      go_meet
      case rel => exact ⟨rfl, _, rfl⟩
  obtain ⟨rfl, x, rfl⟩ := hcut
  clear hck hbk
  cases x
  case true =>
    go_wp2
    go_ret2
    exact ⟨JAns.no _, rfl⟩
  go_upto_region 11 with fail
  go_cut [56] from 12 (fun t w2 => w2 = wc ∧ ∃ x : Bool, t = .bool x ∧ (x = true → r < n ∧ d r = 46))
  case first =>
    by_cases hlt : r < n
    · have hcx := HC.out r hlt
      go_wp2
      go_meet
      case rel => exact ⟨rfl, _, rfl, fun h => ⟨hlt, by simpa using h⟩⟩
    · go_wp2
      go_meet
      case rel => exact ⟨rfl, _, rfl, fun h => by cases h⟩
  obtain ⟨rfl, x, rfl, hx⟩ := hcut
  have HX : Hid (x = true → r < n ∧ d r = 46) := hx
  clear hx
  go_upto_if 56 with fail
  go_cut [1] from 12 (fun v w2 => w2 = wc ∧ ∃ k : Nat, v = .int .i64 k ∧ i < k ∧ k ≤ n ∧ Pl.Num d i k)
  case first =>
    cases x
    · go_wp2
      go_meet
      case rel => exact ⟨rfl, r, rfl, by omega, r2, HN2.out⟩
    · obtain ⟨hlt, h46⟩ := HX.out rfl
      have HN1 : Hid (Pl.Num d i (r + 1)) := HN2.out.snoc (.inr (.inr (.inl h46)))
      clear h46 HN2 HX
      obtain ⟨s1, s2, s3, s4⟩ := Pl.run_facts d n (r + 1) (by omega)
      have HN3 : Hid (Pl.Num d i (Pl.run d n (r + 1))) := HN1.out.digits s3
      have H35 : Hid (Calls Try.prog 35 #[.slice (some ⟨b, o, none⟩) n c, .int .i64 ((r : Int) + 1)] wc fun e w' => e = .returned (.int .i64 (Pl.run d n (r + 1) : Nat)) ∧ w' = wc) := jpRun_row b o n c d (r + 1) wc hn (by omega) HC.out
      generalize Pl.run d n (r + 1) = f at s1 s2 s3 s4 HN3 H35
      clear s3 s4 HN1
      by_cases hf : f = r + 1
      · have hb : ((f : Int) == (r : Int) + 1) = true := beq_iff_eq.2 (by omega)
        clear hf
        go_wp2_with (first | (go_at_call 35; refine H35.out.mono ?_; rintro e w' ⟨rfl, rfl⟩))
        go_ret2
        exact ⟨JAns.no _, rfl⟩
      · have hb : ((f : Int) == (r : Int) + 1) = false := beq_eq_false_iff_ne.2 (by omega)
        clear hf
        go_wp2_with (first | (go_at_call 35; refine H35.out.mono ?_; rintro e w' ⟨rfl, rfl⟩))
        go_meet
        case rel => exact ⟨rfl, f, rfl, by omega, s2, HN3.out⟩
  clear HN2 HX hik hkn r1 r2 hrk' hik2
  obtain ⟨rfl, k, rfl, hik, hkn, hnum⟩ := hcut
  have HN : Hid (Pl.Num d i k) := hnum
  clear hnum
  go_upto_region 16 with fail
  go_cut [83] from 12 (fun t w2 => w2 = wc ∧ ∃ x : Bool, t = .bool x ∧ (x = true → k < n ∧ (d k = 101 ∨ d k = 69)))
  case first =>
    by_cases hlt : k < n
    · have hcx := HC.out k hlt
      by_cases h1 : d k = 101
      · have hb : (d k == 101) = true := beq_iff_eq.2 h1
        clear h1
        go_wp2
        go_meet
        case rel => exact ⟨rfl, true, rfl, fun _ => ⟨hlt, .inl (by simpa using hb)⟩⟩
      · have hb : (d k == 101) = false := beq_eq_false_iff_ne.2 h1
        clear h1
        go_wp2
        go_meet
        case rel => exact ⟨rfl, _, rfl, fun h => ⟨hlt, .inr (by simpa using h)⟩⟩
    · go_wp2
      go_meet
      case rel => exact ⟨rfl, false, rfl, fun h => by cases h⟩
  obtain ⟨rfl, x, rfl, hx⟩ := hcut
  have HX : Hid (x = true → k < n ∧ (d k = 101 ∨ d k = 69)) := hx
  clear hx
  go_upto_if 83 with fail
  go_cut [1] from 12 (fun v w2 => w2 = wc ∧ ∃ k : Nat, v = .int .i64 k ∧ i < k ∧ k ≤ n ∧ Pl.Num d i k)
  case first =>
    cases x
    · go_wp2
      go_meet
      case rel => exact ⟨rfl, k, rfl, hik, hkn, HN.out⟩
    · obtain ⟨hlt, he⟩ := HX.out rfl
      have HN1 : Hid (Pl.Num d i (k + 1)) := HN.out.snoc (by rcases he with h | h; exact .inr (.inr (.inr (.inl h))); exact .inr (.inr (.inr (.inr (.inl h)))))
      clear he HN HX
      go_upto_region 18 with fail
      go_cut [102] from 12 (fun t w2 => w2 = wc ∧ ∃ x : Bool, t = .bool x ∧ (x = true → k + 1 < n ∧ (d (k + 1) = 43 ∨ d (k + 1) = 45)))
      case first =>
        by_cases hlt1 : k + 1 < n
        · have hcx := HC.out (k + 1) hlt1
          by_cases h1 : d (k + 1) = 43
          · have hb : (d (k + 1) == 43) = true := beq_iff_eq.2 h1
            clear h1
            go_wp2
            go_meet
            case rel => exact ⟨rfl, true, rfl, fun _ => ⟨hlt1, .inl (by simpa using hb)⟩⟩
          · have hb : (d (k + 1) == 43) = false := beq_eq_false_iff_ne.2 h1
            clear h1
            go_wp2
            go_meet
            case rel => exact ⟨rfl, _, rfl, fun h => ⟨hlt1, .inr (by simpa using h)⟩⟩
        · go_wp2
          go_meet
          case rel => exact ⟨rfl, false, rfl, fun h => by cases h⟩
      obtain ⟨rfl, x, rfl, hx⟩ := hcut
      have HX : Hid (x = true → k + 1 < n ∧ (d (k + 1) = 43 ∨ d (k + 1) = 45)) := hx
      clear hx
      go_upto_if 102 with fail
      go_cut [10] from 12 (fun v w2 => w2 = wc ∧ ∃ k : Nat, v = .int .i64 k ∧ i < k ∧ k ≤ n ∧ Pl.Num d i k)
      case first =>
        cases x
        · go_wp2
          go_meet
          case rel => exact ⟨rfl, k + 1, by go_num, by omega, by omega, HN1.out⟩
        · obtain ⟨hlt1, hs⟩ := HX.out rfl
          have HN2 : Hid (Pl.Num d i (k + 2)) := HN1.out.snoc (by rcases hs with h | h; exact .inr (.inl h); exact .inl h)
          clear hs HX
          go_wp2
          go_meet
          case rel => exact ⟨rfl, k + 2, by go_num, by omega, by omega, HN2.out⟩
      clear HN1 HX
      obtain ⟨rfl, s, rfl, his, hsn, hnum⟩ := hcut
      have HN : Hid (Pl.Num d i s) := hnum
      clear hnum
      obtain ⟨s1, s2, s3, s4⟩ := Pl.run_facts d n s hsn
      have HN3 : Hid (Pl.Num d i (Pl.run d n s)) := HN.out.digits s3
      have H35 : Hid (Calls Try.prog 35 #[.slice (some ⟨b, o, none⟩) n c, .int .i64 s] wc fun e w' => e = .returned (.int .i64 (Pl.run d n s : Nat)) ∧ w' = wc) := jpRun_row b o n c d s wc hn hsn HC.out
      generalize Pl.run d n s = f at s1 s2 s3 s4 HN3 H35
      clear s3 s4 HN
      by_cases hf : f = s
      · have hb : ((f : Int) == (s : Int)) = true := beq_iff_eq.2 (by omega)
        clear hf
        go_wp2_with (first | (go_at_call 35; refine H35.out.mono ?_; rintro e w' ⟨rfl, rfl⟩))
        go_ret2
        exact ⟨JAns.no _, rfl⟩
      · have hb : ((f : Int) == (s : Int)) = false := beq_eq_false_iff_ne.2 (by omega)
        clear hf
        go_wp2_with (first | (go_at_call 35; refine H35.out.mono ?_; rintro e w' ⟨rfl, rfl⟩))
        go_meet
        case rel => exact ⟨rfl, f, rfl, by omega, s2, HN3.out⟩
  clear HN HX hik hkn
  obtain ⟨rfl, k, rfl, hik, hkn, hnum⟩ := hcut
  have HN : Hid (Pl.Num d i k) := hnum
  clear hnum
  go_wp2
  go_ret2
  exact ⟨num_ans hik hkn HN.out, rfl⟩
end Go.Proofs.Qxb6603727a
