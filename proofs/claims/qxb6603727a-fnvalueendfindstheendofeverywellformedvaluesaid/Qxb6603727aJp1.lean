/-
  SHARED WALKS: jpSkip, jpRun, jpHex, jpWord.
-/
import Derived.Test.Qxb6603727aNum
import Derived.Test.Qxb6603727aPlain4
import Derived.Deep.QuietTactic
import Derived.BigQuiet
namespace Go.Proofs.Qxb6603727a
open Go.RowKit
set_option linter.unusedVariables false

set_option maxHeartbeats 1000000 in
set_option maxRecDepth 100000 in
theorem jpSkip_row (b o n c : Nat) (d : Nat → Int) (i : Nat) (w : World) (hn : n ≤ 1048576) (hi : i ≤ n)
    (hc : ∀ j, j < n → w.cell? ⟨b, o + j, none⟩ = some (.int .u8 (d j))) :
    Calls Try.prog 34 #[.slice (some ⟨b, o, none⟩) n c, .int .i64 i] w fun e w' => (∃ k : Nat, e = .returned (.int .i64 k) ∧ Pl.Skp d n i k) ∧ w' = w := by
  have HC : Hid (∀ j, j < n → w.cell? ⟨b, o + j, none⟩ = some (.int .u8 (d j))) := hc
  clear hc
  go_enter Try.func34, Try.ntmps34
  go_wp2_with fail
  go_loop [1] (fun v => ∃ k : Nat, k ≤ n ∧ v = .int .i64 k ∧ Pl.Skp d n i k) (fun v => n - (intOf v).toNat)
  case atStart => exact ⟨i, by omega, rfl, Pl.Skp.nil d n i hi⟩
  case round =>
    obtain ⟨k, hk, rfl, hs⟩ := hrel
    have HS : Hid (Pl.Skp d n i k) := hs
    clear hs
    by_cases hlt : k < n
    · have hcx := HC.out k hlt
      by_cases hw : d k = 32 ∨ d k = 9 ∨ d k = 10 ∨ d k = 13
      · have HN : Hid (Pl.Skp d n i (k + 1)) := HS.out.snoc hlt hw
        clear HS
        rcases hw with h | h | h | h
        all_goals
          rw [h] at hcx
          clear h
          go_wp2
          go_round
          case rel => exact ⟨k + 1, by omega, by go_num, HN.out⟩
          case measure => simp [intOf]; omega
      · have e1 : (d k == 32) = false := beq_eq_false_iff_ne.2 (by omega)
        have e2 : (d k == 9) = false := beq_eq_false_iff_ne.2 (by omega)
        have e3 : (d k == 10) = false := beq_eq_false_iff_ne.2 (by omega)
        have e4 : (d k == 13) = false := beq_eq_false_iff_ne.2 (by omega)
        clear hw
        go_wp2
        go_ret
        exact ⟨⟨k, rfl, HS.out⟩, rfl⟩
    · go_wp2
      go_ret
      exact ⟨⟨k, rfl, HS.out⟩, rfl⟩

set_option maxHeartbeats 1000000 in
theorem jpRun_row (b o n c : Nat) (d : Nat → Int) (i : Nat) (w : World) (hn : n ≤ 1048576) (hi : i ≤ n)
    (hc : ∀ j, j < n → w.cell? ⟨b, o + j, none⟩ = some (.int .u8 (d j))) :
    Calls Try.prog 35 #[.slice (some ⟨b, o, none⟩) n c, .int .i64 i] w fun e w' => e = .returned (.int .i64 (Pl.run d n i : Nat)) ∧ w' = w := by
  have HC : Hid (∀ j, j < n → w.cell? ⟨b, o + j, none⟩ = some (.int .u8 (d j))) := hc
  clear hc
  go_enter Try.func35, Try.ntmps35
  go_wp2_with fail
  go_loop [1] (fun v => ∃ k : Nat, k ≤ n ∧ v = .int .i64 k ∧ Pl.run d n k = Pl.run d n i) (fun v => n - (intOf v).toNat)
  case atStart => exact ⟨i, by omega, rfl, rfl⟩
  case round =>
    obtain ⟨k, hk, rfl, hs⟩ := hrel
    have HS : Hid (Pl.run d n k = Pl.run d n i) := hs
    clear hs
    by_cases hlt : k < n
    · have hcx := HC.out k hlt
      by_cases h1 : 48 ≤ d k
      · by_cases h2 : d k ≤ 57
        · have HN : Hid (Pl.run d n (k + 1) = Pl.run d n i) := (Pl.run_go d n k hlt ⟨h1, h2⟩).symm.trans HS.out
          clear HS
          go_wp2
          go_round
          case rel => exact ⟨k + 1, by omega, by go_num, HN.out⟩
          case measure => simp [intOf]; omega
        · have HN : Hid (k = Pl.run d n i) := (Pl.run_stop d n k hlt (by omega)).symm.trans HS.out
          clear HS
          go_wp2
          go_ret
          exact ⟨ret_nat HN.out, rfl⟩
      · have HN : Hid (k = Pl.run d n i) := (Pl.run_stop d n k hlt (by omega)).symm.trans HS.out
        clear HS
        go_wp2
        go_ret
        exact ⟨ret_nat HN.out, rfl⟩
    · have HN : Hid (k = Pl.run d n i) := (Pl.run_ge d n k hlt).symm.trans HS.out
      clear HS
      go_wp2
      go_ret
      exact ⟨ret_nat HN.out, rfl⟩

/-- What jpHex answers: yes at no quote and no backslash. -/
def HexAns (x : Int) (e : Ending) : Prop := ∃ t : Bool, e = .returned (.bool t) ∧ (t = true → x ≠ 34 ∧ x ≠ 92)
theorem jpHex_any (x : Int) (w : World) : Calls Try.prog 33 #[.int .u8 x] w fun e w' => HexAns x e ∧ w' = w := by
  by_cases h : x = 34 ∨ x = 92
  · rcases h with rfl | rfl
    all_goals
      go_enter Try.func33, Try.ntmps33
      go_wp2
      go_ret
      exact ⟨⟨false, rfl, fun h => by cases h⟩, rfl⟩
  · have H : Hid (x ≠ 34 ∧ x ≠ 92) := ⟨fun e => h (.inl e), fun e => h (.inr e)⟩
    clear h
    go_enter Try.func33, Try.ntmps33
    go_wp2
    all_goals
      go_ret
      exact ⟨⟨_, rfl, fun _ => H.out⟩, rfl⟩

/-- The answer of a reader: where it says yes, the end that it gives is as told. -/
def JAns (P : Nat → Prop) (e : Ending) : Prop := ∃ (x : Int) (ok : Bool), e = .returned (.tuple #[.int .i64 x, .bool ok]) ∧ (ok = true → ∃ m : Nat, x = (m : Int) ∧ P m)
theorem JAns.no {P : Nat → Prop} (x : Int) : JAns P (.returned (.tuple #[.int .i64 x, .bool false])) := ⟨x, false, rfl, fun h => by cases h⟩
theorem JAns.yes {P : Nat → Prop} (m : Nat) (h : P m) : JAns P (.returned (.tuple #[.int .i64 (m : Int), .bool true])) := ⟨m, true, rfl, fun _ => ⟨m, rfl, h⟩⟩

/-- Nothing but draws. -/
def Drw (w w' : World) : Prop := ∃ q, w' = w.drewN q

/-- The word's bytes are small letters. -/
def Small (s : ByteArray) : Prop := ∀ j (h : j < s.size), 97 ≤ (s[j].toNat : Int) ∧ (s[j].toNat : Int) ≤ 122

set_option maxHeartbeats 1000000 in
set_option maxRecDepth 100000 in
theorem jpWord_row (b o n c : Nat) (d : Nat → Int) (i : Nat) (s : ByteArray) (w : World) (hn : n ≤ 1048576) (hi : i ≤ n) (hs0 : 1 ≤ s.size) (hs8 : s.size ≤ 8) (hsm : Small s)
    (hc : ∀ j, j < n → w.cell? ⟨b, o + j, none⟩ = some (.int .u8 (d j))) :
    Calls Try.prog 27 #[.slice (some ⟨b, o, none⟩) n c, .int .i64 i, .string s] w fun e w' => JAns (Pl.Val d n i) e ∧ Drw w w' := by
  have HC : Hid (∀ j, j < n → w.cell? ⟨b, o + j, none⟩ = some (.int .u8 (d j))) := hc
  have HM : Hid (Small s) := hsm
  clear hc hsm
  by_cases hlen : n < i + s.size
  · go_enter Try.func27, Try.ntmps27
    go_wp2
    go_ret2
    exact ⟨JAns.no _, 0, rfl⟩
  · go_enter Try.func27, Try.ntmps27
    go_wp2_with fail
    go_loopw [8] (fun v wr => ∃ (k q : Nat), k ≤ s.size ∧ v = .int .i64 k ∧ wr = w.drewN q ∧ ∀ t, t < k → 97 ≤ d (i + t) ∧ d (i + t) ≤ 122) (fun v _ => s.size - (intOf v).toNat)
    case atStart => exact ⟨0, 0, by omega, rfl, rfl, fun t ht => by omega⟩
    case round =>
      obtain ⟨k, q, hk, rfl, rfl, hall⟩ := hrel
      have HA : Hid (∀ t, t < k → 97 ≤ d (i + t) ∧ d (i + t) ≤ 122) := hall
      clear hall
      by_cases hlt : k < s.size
      · have hcx := HC.out (i + k) (by omega)
        have hkz : (k : Int) < (s.size : Int) := by omega
        have hiz : (i : Int) + (k : Int) < (n : Int) := by omega
        by_cases hq : d (i + k) = (s[k].toNat : Int)
        · have hb : (d (i + k) != (s[k].toNat : Int)) = false := by rw [hq]; simp
          have HN : Hid (∀ t, t < k + 1 → 97 ≤ d (i + t) ∧ d (i + t) ≤ 122) := fun t ht => by
            by_cases e : t = k
            · subst e; rw [hq]; exact HM.out t hlt
            · exact HA.out t (by omega)
          clear hq HA HM
          go_wp2
          go_quiet (fail)
          go_wp2
          go_roundw
          case rel => exact ⟨k + 1, q + nq, by omega, by go_num, by simp, HN.out⟩
          case measure => simp [intOf]; omega
        · have hb : (d (i + k) != (s[k].toNat : Int)) = true := by rw [bne_iff_ne]; exact hq
          clear hq HA HM
          go_wp2
          go_quiet (fail)
          go_wp2
          go_ret2
          exact ⟨JAns.no _, q + nq, by simp⟩
      · have HV : Hid (Pl.Val d n i (i + s.size)) := Pl.val_plain d n i (i + s.size) (by omega) (by omega) (fun j h1 h2 => by
          have := HA.out (j - i) (by omega)
          rw [show i + (j - i) = j by omega] at this
          exact Pl.plc_low this)
        clear HA HM
        go_wp2
        go_ret2
        exact ⟨JAns.yes (i + s.size) HV.out, q, rfl⟩
end Go.Proofs.Qxb6603727a
