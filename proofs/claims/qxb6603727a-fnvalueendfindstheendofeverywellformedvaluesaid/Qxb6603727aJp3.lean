/-
  SHARED WALKS: jpString.
-/
import Derived.Test.Qxb6603727aJp1
namespace Go.Proofs.Qxb6603727a
open Go.RowKit
set_option linter.unusedVariables false

set_option maxHeartbeats 4000000 in
set_option maxRecDepth 100000 in
theorem jpString_row (b o n c : Nat) (d : Nat → Int) (i : Nat) (w : World) (hn : n ≤ 1048576) (hi : i < n)
    (hc : ∀ j, j < n → w.cell? ⟨b, o + j, none⟩ = some (.int .u8 (d j))) :
    Calls Try.prog 24 #[.slice (some ⟨b, o, none⟩) n c, .int .i64 i] w fun e w' => JAns (fun m => m = Pl.scan d n (i + 1)) e ∧ w' = w := by
  have HC : Hid (∀ j, j < n → w.cell? ⟨b, o + j, none⟩ = some (.int .u8 (d j))) := hc
  clear hc
  go_enter Try.func24, Try.ntmps24
  go_wp2_with fail
  go_loop [7] (fun v => ∃ j : Nat, j ≤ n ∧ v = .int .i64 j ∧ Pl.scan d n j = Pl.scan d n (i + 1)) (fun v => n - (intOf v).toNat)
  case atStart => exact ⟨i + 1, by omega, by go_num, rfl⟩
  case round =>
    obtain ⟨j, hj, rfl, hs⟩ := hrel
    have HS : Hid (Pl.scan d n j = Pl.scan d n (i + 1)) := hs
    clear hs
    by_cases hlt : j < n
    · have hcx := HC.out j hlt
      by_cases h34 : d j = 34
      · have HN : Hid (j + 1 = Pl.scan d n (i + 1)) := (Pl.scan_q d n j hlt h34).symm.trans HS.out
        rw [h34] at hcx
        clear h34 HS
        go_wp2
        go_ret2
        exact ⟨JAns.yes (j + 1) HN.out, rfl⟩
      · have b34 : (d j == 34) = false := beq_eq_false_iff_ne.2 h34
        by_cases h32 : d j < 32
        · clear h34 HS
          go_wp2
          go_ret2
          exact ⟨JAns.no _, rfl⟩
        · by_cases h92 : d j = 92
          · have b92 : (d j != 92) = false := by rw [h92]; rfl
            have HN2 : Hid (Pl.scan d n (j + 2) = Pl.scan d n (i + 1)) := (Pl.scan_bs d n j hlt h92).symm.trans HS.out
            have H92 : Hid (d j = 92) := h92
            rw [h92] at hcx
            clear h34 h92 b34 h32 b92
            by_cases hl1 : j + 1 < n
            · have hc1 := HC.out (j + 1) hl1
              by_cases hu : d (j + 1) = 117
              · rw [hu] at hc1
                clear hu HN2
                by_cases hl6 : j + 6 ≤ n
                · go_wp2_with fail
                  clear hcx hc1
                  go_loop [10] (fun v => ∃ t : Nat, j + 2 ≤ t ∧ t ≤ j + 6 ∧ v = .int .i64 t ∧ ∀ u, j + 2 ≤ u → u < t → d u ≠ 34 ∧ d u ≠ 92) (fun v => j + 6 - (intOf v).toNat)
                  case atStart => exact ⟨j + 2, by omega, by omega, by go_num, fun u h1 h2 => by omega⟩
                  case round =>
                    obtain ⟨t, ht1, ht2, rfl, hall⟩ := hrel
                    have HA : Hid (∀ u, j + 2 ≤ u → u < t → d u ≠ 34 ∧ d u ≠ 92) := hall
                    clear hall
                    by_cases htl : t < j + 6
                    · have hct := HC.out t (by omega)
                      go_wp2_with fail
                      refine (jpHex_any (d t) w).mono ?_
                      rintro e w' ⟨⟨x, rfl, hx⟩, rfl⟩
                      cases x
                      · clear hx HA HS
                        go_wp2
                        go_ret2
                        exact ⟨JAns.no _, rfl⟩
                      · have HA2 : Hid (∀ u, j + 2 ≤ u → u < t + 1 → d u ≠ 34 ∧ d u ≠ 92) := fun u h1 h2 => by
                          by_cases e : u = t
                          · subst e; exact hx rfl
                          · exact HA.out u h1 (by omega)
                        clear hx HA
                        go_wp2
                        go_round
                        case rel => exact ⟨t + 1, by omega, by omega, by go_num, HA2.out⟩
                        case measure => simp [intOf]; omega
                    · have HN : Hid (Pl.scan d n (j + 6) = Pl.scan d n (i + 1)) := (Pl.scan_u d n j hl6 H92.out (fun u h1 h2 => HA.out u h1 (by omega))).symm.trans HS.out
                      clear HA HS
                      go_wp2
                      go_round
                      case rel => exact ⟨j + 6, by omega, by go_num, HN.out⟩
                      case measure => simp [intOf]; omega
                · clear HS
                  go_wp2
                  go_ret2
                  exact ⟨JAns.no _, rfl⟩
              · have b117 : (d (j + 1) == 117) = false := beq_eq_false_iff_ne.2 hu
                clear HS
                by_cases he : d (j + 1) = 34 ∨ d (j + 1) = 92 ∨ d (j + 1) = 47 ∨ d (j + 1) = 98 ∨ d (j + 1) = 102 ∨ d (j + 1) = 110 ∨ d (j + 1) = 114 ∨ d (j + 1) = 116
                · have HE : Hid (d (j + 1) = 34 ∨ d (j + 1) = 92 ∨ d (j + 1) = 47 ∨ d (j + 1) = 98 ∨ d (j + 1) = 102 ∨ d (j + 1) = 110 ∨ d (j + 1) = 114 ∨ d (j + 1) = 116) := he
                  clear he hu b117
                  rcases HE.out with h | h | h | h | h | h | h | h
                  all_goals
                    rw [h] at hc1
                    clear h HE
                    go_wp2
                    go_round
                    case rel => exact ⟨j + 2, by omega, by go_num, HN2.out⟩
                    case measure => simp [intOf]; omega
                · have e1 : (d (j + 1) == 34) = false := beq_eq_false_iff_ne.2 (by omega)
                  have e2 : (d (j + 1) == 92) = false := beq_eq_false_iff_ne.2 (by omega)
                  have e3 : (d (j + 1) == 47) = false := beq_eq_false_iff_ne.2 (by omega)
                  have e4 : (d (j + 1) == 98) = false := beq_eq_false_iff_ne.2 (by omega)
                  have e5 : (d (j + 1) == 102) = false := beq_eq_false_iff_ne.2 (by omega)
                  have e6 : (d (j + 1) == 110) = false := beq_eq_false_iff_ne.2 (by omega)
                  have e7 : (d (j + 1) == 114) = false := beq_eq_false_iff_ne.2 (by omega)
                  have e8 : (d (j + 1) == 116) = false := beq_eq_false_iff_ne.2 (by omega)
                  clear he hu HN2
                  go_wp2
                  go_ret2
                  exact ⟨JAns.no _, rfl⟩
            · clear HS HN2
              go_wp2
              go_ret2
              exact ⟨JAns.no _, rfl⟩
          · have b92 : (d j != 92) = true := by rw [bne_iff_ne]; exact h92
            have HN : Hid (Pl.scan d n (j + 1) = Pl.scan d n (i + 1)) := (Pl.scan_o d n j hlt h92 h34).symm.trans HS.out
            clear h34 h92 HS
            go_wp2
            go_round
            case rel => exact ⟨j + 1, by omega, by go_num, HN.out⟩
            case measure => simp [intOf]; omega
    · clear HS
      go_wp2
      go_ret2
      exact ⟨JAns.no _, rfl⟩
end Go.Proofs.Qxb6603727a
