/-
  SHARED WALKS: jpArray.
-/
import Derived.Test.Qxb6603727aJp1
namespace Go.Proofs.Qxb6603727a
open Go.RowKit
set_option linter.unusedVariables false

/-- The row's cells. -/
def Cells (w : World) (b o n : Nat) (d : Nat → Int) : Prop := ∀ j, j < n → w.cell? ⟨b, o + j, none⟩ = some (.int .u8 (d j))
theorem Cells.drewN {w : World} {b o n : Nat} {d : Nat → Int} (h : Cells w b o n d) (q : Nat) : Cells (w.drewN q) b o n d := fun j hj => by rw [World.cell?_drewN]; exact h j hj

/-- jpValue at k is right. -/
def ValOk (b o n c : Nat) (d : Nat → Int) (k : Nat) : Prop :=
  ∀ w, Cells w b o n d → Calls Try.prog 15 #[.slice (some ⟨b, o, none⟩) n c, .int .i64 (k : Int)] w fun e w' => JAns (Pl.Val d n k) e ∧ Drw w w'
/-- All that stands behind i. -/
def Later (b o n c : Nat) (d : Nat → Int) (i : Nat) : Prop := ∀ k, i < k → k ≤ n → ValOk b o n c d k

set_option maxHeartbeats 4000000 in
set_option maxRecDepth 100000 in
theorem jpArray_row (b o n c : Nat) (d : Nat → Int) (i : Nat) (w : World) (hn : n ≤ 1048576) (hi : i < n) (h91 : d i = 91) (hc : Cells w b o n d) (hV : Later b o n c d i) :
    Calls Try.prog 26 #[.slice (some ⟨b, o, none⟩) n c, .int .i64 i] w fun e w' => JAns (Pl.Val d n i) e ∧ Drw w w' := by
  have H91 : Hid (d i = 123 ∨ d i = 91) := .inr h91
  have HI0 : Hid (Pl.Ins d n i (i + 1)) := Pl.Ins.start d n i hi H91.out
  clear h91
  have H34 : Hid (Calls Try.prog 34 #[.slice (some ⟨b, o, none⟩) n c, .int .i64 ((i : Int) + 1)] w fun e w' => (∃ k : Nat, e = .returned (.int .i64 k) ∧ Pl.Skp d n (i + 1) k) ∧ w' = w) := jpSkip_row b o n c d (i + 1) w hn (by omega) hc
  go_enter Try.func26, Try.ntmps26
  go_wp2_with fail
  refine H34.out.mono ?_
  rintro e w' ⟨⟨k, rfl, hsk⟩, rfl⟩
  have HI : Hid (Pl.Ins d n i k) := HI0.out.skip hsk
  have hkn : k ≤ n := hsk.2.1
  clear hsk H34 HI0
  by_cases hend : k < n ∧ d k = 93
  · obtain ⟨hlt, h93⟩ := hend
    have HV : Hid (Pl.Val d n i (k + 1)) := HI.out.close H91.out hlt (.inr h93)
    have hcx := hc k hlt
    rw [h93] at hcx
    clear h93 HI
    go_wp2
    go_ret2
    exact ⟨JAns.yes (k + 1) HV.out, 0, rfl⟩
  go_upto_region 2 with fail
  go_cut [22] from 8 (fun t w2 => w2 = w' ∧ t = .bool false)
  case first =>
    by_cases hlt : k < n
    · have hcx := hc k hlt
      have hb : (d k == 93) = false := beq_eq_false_iff_ne.2 (fun e => hend ⟨hlt, e⟩)
      clear hend
      go_wp2
      go_meet
      case rel => exact ⟨rfl, rfl⟩
    · clear hend
      go_wp2
      go_meet
      case rel => exact ⟨rfl, rfl⟩
  obtain ⟨rfl, rfl⟩ := hcut
  clear hend
  go_wp2_with fail
  go_loopw [1] (fun v wr => ∃ (k q : Nat), k ≤ n ∧ v = .int .i64 k ∧ wr = wc.drewN q ∧ Pl.Ins d n i k) (fun v _ => n - (intOf v).toNat)
  case atStart => exact ⟨k, 0, hkn, rfl, rfl, HI.out⟩
  case round =>
    clear HI hkn
    obtain ⟨k, q, hkn, rfl, rfl, hin⟩ := hrel
    have HI : Hid (Pl.Ins d n i k) := hin
    clear hin
    go_wp2_with fail
    refine (hV k HI.out.1 hkn _ (hc.drewN q)).mono ?_
    rintro e w' ⟨⟨x, ok, rfl, hok⟩, ⟨q2, rfl⟩⟩
    cases ok
    · clear hok
      go_wp2
      go_ret2
      exact ⟨JAns.no _, q + q2, by simp⟩
    obtain ⟨m, rfl, hval⟩ := hok rfl
    have HI2 : Hid (Pl.Ins d n i m) := HI.out.value hval
    have hkm : k < m := hval.1
    have hmn : m ≤ n := hval.2.1
    clear hok hval
    go_wp2_with fail
    refine (jpSkip_row b o n c d m _ hn hmn (hc.drewN (q + q2))).mono ?_
    rintro e w' ⟨⟨k2, rfl, hsk⟩, rfl⟩
    have HI3 : Hid (Pl.Ins d n i k2) := HI2.out.skip hsk
    have hmk : m ≤ k2 := hsk.1
    have hk2n : k2 ≤ n := hsk.2.1
    clear hsk HI2 HI
    by_cases hlt : k2 < n
    · have hcx := hc k2 hlt
      by_cases h93 : d k2 = 93
      · have HV : Hid (Pl.Val d n i (k2 + 1)) := HI3.out.close H91.out hlt (.inr h93)
        rw [h93] at hcx
        clear h93 HI3
        go_wp2
        go_ret2
        exact ⟨JAns.yes (k2 + 1) HV.out, q + q2, by simp⟩
      · have b93 : (d k2 == 93) = false := beq_eq_false_iff_ne.2 h93
        by_cases h44 : d k2 = 44
        · have HI4 : Hid (Pl.Ins d n i (k2 + 1)) := HI3.out.sep hlt (.inl h44)
          rw [h44] at hcx
          clear h44 h93 b93 HI3
          have H34 : ∀ w, Hid (Cells w b o n d → Calls Try.prog 34 #[.slice (some ⟨b, o, none⟩) n c, .int .i64 ((k2 : Int) + 1)] w fun e w' => (∃ k : Nat, e = .returned (.int .i64 k) ∧ Pl.Skp d n (k2 + 1) k) ∧ w' = w) := fun w h => jpSkip_row b o n c d (k2 + 1) w hn (by omega) h
          go_wp2_with fail
          refine ((H34 _).out (hc.drewN (q + q2))).mono ?_
          rintro e w' ⟨⟨k3, rfl, hsk⟩, rfl⟩
          have HI5 : Hid (Pl.Ins d n i k3) := HI4.out.skip hsk
          have hk3 : k2 + 1 ≤ k3 := hsk.1
          have hk3n : k3 ≤ n := hsk.2.1
          clear hsk HI4 H34
          go_wp2
          go_roundw
          case rel => exact ⟨k3, q + q2, hk3n, rfl, by simp, HI5.out⟩
          case measure => simp [intOf]; omega
        · have b44 : (d k2 != 44) = true := by rw [bne_iff_ne]; exact h44
          clear h44 h93 HI3
          go_wp2
          go_ret2
          exact ⟨JAns.no _, q + q2, by simp⟩
    · clear HI3
      go_wp2
      go_ret2
      exact ⟨JAns.no _, q + q2, by simp⟩
end Go.Proofs.Qxb6603727a
