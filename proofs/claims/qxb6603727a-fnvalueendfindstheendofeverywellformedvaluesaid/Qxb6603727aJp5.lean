/-
  SHARED WALKS: jpObject, jpValue.
-/
import Derived.Test.Qxb6603727aJp2
import Derived.Test.Qxb6603727aJp3
import Derived.Test.Qxb6603727aJp4
namespace Go.Proofs.Qxb6603727a
open Go.RowKit
set_option linter.unusedVariables false

set_option maxHeartbeats 4000000 in
set_option maxRecDepth 100000 in
theorem jpObject_row (b o n c : Nat) (d : Nat → Int) (i : Nat) (w : World) (hn : n ≤ 1048576) (hi : i < n) (h123 : d i = 123) (hc : Cells w b o n d) (hV : Later b o n c d i) :
    Calls Try.prog 25 #[.slice (some ⟨b, o, none⟩) n c, .int .i64 i] w fun e w' => JAns (Pl.Val d n i) e ∧ Drw w w' := by
  have H91 : Hid (d i = 123 ∨ d i = 91) := .inl h123
  have HI0 : Hid (Pl.Ins d n i (i + 1)) := Pl.Ins.start d n i hi H91.out
  clear h123
  have H34 : Hid (Calls Try.prog 34 #[.slice (some ⟨b, o, none⟩) n c, .int .i64 ((i : Int) + 1)] w fun e w' => (∃ k : Nat, e = .returned (.int .i64 k) ∧ Pl.Skp d n (i + 1) k) ∧ w' = w) := jpSkip_row b o n c d (i + 1) w hn (by omega) hc
  go_enter Try.func25, Try.ntmps25
  go_wp2_with fail
  refine H34.out.mono ?_
  rintro e w' ⟨⟨k, rfl, hsk⟩, rfl⟩
  have HI : Hid (Pl.Ins d n i k) := HI0.out.skip hsk
  have hkn : k ≤ n := hsk.2.1
  clear hsk H34 HI0
  by_cases hend : k < n ∧ d k = 125
  · obtain ⟨hlt, h93⟩ := hend
    have HV : Hid (Pl.Val d n i (k + 1)) := HI.out.close H91.out hlt (.inl h93)
    have hcx := hc k hlt
    rw [h93] at hcx
    clear h93 HI
    go_wp2
    go_ret2
    exact ⟨JAns.yes (k + 1) HV.out, 0, rfl⟩
  go_upto_region 3 with fail
  go_cut [24] from 9 (fun t w2 => w2 = w' ∧ t = .bool false)
  case first =>
    by_cases hlt : k < n
    · have hcx := hc k hlt
      have hb : (d k == 125) = false := beq_eq_false_iff_ne.2 (fun e => hend ⟨hlt, e⟩)
      clear hend
      go_wp2
      go_meet
      case rel => exact ⟨rfl, rfl⟩
    · clear hend
      go_wp2
      go_meet
      case rel => exact ⟨rfl, rfl⟩
  obtain ⟨rfl, rfl⟩ := hcut
  clear hend
  go_wp2_with fail
  go_loopw [1] (fun v wr => ∃ (k q : Nat), k ≤ n ∧ v = .int .i64 k ∧ wr = wc.drewN q ∧ Pl.Ins d n i k) (fun v _ => n - (intOf v).toNat)
  case atStart => exact ⟨k, 0, hkn, rfl, rfl, HI.out⟩
  case round =>
    clear HI hkn
    obtain ⟨k, q, hkn, rfl, rfl, hin⟩ := hrel
    have HI : Hid (Pl.Ins d n i k) := hin
    clear hin
    by_cases hlt0 : k < n
    case neg =>
      go_wp2
      go_ret2
      exact ⟨JAns.no _, q, rfl⟩
    have hc0 := hc k hlt0
    by_cases h34 : d k = 34
    case neg =>
      have hb : (d k != 34) = true := by rw [bne_iff_ne]; exact h34
      clear h34
      go_wp2
      go_ret2
      exact ⟨JAns.no _, q, rfl⟩
    have HVS : Hid (Pl.Val d n k (Pl.scan d n (k + 1))) := Pl.val_str d n k hlt0 h34
    have hb34 : (d k != 34) = false := by rw [h34]; rfl
    clear h34
    go_wp2_with fail
    refine (jpString_row b o n c d k _ hn hlt0 (hc.drewN q)).mono ?_
    rintro e w' ⟨⟨x, ok, rfl, hok⟩, rfl⟩
    clear hc0 hb34
    cases ok
    · clear hok
      go_wp2
      go_ret2
      exact ⟨JAns.no _, q, rfl⟩
    obtain ⟨m0, rfl, hm0⟩ := hok rfl
    rw [← hm0] at HVS
    have HI1 : Hid (Pl.Ins d n i m0) := HI.out.value HVS.out
    have hkm0 : k < m0 := HVS.out.1
    have hm0n : m0 ≤ n := HVS.out.2.1
    clear hok hm0 HVS HI
    go_wp2_with fail
    refine (jpSkip_row b o n c d m0 _ hn hm0n (hc.drewN q)).mono ?_
    rintro e w' ⟨⟨k1, rfl, hsk⟩, rfl⟩
    have HI2 : Hid (Pl.Ins d n i k1) := HI1.out.skip hsk
    have hmk1 : m0 ≤ k1 := hsk.1
    have hk1n : k1 ≤ n := hsk.2.1
    clear hsk HI1
    by_cases hlt1 : k1 < n
    case neg =>
      go_wp2
      go_ret2
      exact ⟨JAns.no _, q, rfl⟩
    have hc1 := hc k1 hlt1
    by_cases h58 : d k1 = 58
    case neg =>
      have hb : (d k1 != 58) = true := by rw [bne_iff_ne]; exact h58
      clear h58
      go_wp2
      go_ret2
      exact ⟨JAns.no _, q, rfl⟩
    have HI3 : Hid (Pl.Ins d n i (k1 + 1)) := HI2.out.sep hlt1 (.inr h58)
    have hb58 : (d k1 != 58) = false := by rw [h58]; rfl
    clear h58 HI2
    have H34 : ∀ w, Hid (Cells w b o n d → Calls Try.prog 34 #[.slice (some ⟨b, o, none⟩) n c, .int .i64 ((k1 : Int) + 1)] w fun e w' => (∃ k : Nat, e = .returned (.int .i64 k) ∧ Pl.Skp d n (k1 + 1) k) ∧ w' = w) := fun w h => jpSkip_row b o n c d (k1 + 1) w hn (by omega) h
    go_wp2_with fail
    refine ((H34 _).out (hc.drewN q)).mono ?_
    rintro e w' ⟨⟨k2, rfl, hsk⟩, rfl⟩
    have HI4 : Hid (Pl.Ins d n i k2) := HI3.out.skip hsk
    have hk12 : k1 + 1 ≤ k2 := hsk.1
    have hk2n : k2 ≤ n := hsk.2.1
    clear hsk HI3 hc1 hb58 H34
    go_wp2_with fail
    refine (hV k2 HI4.out.1 hk2n _ (hc.drewN q)).mono ?_
    rintro e w' ⟨⟨x, ok, rfl, hok⟩, ⟨q2, rfl⟩⟩
    cases ok
    · clear hok
      go_wp2
      go_ret2
      exact ⟨JAns.no _, q + q2, by simp⟩
    obtain ⟨m, rfl, hval⟩ := hok rfl
    have HI5 : Hid (Pl.Ins d n i m) := HI4.out.value hval
    have hkm : k2 < m := hval.1
    have hmn : m ≤ n := hval.2.1
    clear hok hval HI4
    go_wp2_with fail
    refine (jpSkip_row b o n c d m _ hn hmn (hc.drewN (q + q2))).mono ?_
    rintro e w' ⟨⟨k3, rfl, hsk⟩, rfl⟩
    have HI6 : Hid (Pl.Ins d n i k3) := HI5.out.skip hsk
    have hmk : m ≤ k3 := hsk.1
    have hk3n : k3 ≤ n := hsk.2.1
    clear hsk HI5
    by_cases hlt : k3 < n
    · have hcx := hc k3 hlt
      by_cases h93 : d k3 = 125
      · have HV : Hid (Pl.Val d n i (k3 + 1)) := HI6.out.close H91.out hlt (.inl h93)
        rw [h93] at hcx
        clear h93 HI6
        go_wp2
        go_ret2
        exact ⟨JAns.yes (k3 + 1) HV.out, q + q2, by simp⟩
      · have b93 : (d k3 == 125) = false := beq_eq_false_iff_ne.2 h93
        by_cases h44 : d k3 = 44
        · have HI7 : Hid (Pl.Ins d n i (k3 + 1)) := HI6.out.sep hlt (.inl h44)
          rw [h44] at hcx
          clear h44 h93 b93 HI6
          have H34 : ∀ w, Hid (Cells w b o n d → Calls Try.prog 34 #[.slice (some ⟨b, o, none⟩) n c, .int .i64 ((k3 : Int) + 1)] w fun e w' => (∃ k : Nat, e = .returned (.int .i64 k) ∧ Pl.Skp d n (k3 + 1) k) ∧ w' = w) := fun w h => jpSkip_row b o n c d (k3 + 1) w hn (by omega) h
          go_wp2_with fail
          refine ((H34 _).out (hc.drewN (q + q2))).mono ?_
          rintro e w' ⟨⟨k4, rfl, hsk⟩, rfl⟩
          have HI8 : Hid (Pl.Ins d n i k4) := HI7.out.skip hsk
          have hk4 : k3 + 1 ≤ k4 := hsk.1
          have hk4n : k4 ≤ n := hsk.2.1
          clear hsk HI7 H34
          go_wp2
          go_roundw
          case rel => exact ⟨k4, q + q2, hk4n, rfl, by simp, HI8.out⟩
          case measure => simp [intOf]; omega
        · have b44 : (d k3 != 44) = true := by rw [bne_iff_ne]; exact h44
          clear h44 h93 HI6
          go_wp2
          go_ret2
          exact ⟨JAns.no _, q + q2, by simp⟩
    · clear HI6
      go_wp2
      go_ret2
      exact ⟨JAns.no _, q + q2, by simp⟩

theorem small_true : Small ⟨#[116, 114, 117, 101]⟩ := by
  intro j h
  have h' : j < 4 := h
  match j, h' with
  | 0, _ => exact (show (97 : Int) ≤ 116 ∧ (116 : Int) ≤ 122 by omega)
  | 1, _ => exact (show (97 : Int) ≤ 114 ∧ (114 : Int) ≤ 122 by omega)
  | 2, _ => exact (show (97 : Int) ≤ 117 ∧ (117 : Int) ≤ 122 by omega)
  | 3, _ => exact (show (97 : Int) ≤ 101 ∧ (101 : Int) ≤ 122 by omega)
theorem small_false : Small ⟨#[102, 97, 108, 115, 101]⟩ := by
  intro j h
  have h' : j < 5 := h
  match j, h' with
  | 0, _ => exact (show (97 : Int) ≤ 102 ∧ (102 : Int) ≤ 122 by omega)
  | 1, _ => exact (show (97 : Int) ≤ 97 ∧ (97 : Int) ≤ 122 by omega)
  | 2, _ => exact (show (97 : Int) ≤ 108 ∧ (108 : Int) ≤ 122 by omega)
  | 3, _ => exact (show (97 : Int) ≤ 115 ∧ (115 : Int) ≤ 122 by omega)
  | 4, _ => exact (show (97 : Int) ≤ 101 ∧ (101 : Int) ≤ 122 by omega)
theorem small_null : Small ⟨#[110, 117, 108, 108]⟩ := by
  intro j h
  have h' : j < 4 := h
  match j, h' with
  | 0, _ => exact (show (97 : Int) ≤ 110 ∧ (110 : Int) ≤ 122 by omega)
  | 1, _ => exact (show (97 : Int) ≤ 117 ∧ (117 : Int) ≤ 122 by omega)
  | 2, _ => exact (show (97 : Int) ≤ 108 ∧ (108 : Int) ≤ 122 by omega)
  | 3, _ => exact (show (97 : Int) ≤ 108 ∧ (108 : Int) ≤ 122 by omega)

theorem jans_mono {P Q : Nat → Prop} {e : Ending} (h : JAns P e) (hpq : ∀ m, P m → Q m) : JAns Q e := by
  obtain ⟨x, ok, rfl, h⟩ := h
  exact ⟨x, ok, rfl, fun hk => by obtain ⟨m, h1, h2⟩ := h hk; exact ⟨m, h1, hpq m h2⟩⟩

set_option maxHeartbeats 4000000 in
set_option maxRecDepth 100000 in
theorem jpValue_step (b o n c : Nat) (d : Nat → Int) (i : Nat) (hn : n ≤ 1048576) (hi : i ≤ n) (hV : Later b o n c d i) : ValOk b o n c d i := by
  intro w hc
  by_cases hlt : i < n
  case neg =>
    go_enter Try.func15, Try.ntmps15
    go_wp2
    go_ret2
    exact ⟨JAns.no _, 0, rfl⟩
  have hcx := hc i hlt
  by_cases h34 : d i = 34
  · have hcall := jpString_row b o n c d i w hn hlt hc
    have H : Hid (Calls Try.prog 24 #[.slice (some ⟨b, o, none⟩) n c, .int .i64 i] w fun e w' => JAns (Pl.Val d n i) e ∧ Drw w w') := hcall.mono fun e w' h => ⟨jans_mono h.1 (fun m hm => by rw [hm]; exact Pl.val_str d n i hlt h34), 0, h.2⟩
    rw [h34] at hcx
    clear h34 hV hcall
    go_enter Try.func15, Try.ntmps15
    go_wp2_with fail
    refine H.out.mono ?_
    rintro e w' ⟨⟨x, ok, rfl, hok⟩, hd⟩
    have HO : Hid (ok = true → ∃ m : Nat, x = (m : Int) ∧ Pl.Val d n i m) := hok
    have HD : Hid (Drw w w') := hd
    clear hok hd H
    go_wp2
    go_ret2
    exact ⟨⟨x, ok, rfl, HO.out⟩, HD.out⟩
  have b34 : (d i == 34) = false := beq_eq_false_iff_ne.2 h34
  clear h34
  by_cases h123 : d i = 123
  · have H : Hid (Calls Try.prog 25 #[.slice (some ⟨b, o, none⟩) n c, .int .i64 i] w fun e w' => JAns (Pl.Val d n i) e ∧ Drw w w') := jpObject_row b o n c d i w hn hlt h123 hc hV
    rw [h123] at hcx b34
    clear h123 hV b34
    go_enter Try.func15, Try.ntmps15
    go_wp2_with fail
    refine H.out.mono ?_
    rintro e w' ⟨⟨x, ok, rfl, hok⟩, hd⟩
    have HO : Hid (ok = true → ∃ m : Nat, x = (m : Int) ∧ Pl.Val d n i m) := hok
    have HD : Hid (Drw w w') := hd
    clear hok hd H
    go_wp2
    go_ret2
    exact ⟨⟨x, ok, rfl, HO.out⟩, HD.out⟩
  have b123 : (d i == 123) = false := beq_eq_false_iff_ne.2 h123
  clear h123
  by_cases h91 : d i = 91
  · have H : Hid (Calls Try.prog 26 #[.slice (some ⟨b, o, none⟩) n c, .int .i64 i] w fun e w' => JAns (Pl.Val d n i) e ∧ Drw w w') := jpArray_row b o n c d i w hn hlt h91 hc hV
    rw [h91] at hcx b34 b123
    clear h91 hV b34 b123
    go_enter Try.func15, Try.ntmps15
    go_wp2_with fail
    refine H.out.mono ?_
    rintro e w' ⟨⟨x, ok, rfl, hok⟩, hd⟩
    have HO : Hid (ok = true → ∃ m : Nat, x = (m : Int) ∧ Pl.Val d n i m) := hok
    have HD : Hid (Drw w w') := hd
    clear hok hd H
    go_wp2
    go_ret2
    exact ⟨⟨x, ok, rfl, HO.out⟩, HD.out⟩
  have b91 : (d i == 91) = false := beq_eq_false_iff_ne.2 h91
  clear h91 hV
  by_cases h116 : d i = 116
  · have H : Hid (Calls Try.prog 27 #[.slice (some ⟨b, o, none⟩) n c, .int .i64 i, .string ⟨#[116, 114, 117, 101]⟩] w fun e w' => JAns (Pl.Val d n i) e ∧ Drw w w') := jpWord_row b o n c d i _ w hn hi (by decide) (by decide) small_true hc
    rw [h116] at hcx b34 b123 b91
    clear h116 b34 b123 b91
    go_enter Try.func15, Try.ntmps15
    go_wp2_with fail
    refine H.out.mono ?_
    rintro e w' ⟨⟨x, ok, rfl, hok⟩, hd⟩
    have HO : Hid (ok = true → ∃ m : Nat, x = (m : Int) ∧ Pl.Val d n i m) := hok
    have HD : Hid (Drw w w') := hd
    clear hok hd H
    go_wp2
    go_ret2
    exact ⟨⟨x, ok, rfl, HO.out⟩, HD.out⟩
  have b116 : (d i == 116) = false := beq_eq_false_iff_ne.2 h116
  clear h116
  by_cases h102 : d i = 102
  · have H : Hid (Calls Try.prog 27 #[.slice (some ⟨b, o, none⟩) n c, .int .i64 i, .string ⟨#[102, 97, 108, 115, 101]⟩] w fun e w' => JAns (Pl.Val d n i) e ∧ Drw w w') := jpWord_row b o n c d i _ w hn hi (by decide) (by decide) small_false hc
    rw [h102] at hcx b34 b123 b91 b116
    clear h102 b34 b123 b91 b116
    go_enter Try.func15, Try.ntmps15
    go_wp2_with fail
    refine H.out.mono ?_
    rintro e w' ⟨⟨x, ok, rfl, hok⟩, hd⟩
    have HO : Hid (ok = true → ∃ m : Nat, x = (m : Int) ∧ Pl.Val d n i m) := hok
    have HD : Hid (Drw w w') := hd
    clear hok hd H
    go_wp2
    go_ret2
    exact ⟨⟨x, ok, rfl, HO.out⟩, HD.out⟩
  have b102 : (d i == 102) = false := beq_eq_false_iff_ne.2 h102
  clear h102
  by_cases h110 : d i = 110
  · have H : Hid (Calls Try.prog 27 #[.slice (some ⟨b, o, none⟩) n c, .int .i64 i, .string ⟨#[110, 117, 108, 108]⟩] w fun e w' => JAns (Pl.Val d n i) e ∧ Drw w w') := jpWord_row b o n c d i _ w hn hi (by decide) (by decide) small_null hc
    rw [h110] at hcx b34 b123 b91 b116 b102
    clear h110 b34 b123 b91 b116 b102
    go_enter Try.func15, Try.ntmps15
    go_wp2_with fail
    refine H.out.mono ?_
    rintro e w' ⟨⟨x, ok, rfl, hok⟩, hd⟩
    have HO : Hid (ok = true → ∃ m : Nat, x = (m : Int) ∧ Pl.Val d n i m) := hok
    have HD : Hid (Drw w w') := hd
    clear hok hd H
    go_wp2
    go_ret2
    exact ⟨⟨x, ok, rfl, HO.out⟩, HD.out⟩
  have b110 : (d i == 110) = false := beq_eq_false_iff_ne.2 h110
  clear h110
  have H : Hid (Calls Try.prog 28 #[.slice (some ⟨b, o, none⟩) n c, .int .i64 i] w fun e w' => JAns (Pl.Val d n i) e ∧ w' = w) := jpNumber_row b o n c d i w hn hlt hc
  go_enter Try.func15, Try.ntmps15
  go_wp2_with fail
  refine H.out.mono ?_
  rintro e w' ⟨⟨x, ok, rfl, hok⟩, rfl⟩
  have HO : Hid (ok = true → ∃ m : Nat, x = (m : Int) ∧ Pl.Val d n i m) := hok
  clear hok H
  go_wp2
  go_ret2
  exact ⟨⟨x, ok, rfl, HO.out⟩, 0, rfl⟩

/-- jpValue, by induction on what is left. -/
theorem jpValue_any (b o n c : Nat) (d : Nat → Int) (hn : n ≤ 1048576) : ∀ m i, n - i ≤ m → i ≤ n → ValOk b o n c d i := by
  intro m
  induction m with
  | zero => intro i h hi; exact jpValue_step b o n c d i hn hi (fun k h1 h2 => by omega)
  | succ m ih => intro i h hi; exact jpValue_step b o n c d i hn hi (fun k h1 h2 => ih k (by omega) h2)
end Go.Proofs.Qxb6603727a
