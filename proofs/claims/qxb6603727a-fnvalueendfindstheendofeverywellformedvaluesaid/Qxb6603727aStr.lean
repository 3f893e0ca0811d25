/-
  SHARED WALKS: bytes.IndexByte, stringEnd.
-/
import Derived.Test.Qxb6603727aBase
namespace Go.Proofs.Qxb6603727a
open Go.RowKit
set_option linter.unusedVariables false

/-- Where the first byte x stands among d 0 .. d (n-1); -1: nowhere. -/
def First (d : Nat → Int) (n : Nat) (x r : Int) : Prop :=
  (r = -1 ∧ ∀ j, j < n → d j ≠ x) ∨ ∃ m : Nat, r = (m : Int) ∧ m < n ∧ d m = x ∧ ∀ j, j < m → d j ≠ x

theorem u8_eq (z x : Int) (hz : 0 ≤ z ∧ z ≤ 255) (hx : 0 ≤ x ∧ x ≤ 255) : (z.toNat.toUInt8 == x.toNat.toUInt8) = true ↔ z = x := by
  rw [beq_iff_eq]
  constructor
  · intro h
    have h2 := congrArg UInt8.toNat h
    simp at h2
    omega
  · intro h; rw [h]

theorem first_of (xs : List Int) (x : Int) (hx : 0 ≤ x ∧ x ≤ 255) (hd : ∀ z ∈ xs, 0 ≤ z ∧ z ≤ 255) : First (fun i => xs.getD i 0) xs.length x (Lib.indexByte (Lib.bytesOf xs) x.toNat.toUInt8) := by
  induction xs with
  | nil => left; exact ⟨rfl, fun j hj => by simp at hj⟩
  | cons z l ih =>
    have hz := hd z (by simp)
    have ih := ih (fun y hy => hd y (by simp [hy]))
    have e := u8_eq z x hz hx
    by_cases h : z = x
    · right
      refine ⟨0, ?_, by simp, by simpa using h, fun j hj => by omega⟩
      simp [Lib.bytesOf, Lib.indexByte, e.2 h]
    · have e2 : (z.toNat.toUInt8 == x.toNat.toUInt8) = false := by
        cases hb : (z.toNat.toUInt8 == x.toNat.toUInt8)
        · rfl
        · exact absurd (e.1 hb) h
      have e3 : Lib.indexByte (Lib.bytesOf (z :: l)) x.toNat.toUInt8 = if Lib.indexByte (Lib.bytesOf l) x.toNat.toUInt8 == -1 then -1 else Lib.indexByte (Lib.bytesOf l) x.toNat.toUInt8 + 1 := by
        show (if (z.toNat.toUInt8 == x.toNat.toUInt8) then _ else _) = _
        rw [e2]; rfl
      rcases ih with ⟨h1, h2⟩ | ⟨m, h1, h2, h3, h4⟩
      · left
        refine ⟨by rw [e3, h1]; rfl, fun j hj => ?_⟩
        cases j with
        | zero => simpa using h
        | succ j => have := h2 j (by simpa using hj); simpa using this
      · right
        refine ⟨m + 1, ?_, by simpa using h2, by simpa using h3, fun j hj => ?_⟩
        · rw [e3, h1]
          have : ((m : Int) == -1) = false := by rw [beq_eq_false_iff_ne]; omega
          rw [this]; simp
        · cases j with
          | zero => simpa using h
          | succ j => have := h4 j (by omega); simpa using this

/-- bytes.IndexByte. -/
theorem indexByte_row (b o n c : Nat) (d : Nat → Int) (x : Int) (w : World) (hx : 0 ≤ x ∧ x ≤ 255)
    (hc : ∀ i, i < n → w.cell? ⟨b, o + i, none⟩ = some (.int .u8 (d i))) (hd : ∀ j, j < n → 0 ≤ d j ∧ d j ≤ 255) :
    Calls Try.prog 32 #[.slice (some ⟨b, o, none⟩) n c, .int .u8 x] w fun e w' => (∃ r, e = .returned (.int .i64 r) ∧ First d n x r) ∧ w' = w := by
  have hl : ((List.range n).map d).length = n := by simp
  have hg : ∀ i, i < n → ((List.range n).map d).getD i 0 = d i := fun i hi => by simp [hi]
  have hf := first_of ((List.range n).map d) x hx (fun z hz => by
    obtain ⟨j, hj, rfl⟩ := List.mem_map.1 hz
    exact hd j (by simpa using hj))
  have hf' : First d n x (Lib.indexByte (Lib.bytesOf ((List.range n).map d)) x.toNat.toUInt8) := by
    rw [hl] at hf
    rcases hf with ⟨h1, h2⟩ | ⟨m, h1, h2, h3, h4⟩
    · exact .inl ⟨h1, fun j hj => by have := h2 j hj; simp only [hg j hj] at this; exact this⟩
    · refine .inr ⟨m, h1, h2, by simp only [hg m h2] at h3; exact h3, fun j hj => by have := h4 j hj; simp only [hg j (by omega)] at this; exact this⟩
  have hrun := Lib.run_indexByteSlice (P := Try.prog) w b o n c ((List.range n).map d) hl (fun i hi => by rw [hg i hi]; exact hc i hi) x
  have HF : Hid (First d n x (Lib.indexByte (Lib.bytesOf ((List.range n).map d)) x.toNat.toUInt8)) := hf'
  clear hf hf' hg hl hc hd hx
  generalize Lib.indexByte (Lib.bytesOf ((List.range n).map d)) x.toNat.toUInt8 = r at HF hrun
  go_enter Try.func32, Try.ntmps32
  go_wp2
  rw [run_callFunc_extern Try.func39 (by kernel_rfl) (by kernel_rfl) (by kernel_rfl) (e := Extern.BytealgIndexByte.indexByte) (by kernel_rfl), hrun]
  simp only [Result.andThen]
  rw [Oper.upon_value]
  go_wp2
  go_ret
  exact ⟨⟨r, rfl, HF.out⟩, rfl⟩

/-! ### stringEnd -/
theorem ret_int {k : IntKind} {a b : Int} (h : a = b) : Ending.returned (.int k a) = .returned (.int k b) := by rw [h]
theorem ret_nat {a b : Nat} (h : a = b) : Ending.returned (.int .i64 (a : Int)) = .returned (.int .i64 (b : Int)) := by rw [h]
/-- One step of the backward count. -/
theorem esc_back (d : Nat → Int) (i j : Nat) (x t : Bool) (hij : i < j) (h : d j = 92) (hx : (x ^^ Pl.esc d (i + 1) (j - i)) = t) : (!x ^^ Pl.esc d (i + 1) (j - 1 - i)) = t := by
  have e : j - i = (j - 1 - i) + 1 := by omega
  rw [e, Pl.esc_yes d (i + 1) (j - 1 - i) (by rw [show i + 1 + (j - 1 - i) = j by omega]; exact h)] at hx
  rw [← hx]; cases x <;> simp
theorem esc_stop (d : Nat → Int) (i j : Nat) (x t : Bool) (hij : i ≤ j) (h : i = j ∨ d j ≠ 92) (hx : (x ^^ Pl.esc d (i + 1) (j - i)) = t) : x = t := by
  have e : Pl.esc d (i + 1) (j - i) = false := by
    by_cases hj : i = j
    · subst hj; rw [Nat.sub_self]; rfl
    · have h' : d j ≠ 92 := by rcases h with h | h; exact absurd h hj; exact h
      rw [show j - i = (j - 1 - i) + 1 by omega]
      exact Pl.esc_no d (i + 1) (j - 1 - i) (by rw [show i + 1 + (j - 1 - i) = j by omega]; exact h')
  rw [e] at hx; simpa using hx
/-- The count down to the string's own opening is the count down to where the search began. -/
theorem esc_same (d : Nat → Int) (i k m : Nat) (hik : i ≤ k) (h : k = i ∨ d k ≠ 92) : Pl.esc d (i + 1) (k + m - i) = Pl.esc d (k + 1) m := by
  by_cases e : k = i
  · subst e; rw [show k + m - k = m by omega]
  · have h' : d k ≠ 92 := by rcases h with h | h; exact absurd h e; exact h
    have := Pl.esc_lower d (i + 1) (k - i - 1) m (by rw [show i + 1 + (k - i - 1) = k by omega]; exact h')
    rw [show k - i - 1 + 1 + m = k + m - i by omega, show i + 1 + (k - i - 1) + 1 = k + 1 by omega] at this
    exact this

set_option maxHeartbeats 1000000 in
theorem stringEnd_row (b o n c : Nat) (d : Nat → Int) (i : Nat) (w : World) (hn : n ≤ 2097152) (hcap : n ≤ c) (hcm : c ≤ 2097152) (hi : i < n)
    (hc : ∀ j, j < n → w.cell? ⟨b, o + j, none⟩ = some (.int .u8 (d j))) (hd : ∀ j, j < n → 0 ≤ d j ∧ d j ≤ 255) :
    Calls Try.prog 23 #[.slice (some ⟨b, o, none⟩) n c, .int .i64 i] w fun e w' => e = .returned (.int .i64 (Pl.scan d n (i + 1) : Nat)) ∧ w' = w := by
  go_enter Try.func23, Try.ntmps23
  go_wp2
  go_loop [1] (fun v => ∃ k : Nat, i ≤ k ∧ k < n ∧ v = .int .i64 k ∧ Pl.scan d n (k + 1) = Pl.scan d n (i + 1) ∧ (k = i ∨ d k ≠ 92)) (fun v => n - (intOf v).toNat)
  case atStart => exact ⟨i, Nat.le_refl _, hi, rfl, rfl, .inl rfl⟩
  case round =>
    obtain ⟨k, hik, hkn, rfl, hs, hk92⟩ := hrel
    have HS : Hid (Pl.scan d n (k + 1) = Pl.scan d n (i + 1)) := hs
    have HK : Hid (k = i ∨ d k ≠ 92) := hk92
    clear hs hk92
    by_cases hlt : k + 1 < n
    · have hcs : ∀ j, j < n - (k + 1) → w.cell? ⟨b, o + (k + 1) + j, none⟩ = some (.int .u8 (d (k + 1 + j))) := fun j hj => by
        rw [show o + (k + 1) + j = o + (k + 1 + j) by omega]; exact hc _ (by omega)
      go_wp2_with fail
      refine (indexByte_row b (o + (k + 1)) (n - (k + 1)) (c - (k + 1)) (fun j => d (k + 1 + j)) 34 w (by omega) hcs (fun j hj => hd _ (by omega))).mono ?_
      rintro e w' ⟨⟨r, rfl, hr⟩, rfl⟩
      clear hcs
      rcases hr with ⟨rfl, hno⟩ | ⟨m, rfl, hm, h34, hno⟩
      · have HN : Hid (Pl.scan d n (i + 1) = n) := by
          rw [← HS.out]
          refine Pl.scan_none d n (k + 1) (fun j h1 h2 => ?_)
          have := hno (j - (k + 1)) (by omega)
          simp only at this
          rwa [show k + 1 + (j - (k + 1)) = j by omega] at this
        clear hno
        go_wp2
        go_ret
        exact ⟨ret_nat HN.out.symm, rfl⟩
      · have hrun := Pl.scan_run d n (k + 1) m (by omega) h34 (fun j h1 h2 => by
          have := hno (j - (k + 1)) (by omega)
          simp only at this
          rwa [show k + 1 + (j - (k + 1)) = j by omega] at this)
        rw [HS.out] at hrun
        rw [← esc_same d i k m hik HK.out] at hrun
        have HR : Hid (Pl.scan d n (i + 1) = if Pl.esc d (i + 1) (k + m - i) = true then Pl.scan d n (k + 1 + m + 1) else k + 1 + m + 1) := hrun
        have H34 : Hid (d (k + 1 + m) = 34) := h34
        have hmn : k + 1 + m < n := by omega
        clear hrun h34 hno HS HK
        go_wp2_with fail
        go_loop [7, 8] (fun e v => ∃ (j : Nat) (x : Bool), i ≤ j ∧ j ≤ k + m ∧ v = .int .i64 j ∧ e = .bool x ∧ (x ^^ Pl.esc d (i + 1) (j - i)) = Pl.esc d (i + 1) (k + m - i)) (fun _ v => (intOf v).toNat)
        case atStart => exact ⟨k + m, false, by omega, Nat.le_refl _, by go_num, rfl, by simp⟩
        case round =>
          obtain ⟨j, x, hij, hjm, rfl, rfl, hx⟩ := hrel
          have HX : Hid ((x ^^ Pl.esc d (i + 1) (j - i)) = Pl.esc d (i + 1) (k + m - i)) := hx
          clear hx
          by_cases hgo : i < j ∧ d j = 92
          · obtain ⟨hlj, h92⟩ := hgo
            have HN := esc_back d i j x _ hlj h92 HX.out
            have H2 : Hid ((!x ^^ Pl.esc d (i + 1) (j - 1 - i)) = Pl.esc d (i + 1) (k + m - i)) := HN
            have hcj := hc j (by omega)
            rw [h92] at hcj
            clear HN h92 HX hd hc
            go_wp2
            go_round
            case rel => exact ⟨j - 1, !x, by omega, by omega, by go_num, rfl, H2.out⟩
            case measure => simp [intOf]; omega
          · have HT : Hid (x = Pl.esc d (i + 1) (k + m - i)) := esc_stop d i j x _ hij (by omega) HX.out
            clear HX
            by_cases hlj : i < j
            · have hcj := hc j (by omega)
              have hne : (d j == 92) = false := beq_eq_false_iff_ne.2 (by omega)
              have HG : Hid (¬ (i < j ∧ d j = 92)) := hgo
              clear hgo hc hd
              cases x
              · go_wp2
                go_ret
                exact ⟨ret_int (by rw [HR.out, ← HT.out]; simp; omega), rfl⟩
              · go_wp2
                go_round
                case rel => exact ⟨k + 1 + m, by omega, hmn, by go_num, by rw [HR.out, ← HT.out]; simp, .inr (by rw [H34.out]; decide)⟩
                case measure => simp [intOf]; omega
            · clear hgo hc hd
              cases x
              · go_wp2
                go_ret
                exact ⟨ret_int (by rw [HR.out, ← HT.out]; simp; omega), rfl⟩
              · go_wp2
                go_round
                case rel => exact ⟨k + 1 + m, by omega, hmn, by go_num, by rw [HR.out, ← HT.out]; simp, .inr (by rw [H34.out]; decide)⟩
                case measure => simp [intOf]; omega
    · have HN : Hid (Pl.scan d n (i + 1) = n) := by
        rw [← HS.out]; exact Pl.scan_ge d n (k + 1) hlt
      clear hc hd HS
      go_wp2
      go_ret
      exact ⟨ret_nat HN.out.symm, rfl⟩

/-- At the end of the bytes: that end. -/
theorem stringEnd_end (a : Option Addr) (n c : Nat) (w : World) (hn : n ≤ 2097152) :
    Calls Try.prog 23 #[.slice a n c, .int .i64 n] w fun e w' => e = .returned (.int .i64 n) ∧ w' = w := by
  go_enter Try.func23, Try.ntmps23
  go_wp2
  go_loop [1] (fun v => v = .int .i64 n) (fun v => 0)
  case atStart => rfl
  case round =>
    subst hrel
    go_wp2
    go_ret
    exact ⟨rfl, rfl⟩

/-- WHAT THE WALKS ARE TOLD OF A ROW OF BYTES. -/
def Row (w : World) (a : Option Addr) (n : Nat) (d : Nat → Int) : Prop :=
  n = 0 ∨ ∃ b o, a = some ⟨b, o, none⟩ ∧ ∀ j, j < n → w.cell? ⟨b, o + j, none⟩ = some (.int .u8 (d j))

theorem Row.cut {w : World} {a : Option Addr} {n m : Nat} {d : Nat → Int} (h : Row w a n d) (hm : m ≤ n) : Row w a m d := by
  rcases h with h | ⟨b, o, h1, h2⟩
  · exact .inl (by omega)
  · exact .inr ⟨b, o, h1, fun j hj => h2 j (by omega)⟩

theorem Row.congr {w : World} {a : Option Addr} {n : Nat} {d d' : Nat → Int} (h : Row w a n d) (hd : ∀ j, j < n → d j = d' j) : Row w a n d' := by
  rcases h with h | ⟨b, o, h1, h2⟩
  · exact .inl h
  · exact .inr ⟨b, o, h1, fun j hj => by rw [← hd j hj]; exact h2 j hj⟩

theorem cell_lt {w : World} {p : Addr} {v : Value} (h : w.cell? p = some v) : p.block < w.heap.size := by
  by_cases hp : p.block < w.heap.size
  · exact hp
  · have hb : w.heap[p.block]? = none := Array.getElem?_eq_none_iff.2 (by omega)
    simp [World.cell?, hb] at h

theorem Row.below {w w' : World} {a : Option Addr} {n : Nat} {d : Nat → Int} (h : Row w a n d) (hb : Below w.heap.size w w') : Row w' a n d := by
  rcases h with h | ⟨b, o, h1, h2⟩
  · exact .inl h
  · exact .inr ⟨b, o, h1, fun j hj => (hb.cell (cell_lt (h2 j hj))).trans (h2 j hj)⟩

/-- stringEnd, whatever the row. -/
theorem stringEnd_any (a : Option Addr) (n c : Nat) (d : Nat → Int) (i : Nat) (w : World) (hn : n ≤ 2097152) (hcap : n ≤ c) (hcm : c ≤ 2097152) (hi : i ≤ n)
    (hr : Row w a n d) (hd : ∀ j, j < n → 0 ≤ d j ∧ d j ≤ 255) :
    Calls Try.prog 23 #[.slice a n c, .int .i64 i] w fun e w' => e = .returned (.int .i64 (Pl.scan d n (i + 1) : Nat)) ∧ w' = w := by
  by_cases h : i < n
  · rcases hr with h0 | ⟨b, o, rfl, hc⟩
    · omega
    · exact stringEnd_row b o n c d i w hn hcap hcm h hc hd
  · have e : i = n := by omega
    subst e
    rw [Pl.scan_ge d i (i + 1) (by omega)]
    exact stringEnd_end a i c w hn

/-- ZZstringEnd is stringEnd. -/
theorem zzStringEnd_any (a : Option Addr) (n c : Nat) (d : Nat → Int) (i : Nat) (w : World) (hn : n ≤ 2097152) (hcap : n ≤ c) (hcm : c ≤ 2097152) (hi : i ≤ n)
    (hr : Row w a n d) (hd : ∀ j, j < n → 0 ≤ d j ∧ d j ≤ 255) :
    Calls Try.prog 11 #[.slice a n c, .int .i64 i] w fun e w' => e = .returned (.int .i64 (Pl.scan d n (i + 1) : Nat)) ∧ w' = w := by
  have h := stringEnd_any a n c d i w hn hcap hcm hi hr hd
  have H : Hid (Calls Try.prog 23 #[.slice a n c, .int .i64 i] w fun e w' => e = .returned (.int .i64 (Pl.scan d n (i + 1) : Nat)) ∧ w' = w) := h
  clear h hr hd
  go_enter Try.func11, Try.ntmps11
  go_wp2_with fail
  refine H.out.mono ?_
  rintro e w' ⟨rfl, rfl⟩
  clear H
  go_wp2
  go_ret
  exact ⟨rfl, rfl⟩

/-- zqForwardStringEnd. -/
theorem forward_any (a : Option Addr) (n c : Nat) (d : Nat → Int) (i : Nat) (w : World) (hn : n ≤ 2097152) (hi : i ≤ n) (hr : Row w a n d) :
    Calls Try.prog 12 #[.slice a n c, .int .i64 i] w fun e w' => e = .returned (.int .i64 (Pl.scan d n (i + 1) : Nat)) ∧ w' = w := by
  have key : ∀ a, (n = 0 ∨ ∃ b o, a = some (⟨b, o, none⟩ : Addr) ∧ ∀ j, j < n → w.cell? ⟨b, o + j, none⟩ = some (.int .u8 (d j))) → Calls Try.prog 12 #[.slice a n c, .int .i64 i] w fun e w' => e = .returned (.int .i64 (Pl.scan d n (i + 1) : Nat)) ∧ w' = w := by
    intro a hr
    by_cases h : i < n
    · rcases hr with h0 | ⟨b, o, rfl, hc⟩
      · omega
      go_enter Try.func12, Try.ntmps12
      go_wp2
      go_loop [6] (fun v => ∃ k : Nat, k ≤ n + 1 ∧ v = .int .i64 k ∧ Pl.scan d n k = Pl.scan d n (i + 1)) (fun v => n + 2 - (intOf v).toNat)
      case atStart => exact ⟨i + 1, by omega, by go_num, rfl⟩
      case round =>
        obtain ⟨k, hk, rfl, hs⟩ := hrel
        have HS : Hid (Pl.scan d n k = Pl.scan d n (i + 1)) := hs
        clear hs
        by_cases hlt : k < n
        · have hcx := hc k hlt
          by_cases h92 : d k = 92
          · have H2 : Hid (Pl.scan d n (k + 2) = Pl.scan d n (i + 1)) := by rw [← Pl.scan_bs d n k hlt h92]; exact HS.out
            rw [h92] at hcx
            clear hc HS h92
            go_wp2
            go_round
            case rel => exact ⟨k + 2, by omega, by go_num, H2.out⟩
            case measure => simp [intOf]; omega
          · by_cases h34 : d k = 34
            · have H2 : Hid (k + 1 = Pl.scan d n (i + 1)) := (Pl.scan_q d n k hlt h34).symm.trans HS.out
              rw [h34] at hcx
              clear hc HS h34 h92
              go_wp2
              go_ret
              exact ⟨ret_int (by rw [← H2.out]; simp), rfl⟩
            · have H2 : Hid (Pl.scan d n (k + 1) = Pl.scan d n (i + 1)) := by rw [← Pl.scan_o d n k hlt h92 h34]; exact HS.out
              have e1 : (d k == 92) = false := beq_eq_false_iff_ne.2 h92
              have e2 : (d k == 34) = false := beq_eq_false_iff_ne.2 h34
              clear hc HS h34 h92
              go_wp2
              go_round
              case rel => exact ⟨k + 1, by omega, by go_num, H2.out⟩
              case measure => simp [intOf]; omega
        · have H2 : Hid (n = Pl.scan d n (i + 1)) := by rw [← HS.out]; exact (Pl.scan_ge d n k hlt).symm
          clear hc HS
          go_wp2
          go_ret
          exact ⟨ret_nat H2.out, rfl⟩
    · have e : i = n := by omega
      subst e
      clear hr
      rw [Pl.scan_ge d i (i + 1) (by omega)]
      go_enter Try.func12, Try.ntmps12
      go_wp2
      go_loop [6] (fun v => v = .int .i64 (i + 1 : Nat)) (fun v => 0)
      case atStart => go_num
      case round =>
        subst hrel
        go_wp2
        go_ret
        exact ⟨rfl, rfl⟩
  exact key a hr

/-- WHAT THE WALK IS TOLD OF A SLICE OF INTEGERS THAT CAME IN (the shells' own words). -/
def IsRow (k : IntKind) (w : World) (a : Option Addr) (len cap : Nat) (zs : List Int) : Prop :=
  (a = none ∧ len = 0 ∧ cap = 0 ∧ zs = []) ∨
  ∃ x, a = some x ∧ len ≤ cap ∧ cap ≤ maxLen ∧ zs.length = cap ∧ (∀ i, i < zs.length → w.cell? (x.add i) = some (.int k (zs.getD i 0))) ∧ ∀ n ∈ zs, (Lit.int k n).wf = true

/-- The bytes of such a slice. -/
def by8 (zs : List Int) (j : Nat) : Int := zs.getD j 0

theorem IsRow.byte {w : World} {a : Option Addr} {n c : Nat} {zs : List Int} (h : IsRow .u8 w a n c zs) (j : Nat) : 0 ≤ by8 zs j ∧ by8 zs j ≤ 255 := by
  have hw : ∀ n ∈ zs, (Lit.int .u8 n).wf = true := by
    rcases h with ⟨_, _, _, rfl⟩ | ⟨x, _, _, _, _, _, hw⟩
    · intro n hn; simp at hn
    · exact hw
  unfold by8
  by_cases hj : j < zs.length
  · have e : zs.getD j 0 = zs[j] := by simp [List.getD, hj]
    rw [e]
    have := hw zs[j] (List.getElem_mem hj)
    simp [Lit.wf, IntKind.min, IntKind.max, IntKind.signed, IntKind.bits] at this
    omega
  · have e : zs.getD j 0 = 0 := by simp [List.getD, List.getElem?_eq_none_iff.2 (by omega : zs.length ≤ j)]
    omega

/-- zqClone, whatever came in. -/
theorem clone_any {w : World} {a : Option Addr} {n c : Nat} {zs : List Int} (h : IsRow .u8 w a n c zs) (hn : n ≤ 1048576) :
    Calls Try.prog 10 #[.slice a n c] w fun e w' => (∃ a', e = .returned (.slice a' n n) ∧ Row w' a' n (by8 zs)) ∧ Below w.heap.size w w' := by
  rcases h with ⟨rfl, rfl, rfl, rfl⟩ | ⟨x, rfl, hl, hm, hz, hc, hw⟩
  · refine (clone_nil w).mono ?_
    rintro e w' ⟨rfl, rfl⟩
    exact ⟨⟨none, rfl, .inl rfl⟩, Below.refl _ _⟩
  · by_cases h0 : n = 0
    · subst h0
      refine (clone_empty x c w).mono ?_
      rintro e w' ⟨rfl, hb⟩
      exact ⟨⟨_, rfl, .inl rfl⟩, hb⟩
    · obtain ⟨b, off, spot⟩ := x
      have hspot : spot = none := by simpa [Addr.add] using World.cell?_spot (hc 0 (by omega))
      subst hspot
      have hc' : ∀ j, j < n → w.cell? ⟨b, off + j, none⟩ = some (.int .u8 (by8 zs j)) := fun j hj => by
        have e : (⟨b, off, none⟩ : Addr).add j = ⟨b, off + j, none⟩ := by unfold Addr.add; split <;> simp_all
        rw [← e]; exact hc j (by omega)
      refine (clone_row b off n c (by8 zs) w hn (fun h => cell_lt (hc' 0 h)) hc').mono ?_
      rintro e w' ⟨rfl, ⟨f, hf, hfd⟩, hb⟩
      refine ⟨⟨_, rfl, .inr ⟨w.heap.size, 0, rfl, fun j hj => ?_⟩⟩, hb⟩
      rw [Nat.zero_add, hf.cell j hj, hfd j hj]
end Go.Proofs.Qxb6603727a
