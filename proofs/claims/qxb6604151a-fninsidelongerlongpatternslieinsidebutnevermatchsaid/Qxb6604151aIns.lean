/-
  SHARED WALKS: insideLonger.
-/
import Derived.Test.Qxb6604151aCnt
import Derived.Lib.SlBytesConst
namespace Go.Proofs.Qxb6604151a
open Go.RowKit
set_option linter.unusedVariables false

/-- The pair 'ab', over and over. -/
def abF (j : Nat) : Int := if j % 2 = 0 then 97 else 98
/-- A block: 'd', then 'ab' over and over. -/
def blkF (j : Nat) : Int := if j = 0 then 100 else abF (j - 1)

/-- A slice value whose n bytes are f. -/
def Sl (w : World) (v : Value) (n : Nat) (f : Nat → Int) : Prop := ∃ b cap, v = .slice (some ⟨b, 0, none⟩) n cap ∧ ∀ j, j < n → w.cell? ⟨b, j, none⟩ = some (.int .u8 (f j))
theorem Sl.below {w w' : World} {v : Value} {n : Nat} {f : Nat → Int} (h : Sl w v n f) (hb : Below w.heap.size w w') : Sl w' v n f := by
  obtain ⟨b, cap, h1, h2⟩ := h
  exact ⟨b, cap, h1, fun j hj => (hb.cell (cell_lt (h2 j hj))).trans (h2 j hj)⟩

theorem append_two (xs : List Value) (f g h : Nat → Int) (n m : Nat) (hx : xs = rowOf f n ++ rowOf g m) (h1 : ∀ j, j < n → h j = f j) (h2 : ∀ j, j < m → h (n + j) = g j) : xs = rowOf h (n + m) := by
  subst hx
  apply List.ext_getElem?
  intro j
  by_cases hj : j < n
  · rw [List.getElem?_append_left (by rw [rowOf_len]; exact hj), rowOf_get f n j hj, rowOf_get h (n + m) j (by omega), h1 j hj]
  · rw [List.getElem?_append_right (by rw [rowOf_len]; omega), rowOf_len]
    by_cases hm : j < n + m
    · rw [rowOf_get g m _ (by omega), rowOf_get h _ j hm]
      have := h2 (j - n) (by omega)
      rw [show n + (j - n) = j by omega] at this
      rw [this]
    · rw [List.getElem?_eq_none_iff.2 (by rw [rowOf_len]; omega), List.getElem?_eq_none_iff.2 (by rw [rowOf_len]; omega)]

theorem conv_const (w : World) (C : Array Value) (n c b : Nat) (h : b = w.heap.size) : (convert 22 22 (.slice (some ⟨b, 0, none⟩) n c)).run Try.prog (w.alloc (.cells C 5)) = .ok (.slice (some ⟨b, 0, none⟩) n c) (w.alloc (.cells C 5 (C.size, C.size + 1))) := by
  subst h
  exact Lib.run_convert_bytes_const (P := Try.prog) w 22 5 C n c Try.underlying22 Try.underlying5

theorem cell_new (w : World) (C : Array Value) (fr : Nat × Nat) (t b j : Nat) (h : b = w.heap.size) : (w.alloc (.cells C t fr)).cell? ⟨b, j, none⟩ = C[j]? := by
  subst h
  exact cell_of_row _ w.heap.size j C t fr (heap_alloc_new w _)
theorem cell_old (w : World) (o : Obj) (b j : Nat) (v : Value) (h : w.cell? ⟨b, j, none⟩ = some v) : (w.alloc o).cell? ⟨b, j, none⟩ = some v :=
  (Below.cell ((Below.refl w.heap.size w).alloc (Nat.le_refl _) o) (cell_lt h)).trans h

/-- A slice that is the call's own, or has no room left. -/
def Bk (w : World) (base : Nat) (v : Value) (n : Nat) (xs : List Value) : Prop :=
  w.ownsRow base 5 1 v n xs ∨ (∃ b cap, v = .slice (some ⟨b, 0, none⟩) n cap ∧ cap = n ∧ base ≤ b ∧ xs.length = n ∧ ∀ j u, xs[j]? = some u → w.cell? ⟨b, j, none⟩ = some u)

theorem owns_base {w : World} {base base' : Nat} {e : TypeId} {size : Nat} {v : Value} {n : Nat} {xs : List Value} (h : w.ownsRow base e size v n xs) (hb : base' ≤ base) : w.ownsRow base' e size v n xs := by
  obtain ⟨h1, h2⟩ := h
  refine ⟨h1, ?_⟩
  rcases h2 with h2 | ⟨g, cap, cur, a, b, r⟩
  · exact .inl h2
  · exact .inr ⟨g, cap, cur, a, Nat.le_trans hb b, r⟩

/-- What such a slice reads. -/
theorem Bk.sl {w : World} {base : Nat} {v : Value} {n : Nat} {f : Nat → Int} (h : Bk w base v n (rowOf f n)) (hn : 1 ≤ n) :
    ∃ g cap, v = .slice (some ⟨g, 0, none⟩) n cap ∧ base ≤ g ∧ g < w.heap.size ∧ ∀ j, j < n → w.cell? ⟨g, j, none⟩ = some (.int .u8 (f j)) := by
  rcases h with h | ⟨b, cap, h1, h2, h3, h4, h5⟩
  · rcases h.2 with ⟨_, h0⟩ | ⟨g, cap, cur, rfl, hg, hh, _⟩
    · omega
    · have hc : ∀ j, j < n → w.cell? ⟨g, j, none⟩ = some (.int .u8 (f j)) := fun j hj => by
        rw [World.ownsRow.cellAt h j (by omega), rowOf_get f n j hj]
      exact ⟨g, cap, rfl, hg, cell_lt (hc 0 (by omega)), hc⟩
  · have hc : ∀ j, j < n → w.cell? ⟨b, j, none⟩ = some (.int .u8 (f j)) := fun j hj => h5 j _ (rowOf_get f n j hj)
    exact ⟨b, cap, h1, h3, cell_lt (hc 0 (by omega)), hc⟩

theorem Bk.below {w w' : World} {base : Nat} {v : Value} {n : Nat} {xs : List Value} (h : Bk w base v n xs) (hb : Below w.heap.size w w') : Bk w' base v n xs := by
  rcases h with h | ⟨b, cap, h1, h2, h3, h4, h5⟩
  · refine .inl ⟨h.1, ?_⟩
    rcases h.2 with h2 | ⟨g, cap, cur, a, hg, hh, r⟩
    · exact .inl h2
    · refine .inr ⟨g, cap, cur, a, hg, ?_, r⟩
      have hlt : g < w.heap.size := by
        by_cases hp : g < w.heap.size
        · exact hp
        · rw [Array.getElem?_eq_none_iff.2 (by omega)] at hh; cases hh
      rw [hb.block g hlt]; exact hh
  · exact .inr ⟨b, cap, h1, h2, h3, h4, fun j u hj => (hb.cell (cell_lt (h5 j u hj))).trans (h5 j u hj)⟩

/-- 'append' onto such a slice. -/
theorem append_bk (w : World) {ops : Array Oper} {rest : List Oper} {o : Oper} {a : Act} {Q : Exit → Act → World → Prop} (hgd : o.guard = none) (s x : Operand)
    (ho : o.op = .call { callee := .builtin .append, args := #[s, x], argTypes := #[22, 22] }) (i0 : TypeInfo) (hi : Try.prog.info? 5 = some i0) (hz0 : i0.zero = some (.int .u8 0)) (hz1 : i0.size = 1) (hz2 : i0.bytes = 1)
    (base : Nat) (hbase : base ≤ w.heap.size) (v : Value) (n : Nat) (xs : List Value) (hs : a.eval s = v) (hbk : Bk w base v n xs)
    (ad : Addr) (m c : Nat) (news : List Value) (hx : a.eval x = .slice (some ad) m c) (hl : news.length = m) (hnews : ∀ j u, news[j]? = some u → w.cell? (ad.add j) = some u) (h1 : ∀ u ∈ news, u.oneCell' = true)
    (hm : 1 ≤ m) (hmax : n + m ≤ 1000000000)
    (h : ∀ v' w', w'.ownsRow base 5 1 v' (n + m) (xs ++ news) → w.grownBy w' v.ownBlock → wpList Try.prog ops Q rest (a.put o.dst v') w') : wpList Try.prog ops Q (o :: rest) a w := by
  rcases hbk with hbk | ⟨b, cap, h1', h2', h3', h4', h5'⟩
  · exact wpList_append_own w hgd s x 22 ho base 5 i0 (.int .u8 0) 1 1 Try.underlying22 hi hz0 hz1 hz2 rfl (by decide) v n xs hs hbk ad m c news hx (by omega) hnews h1 (by unfold maxLen; omega) (by omega) hbase (fun v' w' a b _ => h v' w' a b)
  · subst h1'
    refine wpList_append_grows w hgd s x 22 ho 5 i0 (.int .u8 0) 1 1 Try.underlying22 hi hz0 hz1 hz2 rfl (by decide) (some ⟨b, 0, none⟩) n cap xs hs (fun h => by cases h) (by omega) (fun b' hb' j u hj => ?_) ad m c news hx (by omega) hnews h1 (by omega) (by unfold maxLen; omega) (by omega) (fun v' w' a b => h v' w' (owns_base a hbase) ⟨b.os, b.tape, b.output, b.size, fun k hk _ => b.block k hk (by simp)⟩)
    obtain rfl := Option.some.inj hb'
    have e : (⟨b, 0, none⟩ : Addr).add j = ⟨b, j, none⟩ := by unfold Addr.add; split <;> simp_all
    rw [e]; exact h5' j u hj

/-- How many blocks are asked for, and how long they are together. -/
theorem q_facts (m : Nat) (hm : m ≤ 65536) : ∃ q T : Nat, wrap64 (1000000 / (1 + 2 * (m : Int)) + 1) = (q : Int) ∧ (1 + 2 * m) * q = T ∧ 1000000 ≤ T ∧ T ≤ 16777216 ∧ q ≤ 1048576 := by
  have h1 := Nat.div_add_mod 1000000 (1 + 2 * m)
  have h2 := Nat.mod_lt 1000000 (show 0 < 1 + 2 * m by omega)
  have h3 : 1000000 / (1 + 2 * m) ≤ 1000000 := Nat.div_le_self _ _
  have e : (1000000 / (1 + 2 * (m : Int))) = ((1000000 / (1 + 2 * m) : Nat) : Int) := by
    rw [Int.natCast_ediv, Int.natCast_add, Int.natCast_mul]; rfl
  rw [e]
  generalize 1000000 / (1 + 2 * m) = k at h1 h3
  clear e
  refine ⟨k + 1, _, ?_, rfl, ?_, ?_, by omega⟩
  · unfold wrap64; omega
  · rw [Nat.mul_add, Nat.mul_one]; omega
  · rw [Nat.mul_add, Nat.mul_one]; omega

/-- 'ab', so many times. -/
theorem rep_ab (cnt : Nat) (hcnt : cnt ≤ 65536) (W : World) (b : Nat) (c0 : W.cell? ⟨b, 0, none⟩ = some (.int .u8 97)) (c1 : W.cell? ⟨b, 1, none⟩ = some (.int .u8 98)) :
    Calls Try.prog 8 #[.slice (some ⟨b, 0, none⟩) 2 2, .int .i64 cnt] W fun e w' => e = .returned (.slice (some ⟨W.heap.size, 0, none⟩) (2 * cnt) (2 * cnt)) ∧ Fill w' W.heap.size (2 * cnt) (2 * cnt) abF ∧ Below W.heap.size W w' := by
  have := repeat_any b 0 2 2 cnt abF W (by omega) (by omega) (by omega) (by omega) (fun i hi => by
    match i, hi with
    | 0, _ => exact c0
    | 1, _ => exact c1)
  refine this.mono fun e w' h => ⟨h.1, ?_, h.2.2⟩
  have e : (fun j => abF (j % 2)) = abF := by funext j; simp [abF]
  rw [e] at h
  exact h.2.1

/-- What an owned row reads. -/
theorem owns_sl {w : World} {base n : Nat} {v : Value} {xs : List Value} {f : Nat → Int} (h : w.ownsRow base 5 1 v n xs) (hn : 1 ≤ n) (hx : xs = rowOf f n) :
    ∃ g cap, v = .slice (some ⟨g, 0, none⟩) n cap ∧ base ≤ g ∧ g < w.heap.size ∧ ∀ j, j < n → w.cell? ⟨g, j, none⟩ = some (.int .u8 (f j)) := by
  subst hx
  exact Bk.sl (.inl h) hn

/-- The first pattern: a block and 'z'. -/
def p0F (m j : Nat) : Int := if j < 1 + 2 * m then blkF j else 122
/-- The second: 'ab' so many times and 'c'. -/
def p1F (h j : Nat) : Int := if j < 2 * h then abF j else 99

/-- The haystack. -/
def hayF (m j : Nat) : Int := blkF (j % (1 + 2 * m))
/-- A million, behind a name. -/
def mil : Nat := 1000000

theorem abF_cases (j : Nat) : abF j = 97 ∨ abF j = 98 := by unfold abF; split <;> simp
theorem blkF_cases (j : Nat) : blkF j = 100 ∨ blkF j = 97 ∨ blkF j = 98 := by
  unfold blkF
  split
  · exact .inl rfl
  · exact .inr (abF_cases _)
theorem hayF_cases (m j : Nat) : hayF m j = 100 ∨ hayF m j = 97 ∨ hayF m j = 98 := blkF_cases _
theorem cntB_le (f : Nat → Int) (x : Int) (n : Nat) : cntB f x n ≤ n := by
  induction n with
  | zero => exact Nat.le_refl _
  | succ n ih => unfold cntB; split <;> omega

theorem ans_eq {a b : Value} {x y : Int} (h : x = y) : Ending.returned (.tuple #[a, b, .int .i64 x]) = .returned (.tuple #[a, b, .int .i64 y]) := by rw [h]

/-- What insideLonger leaves. -/
structure Inside (w' : World) (m hf hb pb g0 c0 g1 c1 b2 b3 cn : Nat) : Prop where
  half : m / 2 = hf
  hay : ∀ j, j < 1000000 → w'.cell? ⟨hb, j, none⟩ = some (.int .u8 (hayF m j))
  q0 : w'.cell? ⟨pb, 0, none⟩ = some (.slice (some ⟨g0, 0, none⟩) (1 + 2 * m + 1) c0)
  q1 : w'.cell? ⟨pb, 1, none⟩ = some (.slice (some ⟨g1, 0, none⟩) (2 * hf + 1) c1)
  q2 : w'.cell? ⟨pb, 2, none⟩ = some (.slice (some ⟨b2, 0, none⟩) 1 1)
  q3 : w'.cell? ⟨pb, 3, none⟩ = some (.slice (some ⟨b3, 0, none⟩) 1 1)
  r0 : ∀ j, j < 1 + 2 * m + 1 → w'.cell? ⟨g0, j, none⟩ = some (.int .u8 (p0F m j))
  r1 : ∀ j, j < 2 * hf + 1 → w'.cell? ⟨g1, j, none⟩ = some (.int .u8 (p1F hf j))
  r2 : w'.cell? ⟨b2, 0, none⟩ = some (.int .u8 97)
  r3 : w'.cell? ⟨b3, 0, none⟩ = some (.int .u8 98)
  le : cn ≤ 1000000
  count : cn + cntB (hayF m) 100 mil = mil

/-- Its answer. -/
def InsAns (w : World) (m : Nat) (e : Ending) (w' : World) : Prop :=
  ∃ hf hb T pb g0 c0 g1 c1 b2 b3 cn, e = .returned (.tuple #[.slice (some ⟨hb, 0, none⟩) 1000000 T, .slice (some ⟨pb, 0, none⟩) 4 4, .int .i64 ((cn : Nat) : Int)]) ∧ Inside w' m hf hb pb g0 c0 g1 c1 b2 b3 cn ∧ Below w.heap.size w w'

set_option maxHeartbeats 4000000 in
set_option maxRecDepth 100000 in
theorem inside_row (m : Nat) (w : World) (hm : m ≤ 65536) :
    Calls Try.prog 7 #[.int .i64 m] w fun e w' => InsAns w m e w' := by
  obtain ⟨i0, hi, hz0, hz1, hz2⟩ := info_parts Try.info5
  have HI : Hid (Try.prog.info? 5 = some i0) := hi
  clear hi
  have hcv := conv_const
  go_enter Try.func7, Try.ntmps7
  go_upto_region 1 with fail
  go_cut [5] from 8 (fun v wc => Below w.heap.size w wc ∧ Bk wc w.heap.size v (1 + 2 * m) (rowOf blkF (1 + 2 * m)))
  case first =>
    go_wp2_with fail
    refine (rep_ab m hm _ (w.heap.size + 1) (cell_new _ _ _ _ _ _ (by simp)) (cell_new _ _ _ _ _ _ (by simp))).mono ?_
    rintro e w1 ⟨rfl, hF, hB⟩
    have es : ((w.alloc (.cells #[.int .u8 100] 5 (1, 2))).alloc (.cells #[.int .u8 97, .int .u8 98] 5 (2, 3))).heap.size = w.heap.size + 2 := by simp
    rw [es] at hF hB ⊢
    have hB1 : Below w.heap.size w w1 := (((Below.refl w.heap.size w).alloc (Nat.le_refl _) _).alloc (by simp) _).trans (hB.mono (by omega))
    have hd0 : w1.cell? ⟨w.heap.size, 0, none⟩ = some (.int .u8 100) := (hB.cell (by show w.heap.size < w.heap.size + 2; omega)).trans (cell_old _ _ _ _ _ (cell_new _ _ _ _ _ _ rfl))
    clear hB es
    by_cases hm0 : m = 0
    · subst hm0
      clear hF
      go_wp2_with fail
      go_meet
      case rel => exact ⟨hB1, .inr ⟨w.heap.size, 1, rfl, rfl, Nat.le_refl _, by simp [rowOf], fun j u hj => by
        obtain ⟨h1, rfl⟩ := rowOf_at hj
        obtain rfl : j = 0 := by omega
        exact hd0⟩⟩
    · have HB1 : Hid (Below w.heap.size w w1) := hB1
      have HD0 : Hid (w1.cell? ⟨w.heap.size, 0, none⟩ = some (.int .u8 100)) := hd0
      have HF : Hid (Fill w1 (w.heap.size + 2) (2 * m) (2 * m) abF) := hF
      have hsz : w.heap.size ≤ w1.heap.size := hB1.size
      clear hF hB1 hd0
      have hm1 : 1 ≤ m := by omega
      clear hm0
      have HO : Hid (∀ b, some (⟨w.heap.size, 0, none⟩ : Addr) = some b → ∀ j u, [Value.int .u8 100][j]? = some u → w1.cell? (b.add j) = some u) := fun b hb j u hj => by
        obtain rfl := Option.some.inj hb
        match j, hj with
        | 0, hj => simp at hj; subst hj; simpa [Addr.add] using HD0.out
      have HNW : Hid (∀ j u, (rowOf abF (2 * m))[j]? = some u → w1.cell? ((⟨w.heap.size + 2, 0, none⟩ : Addr).add j) = some u) := fun j u hj => by
        obtain ⟨h1, rfl⟩ := rowOf_at hj
        have e : (⟨w.heap.size + 2, 0, none⟩ : Addr).add j = ⟨w.heap.size + 2, j, none⟩ := by unfold Addr.add; split <;> simp_all
        rw [e]; exact HF.out.cell j h1
      go_wp2_with (first | (at_builtin; refine wpList_append_grows _ rfl _ _ 22 rfl 5 i0 (.int .u8 0) 1 1 Try.underlying22 HI.out hz0 hz1 hz2 rfl (by decide) (some ⟨w.heap.size, 0, none⟩) 1 1 [.int .u8 100] rfl (fun h => by cases h) rfl HO.out ⟨w.heap.size + 2, 0, none⟩ (2 * m) (2 * m) (rowOf abF (2 * m)) rfl (by rw [rowOf_len, Nat.mul_one]) HNW.out (rowOf_one _ _) (by omega) (by unfold maxLen; omega) (by omega) ?_; intro v' w2 hown hgrow))
      have HW : Hid (Bk w2 w.heap.size v' (1 + 2 * m) (rowOf blkF (1 + 2 * m))) := .inl (by
        have e : [Value.int .u8 100] ++ rowOf abF (2 * m) = rowOf blkF (1 + 2 * m) := append_two _ (fun _ => 100) abF blkF 1 (2 * m) rfl (fun j hj => by simp [blkF, show j = 0 by omega]) (fun j hj => by simp [blkF, show 1 + j - 1 = j by omega])
        rw [e] at hown
        exact owns_base hown hsz)
      have HB2 : Hid (Below w.heap.size w w2) := HB1.out.grown hgrow hsz (fun k h => by cases h)
      clear hown hgrow HO HNW HF HD0 HB1
      go_wp2_with fail
      go_meet
      case rel => exact ⟨HB2.out, HW.out⟩
  rename_i v5
  obtain ⟨HB, hbk⟩ := hcut
  obtain ⟨g, cap, rfl, hg1, hg2, hcb⟩ := hbk.sl (by omega)
  have HBK : Hid (Bk wc w.heap.size (.slice (some ⟨g, 0, none⟩) (1 + 2 * m) cap) (1 + 2 * m) (rowOf blkF (1 + 2 * m))) := hbk
  have HCB : Hid (∀ j, j < 1 + 2 * m → wc.cell? ⟨g, 0 + j, none⟩ = some (.int .u8 (blkF j))) := fun j hj => by rw [Nat.zero_add]; exact hcb j hj
  have HB0 : Hid (Below w.heap.size w wc) := HB
  clear hbk hcb HB
  obtain ⟨q, T, hq, hT, hT1, hT2, hq2⟩ := q_facts m hm
  have HQ : Hid (wrap64 (1000000 / (1 + 2 * (m : Int)) + 1) = (q : Int)) := hq
  have HT : Hid ((1 + 2 * m) * q = T) := hT
  clear hq hT
  go_wp2_with fail
  rw [HQ.out]
  refine (repeat_any g 0 (1 + 2 * m) cap q blkF wc (by omega) (by omega) hq2 (by rw [HT.out]; exact hT2) HCB.out).mono ?_
  rw [HT.out]
  rintro e w3 ⟨rfl, hF, hB3⟩
  have hsz3 : wc.heap.size < w3.heap.size := by
    have := cell_lt (hF.cell 0 (by omega))
    exact this
  have HH : Hid (∀ j, j < 1000000 → w3.cell? ⟨wc.heap.size, j, none⟩ = some (.int .u8 (blkF (j % (1 + 2 * m))))) := fun j hj => hF.cell j (by omega)
  have HBK3 : Hid (Bk w3 w.heap.size (.slice (some ⟨g, 0, none⟩) (1 + 2 * m) cap) (1 + 2 * m) (rowOf blkF (1 + 2 * m))) := HBK.out.below hB3
  have HB3 : Hid (Below w.heap.size w w3) := HB0.out.trans (hB3.mono HB0.out.size)
  have hszc : w.heap.size ≤ wc.heap.size := HB0.out.size
  clear hF hB3 HBK HCB HB0 HQ HT
  have HZ : Hid (∀ j u, [Value.int .u8 122][j]? = some u → (w3.alloc (.cells #[.int .u8 122] 5)).cell? ((⟨w3.heap.size, 0, none⟩ : Addr).add j) = some u) := fun j u hj => by
    match j, hj with
    | 0, hj => simp at hj; subst hj; exact cell_new w3 #[.int .u8 122] (0, 0) 5 w3.heap.size 0 rfl
  have hsz3' : w.heap.size ≤ w3.heap.size := by omega
  go_wp2_with (first | (at_builtin; refine append_bk _ rfl (.tmp 22) (.tmp 23) rfl i0 HI.out hz0 hz1 hz2 w.heap.size (by simp; omega) (.slice (some ⟨g, 0, none⟩) (1 + 2 * m) cap) (1 + 2 * m) (rowOf blkF (1 + 2 * m)) rfl (HBK3.out.below ((Below.refl _ _).alloc (Nat.le_refl _) _)) ⟨w3.heap.size, 0, none⟩ 1 1 [.int .u8 122] rfl rfl HZ.out (by intro u hu; simp at hu; subst hu; rfl) (by omega) (by omega) ?_; intro v0 w4 hown hgrow; obtain ⟨g0, cap0, rfl, hg01, hg02, hc0⟩ := owns_sl (f := p0F m) hown (by omega) (append_two _ blkF (fun _ => 122) (p0F m) (1 + 2 * m) 1 rfl (fun j hj => by simp [p0F, hj]) (fun j hj => by unfold p0F; rw [if_neg (by omega)]))))
  have HP0 : Hid (∀ j, j < 1 + 2 * m + 1 → w4.cell? ⟨g0, j, none⟩ = some (.int .u8 (p0F m j))) := hc0
  have HH4 : Hid (∀ j, j < 1000000 → w4.cell? ⟨wc.heap.size, j, none⟩ = some (.int .u8 (blkF (j % (1 + 2 * m))))) := fun j hj => by
    have h3 := HH.out j hj
    have hk := hgrow.block wc.heap.size (by simp; omega) (fun h => by have h' : wc.heap.size = g := Option.some.inj h; omega)
    rw [World.cell?_of_block (a := ⟨wc.heap.size, j, none⟩) hk]
    exact cell_old _ _ _ _ _ h3
  have HB4 : Hid (Below w.heap.size w w4) := ((HB3.out.alloc hsz3' _).grown hgrow (by simp; omega) (fun k hk => by have h' : g = k := Option.some.inj hk; omega))
  have hsz4 : wc.heap.size < w4.heap.size := by have := hgrow.size; simp at this; omega
  clear hown hgrow HBK3 HZ HH HB3 hc0 hsz3 hsz3'
  have hhalf : (m : Int) / 2 = ((m / 2 : Nat) : Int) := by omega
  have hhle : m / 2 ≤ 65536 := by omega
  obtain ⟨hf, hhf⟩ : ∃ hf, m / 2 = hf := ⟨_, rfl⟩
  have HHM : Hid (m / 2 = hf) := hhf
  rw [hhf] at hhalf hhle
  clear hhf
  have HHF : Hid ((m : Int) / 2 = (hf : Int)) := hhalf
  clear hhalf
  go_wp2_with fail
  rw [HHF.out]
  refine (rep_ab hf hhle _ w4.heap.size (cell_new _ _ _ _ _ _ rfl) (cell_new _ _ _ _ _ _ rfl)).mono ?_
  rintro e w5 ⟨rfl, hF, hB⟩
  have es : (w4.alloc (.cells #[.int .u8 97, .int .u8 98] 5 (2, 3))).heap.size = w4.heap.size + 1 := by simp
  rw [es] at hF hB ⊢
  have HB5 : Hid (Below w4.heap.size w4 w5) := ((Below.refl _ _).alloc (Nat.le_refl _) _).trans (hB.mono (by omega))
  have hsz5 : w4.heap.size + 1 ≤ w5.heap.size := by have := hB.size; simp at this; omega
  have HBK5 : Hid (Bk w5 w4.heap.size (.slice (some ⟨w4.heap.size + 1, 0, none⟩) (2 * hf) (2 * hf)) (2 * hf) (rowOf abF (2 * hf))) := .inr ⟨_, _, rfl, rfl, by omega, rowOf_len _ _, fun j u hj => by
    obtain ⟨h1, rfl⟩ := rowOf_at hj
    exact hF.cell j h1⟩
  have HC : Hid (∀ j u, [Value.int .u8 99][j]? = some u → (w5.alloc (.cells #[.int .u8 99] 5)).cell? ((⟨w5.heap.size, 0, none⟩ : Addr).add j) = some u) := fun j u hj => by
    match j, hj with
    | 0, hj => simp at hj; subst hj; exact cell_new w5 #[.int .u8 99] (0, 0) 5 w5.heap.size 0 rfl
  clear hF hB es
  go_wp2_with (first | (at_builtin; refine append_bk _ rfl (.tmp 29) (.tmp 30) rfl i0 HI.out hz0 hz1 hz2 w4.heap.size (by simp; omega) (.slice (some ⟨w4.heap.size + 1, 0, none⟩) (2 * hf) (2 * hf)) (2 * hf) (rowOf abF (2 * hf)) rfl (HBK5.out.below ((Below.refl _ _).alloc (Nat.le_refl _) _)) ⟨w5.heap.size, 0, none⟩ 1 1 [.int .u8 99] rfl rfl HC.out (by intro u hu; simp at hu; subst hu; rfl) (by omega) (by omega) ?_; intro v1 w6 hown hgrow; obtain ⟨g1, cap1, rfl, hg11, hg12, hc1⟩ := owns_sl (f := p1F hf) hown (by omega) (append_two _ abF (fun _ => 99) (p1F hf) (2 * hf) 1 rfl (fun j hj => by simp [p1F, hj]) (fun j hj => by unfold p1F; rw [if_neg (by omega)]))))
  have HB6 : Hid (Below w4.heap.size w4 w6) := ((HB5.out.alloc (by omega) _).grown hgrow (by simp; omega) (fun k hk => by have h' : w4.heap.size + 1 = k := Option.some.inj hk; omega))
  have hsz6 : w4.heap.size ≤ w6.heap.size := HB6.out.size
  have HP1 : Hid (∀ j, j < 2 * hf + 1 → w6.cell? ⟨g1, j, none⟩ = some (.int .u8 (p1F hf j))) := hc1
  clear hown hgrow hc1 HBK5 HC HB5 hcv
  have hcl := cntB_le (hayF m) 100 mil
  obtain ⟨cc, hcc⟩ : ∃ cc, cc = cntB (hayF m) 100 mil := ⟨_, rfl⟩
  have HCC : Hid (cc = cntB (hayF m) 100 mil) := hcc
  rw [← hcc] at hcl
  have hcl' : cc ≤ 1000000 := hcl
  have HFIN : Hid (∀ W, Below w6.heap.size w6 W → (∀ j, j < 1000000 → W.cell? ⟨wc.heap.size, 0 + j, none⟩ = some (.int .u8 (hayF m j)))) := fun W hW j hj => by
    rw [Nat.zero_add]
    have h4 := HH4.out j hj
    have h6 := (HB6.out.cell (by exact cell_lt h4)).trans h4
    exact (hW.cell (by exact cell_lt h6)).trans h6
  clear hcc hcl
  have HW : Hid (Below w6.heap.size w6 ((((w6.alloc (Obj.cells #[Value.int IntKind.u8 97] 5 (1, 2))).alloc (Obj.cells #[Value.int IntKind.u8 98] 5 (1, 2))).alloc (Obj.cells #[Value.slice (some { block := g0, off := 0 }) (1 + 2 * m + 1) cap0, Value.slice (some { block := g1, off := 0 }) (2 * hf + 1) cap1, Value.slice (some { block := w6.heap.size, off := 0 }) 1 1, Value.slice (some { block := w6.heap.size + 1, off := 0 }) 1 1] 22)).alloc (Obj.cells #[Value.int IntKind.u8 100] 5 (1, 2)))) := (((((Below.refl _ _).alloc (Nat.le_refl _) _).alloc (by simp) _).alloc (by simp; omega) _).alloc (by simp; omega) _)
  refine (count_row wc.heap.size 0 1000000 T (w6.heap.size + 1 + 1 + 1) 0 1 (hayF m) 100 _ (by omega) (fun j _ => by have := hayF_cases m j; omega) (HFIN.out _ HW.out) (cell_new _ _ _ _ _ _ (by simp))).mono ?_
  rintro e wf ⟨rfl, rfl⟩
  rw [show cntB (hayF m) 100 1000000 = cc from HCC.out.symm]
  have hsub : ((1000000 : Int) - (cc : Int)) = ((1000000 - cc : Nat) : Int) := by omega
  have HSUB : Hid (((1000000 : Int) - (cc : Int)) = ((1000000 - cc : Nat) : Int)) := hsub
  clear hsub
  have HALL : Hid (Inside ((((w6.alloc (Obj.cells #[Value.int IntKind.u8 97] 5 (1, 2))).alloc (Obj.cells #[Value.int IntKind.u8 98] 5 (1, 2))).alloc (Obj.cells #[Value.slice (some { block := g0, off := 0 }) (1 + 2 * m + 1) cap0, Value.slice (some { block := g1, off := 0 }) (2 * hf + 1) cap1, Value.slice (some { block := w6.heap.size, off := 0 }) 1 1, Value.slice (some { block := w6.heap.size + 1, off := 0 }) 1 1] 22)).alloc (Obj.cells #[Value.int IntKind.u8 100] 5 (1, 2))) m hf wc.heap.size (w6.heap.size + 1 + 1) g0 cap0 g1 cap1 w6.heap.size (w6.heap.size + 1) (1000000 - cc)) :=
    { half := HHM.out
      hay := fun j hj => by have := HFIN.out _ HW.out j hj; rwa [Nat.zero_add] at this
      q0 := cell_old _ _ _ _ _ (cell_new _ _ _ _ _ _ (by simp))
      q1 := cell_old _ _ _ _ _ (cell_new _ _ _ _ _ _ (by simp))
      q2 := cell_old _ _ _ _ _ (cell_new _ _ _ _ _ _ (by simp))
      q3 := cell_old _ _ _ _ _ (cell_new _ _ _ _ _ _ (by simp))
      r0 := fun j hj => by
        have h4 := HP0.out j hj
        have h6 := (HB6.out.cell (by exact cell_lt h4)).trans h4
        exact (HW.out.cell (by exact cell_lt h6)).trans h6
      r1 := fun j hj => by
        have h6 := HP1.out j hj
        exact (HW.out.cell (by exact cell_lt h6)).trans h6
      r2 := cell_old _ _ _ _ _ (cell_old _ _ _ _ _ (cell_old _ _ _ _ _ (cell_new _ _ _ _ _ _ rfl)))
      r3 := cell_old _ _ _ _ _ (cell_old _ _ _ _ _ (cell_new _ _ _ _ _ _ (by simp)))
      le := Nat.sub_le _ _
      count := by rw [← HCC.out]; show 1000000 - cc + cc = 1000000; omega }
  have HBF : Hid (Below w.heap.size w _) := HB4.out.trans ((HB6.out.trans (HW.out.mono hsz6)).mono HB4.out.size)
  clear HW HFIN HP0 HP1 HH4 HB4 HB6 HCC HHM
  go_wp2
  go_ret3
  exact ⟨hf, wc.heap.size, T, _, g0, cap0, g1, cap1, _, _, 1000000 - cc, ans_eq HSUB.out, HALL.out, HBF.out⟩

/-- ZZInsideLonger is insideLonger. -/
theorem zzInside_row (m : Nat) (w : World) (hm : m ≤ 65536) : Calls Try.prog 5 #[.int .i64 m] w fun e w' => InsAns w m e w' := by
  have H : Hid (Calls Try.prog 7 #[.int .i64 m] w fun e w' => InsAns w m e w') := inside_row m w hm
  go_enter Try.func5, Try.ntmps5
  go_wp2_with fail
  refine H.out.mono ?_
  rintro e w' ⟨hf, hb, T, pb, g0, c0, g1, c1, b2, b3, cn, rfl, hin, hbel⟩
  have HI : Hid (Inside w' m hf hb pb g0 c0 g1 c1 b2 b3 cn) := hin
  have HB : Hid (Below w.heap.size w w') := hbel
  clear H hin hbel
  go_wp2
  go_ret3
  exact ⟨hf, hb, T, pb, g0, c0, g1, c1, b2, b3, cn, rfl, HI.out, HB.out⟩
end Go.Proofs.Qxb6604151a
