/-
  SHARED WALKS: bytes.Repeat.
-/
import Derived.Test.Qxb6604151aRows
import Derived.Test.Qxb6604151aShelf
import Derived.WalkKit
import Derived.ProofKit
import Derived.Below
import Derived.Laws.Cover3
import Derived.Laws.CopyOwn
import Derived.Lib.MakeNoZero
import Derived.Deep.CutBlock
import Derived.Deep.Draws
namespace Go.Proofs.Qxb6604151a
open Go.RowKit
set_option linter.unusedVariables false

theorem Try.info5 : (Try.prog.info? 5).map (fun i => (i.zero, i.size, i.bytes)) = some (some (.int .u8 0), 1, 1) := by kernel_rfl
theorem Try.size5 : (Try.prog.info? 5).map (·.size) = some 1 := by kernel_rfl

/-- The cells of a row of bytes. -/
def rowOf (f : Nat → Int) (n : Nat) : List Value := (List.range n).map fun i => .int .u8 (f i)
theorem rowOf_get (f : Nat → Int) (n k : Nat) (h : k < n) : (rowOf f n)[k]? = some (.int .u8 (f k)) := by simp [rowOf, h]
theorem rowOf_len (f : Nat → Int) (n : Nat) : (rowOf f n).length = n := by simp [rowOf]
theorem rowOf_one (f : Nat → Int) (n : Nat) : ∀ v ∈ rowOf f n, v.oneCell' = true := by
  intro v hv
  obtain ⟨i, _, rfl⟩ := List.mem_map.1 hv
  rfl
theorem rowOf_at {f : Nat → Int} {n j : Nat} {v : Value} (h : (rowOf f n)[j]? = some v) : j < n ∧ v = .int .u8 (f j) := by
  have hj : j < n := by
    have := (List.getElem?_eq_some_iff.1 h).1
    rwa [rowOf_len] at this
  rw [rowOf_get f n j hj] at h
  exact ⟨hj, (Option.some.inj h).symm⟩

/-- The call's own block g, whose first k cells hold the bytes f. -/
def Fill (w : World) (g T k : Nat) (f : Nat → Int) : Prop :=
  ∃ cur : List Value, w.heap[g]? = some (.cells cur.toArray 5 (0, 0)) ∧ T ≤ cur.length ∧ ∀ j, j < k → cur[j]? = some (.int .u8 (f j))

theorem splice_get {α : Type} (L : List α) (off : Nat) (cs : List α) (h : off + cs.length ≤ L.length) (j : Nat) :
    (splice L off cs)[j]? = if off ≤ j ∧ j < off + cs.length then cs[j - off]? else L[j]? := by
  unfold splice
  by_cases h1 : j < off
  · rw [List.getElem?_append_left (by simp; omega), if_neg (by omega), List.getElem?_take_of_lt h1]
  · have hl : (L.take off).length = off := by simp; omega
    rw [List.getElem?_append_right (by omega), hl]
    by_cases h2 : j < off + cs.length
    · rw [List.getElem?_append_left (by omega), if_pos ⟨by omega, h2⟩]
    · rw [List.getElem?_append_right (by omega), if_neg (by omega), List.getElem?_drop]
      congr 1
      omega

/-- What a copy of m bytes behind the first k leaves. -/
theorem fill_more {w : World} {g T k m : Nat} {f h : Nat → Int} {cur : List Value} (hT : T ≤ cur.length) (hk : ∀ j, j < k → cur[j]? = some (.int .u8 (f j))) (hkm : k + m ≤ T)
    (hh : ∀ j, j < m → h j = f (k + j)) (hg : w.heap[g]? = some (.cells (splice cur k (rowOf h m)).toArray 5 (0, 0))) : Fill w g T (k + m) f := by
  have hfit : k + (rowOf h m).length ≤ cur.length := by rw [rowOf_len]; omega
  refine ⟨_, hg, by rw [length_splice cur k _ hfit]; exact hT, fun j hj => ?_⟩
  rw [splice_get cur k _ hfit, rowOf_len]
  by_cases h1 : k ≤ j
  · rw [if_pos ⟨h1, hj⟩, rowOf_get h m _ (by omega), hh _ (by omega), show k + (j - k) = j by omega]
  · rw [if_neg (by omega)]; exact hk j (by omega)

theorem cell_lt {w : World} {p : Addr} {v : Value} (h : w.cell? p = some v) : p.block < w.heap.size := by
  by_cases hp : p.block < w.heap.size
  · exact hp
  · have hb : w.heap[p.block]? = none := Array.getElem?_eq_none_iff.2 (by omega)
    simp [World.cell?, hb] at h

/-- A copy of m bytes behind the first k of the call's own block. -/
theorem copy_fill {W w0 : World} {B g T k m : Nat} {f h : Nat → Int} {cur : List Value} (hg : W.heap[g]? = some (.cells cur.toArray 5 (0, 0))) (hT : T ≤ cur.length) (hk : ∀ j, j < k → cur[j]? = some (.int .u8 (f j))) (hkm : k + m ≤ T)
    (hh : ∀ j, j < m → h j = f (k + j)) (b o sl sc dl dc : Nat) (hm : m = Nat.min sl dl) (hsrc : ∀ j, j < m → W.cell? ⟨b, o + j, none⟩ = some (.int .u8 (h j))) (hB : Below B w0 W) (hBg : B ≤ g) :
    ∃ w2, (Builtin.copy_ #[22, 22] 3 #[.slice (some ⟨g, k, none⟩) dl dc, .slice (some ⟨b, o, none⟩) sl sc]).run Try.prog W = .ok (.int .i64 m) w2 ∧ Fill w2 g T (k + m) f ∧ Below B w0 w2 := by
  have hfit : k + (rowOf h m).length ≤ cur.toArray.size := by rw [rowOf_len]; simpa using (by omega : k + m ≤ cur.length)
  have hr := run_copy_row (P := Try.prog) W 22 22 3 5 g k dl dc ⟨b, o, none⟩ sl sc cur.toArray 5 (rowOf h m) Try.underlying22 Try.size5 hg (by rw [rowOf_len]; exact hm)
    (fun j v hj => by
      obtain ⟨h1, rfl⟩ := rowOf_at hj
      have e : (⟨b, o, none⟩ : Addr).add j = ⟨b, o + j, none⟩ := by unfold Addr.add; split <;> simp_all
      rw [e]; exact hsrc j h1)
    hfit (rowOf_one _ _)
  rw [rowOf_len] at hr
  refine ⟨_, hr, ?_, below_setRow hB hBg _⟩
  refine fill_more (h := h) (cur := cur) hT hk hkm hh ?_
  rw [setRow_heap W g _ _ 5 _ hg]
  simp [splice, rowOf_len]

theorem wrap_in (n : Int) (h0 : 0 ≤ n) (h1 : n ≤ 1000000000) : IntKind.i64.wrap n = n := by
  simp [IntKind.wrap, IntKind.bits, IntKind.signed]
  omega

theorem mul_small (x y T : Nat) (h : x * y = T) (hx : x ≤ 1048576) (hy : y ≤ 1048576) (hT : T ≤ 16777216) (w : World) :
    Calls Try.prog 10 #[.int .u64 x, .int .u64 y] w fun e w' => e = .returned (.tuple #[.int .u64 0, .int .u64 T]) ∧ w' = w := by
  have hc := Try.bits_Mul x y (by omega) (by omega) w
  have e1 : x * y / 18446744073709551616 = 0 := by rw [h]; omega
  have e2 : x * y % 18446744073709551616 = T := by rw [h]; omega
  rw [e1, e2] at hc
  exact hc

/-- What the chunk comes to: a whole number of copies. -/
theorem chunk_is (L : Nat) (hL : 1 ≤ L) : ∃ u cm : Nat, cm = u * L ∧ cm ≤ 8192 ∧ wrap64 (8192 / (L : Int) * (L : Int)) = (cm : Int) := by
  refine ⟨8192 / L, 8192 / L * L, rfl, Nat.div_mul_le_self _ _, ?_⟩
  have e : (8192 / (L : Int) * (L : Int)) = ((8192 / L * L : Nat) : Int) := by rw [Int.natCast_mul, Int.natCast_ediv]; rfl
  have h := Nat.div_mul_le_self 8192 L
  rw [e]
  unfold wrap64
  omega

/-- The next place is a whole number of copies too. -/
theorem next_is {bp q L cm u cnt T ch m : Nat} (hq : bp = q * L) (hu : cm = u * L) (hT : L * cnt = T) (hch : ch = bp ∨ ch = cm) (hm : m = Nat.min ch (T - bp)) (hlt : bp < T) : ∃ q2, bp + m = q2 * L := by
  have e : T - bp = (cnt - q) * L := by rw [← hT, hq, Nat.mul_comm L cnt, ← Nat.sub_mul]
  by_cases h : ch ≤ T - bp
  · have : m = ch := by rw [hm]; exact Nat.min_eq_left h
    rw [this]
    rcases hch with h1 | h1
    · exact ⟨q + q, by rw [h1, hq, Nat.add_mul]⟩
    · exact ⟨q + u, by rw [h1, hq, hu, Nat.add_mul]⟩
  · have : m = T - bp := by rw [hm]; exact Nat.min_eq_right (by omega)
    rw [this]
    exact ⟨cnt, by rw [← hT] at hlt ⊢; rw [Nat.mul_comm L cnt] at hlt ⊢; omega⟩

set_option maxHeartbeats 4000000 in
set_option maxRecDepth 100000 in
theorem repeat_row (b o L c cnt T : Nat) (d : Nat → Int) (w : World) (hL : 1 ≤ L) (hL2 : L ≤ 1048576) (hn : 1 ≤ cnt) (hn2 : cnt ≤ 1048576) (hT : L * cnt = T) (hT2 : T ≤ 16777216)
    (hc : ∀ i, i < L → w.cell? ⟨b, o + i, none⟩ = some (.int .u8 (d i))) :
    Calls Try.prog 8 #[.slice (some ⟨b, o, none⟩) L c, .int .i64 cnt] w fun e w' => e = .returned (.slice (some ⟨w.heap.size, 0, none⟩) T T) ∧ Fill w' w.heap.size T T (fun j => d (j % L)) ∧ Below w.heap.size w w' := by
  have HC : Hid (∀ i, i < L → w.cell? ⟨b, o + i, none⟩ = some (.int .u8 (d i))) := hc
  have HT : Hid (L * cnt = T) := hT
  have hLT : L ≤ T := by rw [← hT]; exact Nat.le_mul_of_pos_right L hn
  clear hc hT
  have f0 : ((cnt : Int) == 0) = false := beq_eq_false_iff_ne.2 (by omega)
  have f1 : ((L : Int) == 0) = false := beq_eq_false_iff_ne.2 (by omega)
  go_enter Try.func8, Try.ntmps8
  go_wp2_with fail
  refine (mul_small L cnt T HT.out hL2 hn2 hT2 w).mono ?_
  rintro e w' ⟨rfl, rfl⟩
  go_upto_if 42 with fail
  go_cut [8] from 12 (fun v wc => wc = w' ∧ ∃ u cm : Nat, v = .int .i64 cm ∧ Hid (cm = u * L) ∧ 1 ≤ cm ∧ cm ≤ 16777216)
  case first =>
    by_cases h : 8192 < T
    · obtain ⟨u, cm, e1, e2, e3⟩ := chunk_is L hL
      have HE : Hid (cm = u * L) := e1
      have HW : Hid (wrap64 (8192 / (L : Int) * (L : Int)) = (cm : Int)) := e3
      clear e1
      by_cases hz : cm = 0
      · have hzb : (wrap64 (8192 / (L : Int) * (L : Int)) == 0) = true := by rw [e3]; exact beq_iff_eq.2 (by omega)
        clear hz e3
        go_wp2
        go_meet
        case rel => exact ⟨rfl, 1, L, rfl, (by show L = 1 * L; rw [Nat.one_mul]), by omega, by omega⟩
      · have hzb : (wrap64 (8192 / (L : Int) * (L : Int)) == 0) = false := by rw [e3]; exact beq_eq_false_iff_ne.2 (by omega)
        have hz1 : 1 ≤ cm := by omega
        clear hz e3
        go_wp2
        go_meet
        case rel => exact ⟨rfl, u, cm, by rw [HW.out], HE, hz1, by omega⟩
    · go_wp2
      go_meet
      case rel => exact ⟨rfl, cnt, T, rfl, (by show T = cnt * L; rw [← HT.out, Nat.mul_comm]), by omega, by omega⟩
  obtain ⟨rfl, u, cm, rfl, HU, hcm1, hcm2⟩ := hcut
  clear f0 f1
  -- the buffer
  obtain ⟨cs0, hrunM, hle, _⟩ := Lib.run_makeNoZero (P := Try.prog) wc #[3] 22 5 Try.underlying22 T (by omega)
  obtain ⟨cur, rfl⟩ : ∃ cur : List Value, cs0 = cur.toArray := ⟨cs0.toList, by simp⟩
  have hcall : (callFunc 11 #[.int .i64 (T : Int)]).run Try.prog wc = .ok (.value (.slice (some ⟨wc.heap.size, 0, none⟩) T cur.toArray.size)) ((wc.alloc (.cells cur.toArray 5)).drewN 2) := by
    rw [run_callFunc_extern Try.func11 (by kernel_rfl) (by kernel_rfl) (by kernel_rfl) (e := Extern.BytealgMakeNoZero.makeNoZero #[3] #[22]) (by kernel_rfl), hrunM]
    rfl
  clear hrunM
  have hle' : T ≤ cur.length := by simpa using hle
  have hsz : cur.toArray.size = cur.length := by simp
  rw [hsz] at hcall
  clear hle hsz
  have i0 : (0 : Int) ≤ (T : Int) := by omega
  have i1 : (T : Int) ≤ (cur.length : Int) := by omega
  obtain ⟨w2, hrun, hF, hB2⟩ := copy_fill (W := (wc.alloc (.cells cur.toArray 5)).drewN 2) (w0 := wc) (B := wc.heap.size) (g := wc.heap.size) (T := T) (k := 0) (m := L) (f := fun j => d (j % L)) (h := d) (cur := cur) (heap_alloc_new wc _) hle' (fun j hj => by omega) (by omega) (fun j hj => by simp [Nat.mod_eq_of_lt hj]) b o L c T T (Nat.min_eq_left hLT).symm
    (fun j hj => by
      have hcj := HC.out j hj
      have hbb : b < wc.heap.size := cell_lt hcj
      exact (Below.cell (((Below.refl wc.heap.size wc).alloc (Nat.le_refl _) (.cells cur.toArray 5)).trans ⟨rfl, rfl, rfl, Nat.le_refl _, fun _ _ => rfl⟩) (by exact hbb)).trans hcj)
    (((Below.refl wc.heap.size wc).alloc (Nat.le_refl _) _).trans ⟨rfl, rfl, rfl, Nat.le_refl _, fun _ _ => rfl⟩) (Nat.le_refl _)
  rw [Nat.zero_add] at hF
  have HF : Hid (Fill w2 wc.heap.size T L (fun j => d (j % L))) := hF
  have HB2 : Hid (Below wc.heap.size wc w2) := hB2
  have HRUN : Hid _ := hrun
  clear hrun hF hB2
  go_wp2_with fail
  rw [HRUN.out]
  simp only [Result.andThen]
  rw [Oper.upon_value]
  clear HRUN hcall hle' i0 i1
  go_wp2_with fail
  clear HC
  go_loopw [10] (fun v wr => ∃ (bp q : Nat), v = .int .i64 bp ∧ Hid (bp = q * L) ∧ L ≤ bp ∧ bp ≤ T ∧ Hid (Fill wr wc.heap.size T bp (fun j => d (j % L))) ∧ Hid (Below wc.heap.size wc wr)) (fun v _ => T - (intOf v).toNat)
  case atStart => exact ⟨L, 1, rfl, (by show L = 1 * L; rw [Nat.one_mul]), Nat.le_refl _, hLT, HF, HB2⟩
  case round =>
    clear HF HB2
    obtain ⟨bp, q, rfl, HQ, hb1, hb2, HF, HB⟩ := hrel
    by_cases hlt : bp < T
    · by_cases hbc : bp ≤ cm
      · skip
        obtain ⟨cur2, hg, hT3, hk3⟩ := HF.out
        obtain ⟨m, hm⟩ : ∃ m, m = Nat.min bp (T - bp) := ⟨_, rfl⟩
        have hmle : m ≤ bp := by rw [hm]; exact Nat.min_le_left _ _
        have hmT : bp + m ≤ T := by have : m ≤ T - bp := by rw [hm]; exact Nat.min_le_right _ _
                                    omega
        have hm0 : 1 ≤ m := by rw [hm]; exact Nat.le_min.2 ⟨by omega, by omega⟩
        have HG3 : Hid (wr.heap[wc.heap.size]? = some (.cells cur2.toArray 5 (0, 0))) := hg
        have HK3 : Hid (∀ j, j < bp → cur2[j]? = some (.int .u8 (d (j % L)))) := hk3
        have HM : Hid (m = Nat.min bp (T - bp)) := hm
        obtain ⟨q2, hq2⟩ := next_is (T := T) HQ.out HU.out HT.out (.inl rfl) hm hlt
        have HQ2 : Hid (bp + m = q2 * L) := hq2
        have HSRC : Hid (∀ j v, (rowOf (fun j => d (j % L)) m)[j]? = some v → wr.cell? ((⟨wc.heap.size, 0, none⟩ : Addr).add j) = some v) := fun j v hj => by
          obtain ⟨h1, rfl⟩ := rowOf_at hj
          have e : (⟨wc.heap.size, 0, none⟩ : Addr).add j = ⟨wc.heap.size, j, none⟩ := by unfold Addr.add; split <;> simp_all
          rw [e, cell_of_row wr wc.heap.size j _ 5 (0, 0) hg]
          simpa using hk3 j (by omega)
        have hl : (rowOf (fun j => d (j % L)) m).length = m := rowOf_len _ _
        clear hg hk3 hm hq2 HF
        have z0 : (0 : Int) ≤ (bp : Int) := by omega
        have z1 : (bp : Int) ≤ (T : Int) := by omega
        have z2 : (bp : Int) < (T : Int) := by omega
        have z3 : ¬ T = bp := by omega
        have z4 : (bp : Int) ≤ (T : Int) := by omega
        go_wp2
        go_region_law (refine step_copy_splice rfl (.tmp 70) (.tmp 73) 22 22 rfl 5 Try.underlying22 Try.size5 (some ⟨wc.heap.size, bp, none⟩) (some ⟨wc.heap.size, 0, none⟩) (T - bp) (T - bp) bp T (by go_simp) (by go_simp) wc.heap.size bp cur2 5 (by exact HG3.out) (rowOf (fun j => d (j % L)) m) (by rw [rowOf_len]; exact HM.out) (fun _ => ⟨rfl, _, rfl, by exact HSRC.out⟩) (by rw [rowOf_len]; omega) (rowOf_one _ _) wc.heap.size wc (by exact HB.out.drew) (Nat.le_refl _) ?_; intro w4 hg4 hb4)
        have HF4 : Hid (Fill w4 wc.heap.size T (bp + m) (fun j => d (j % L))) := fill_more (h := fun j => d (j % L)) hT3 HK3.out hmT (fun j hj => by show d (j % L) = d ((bp + j) % L); rw [HQ.out, Nat.add_comm, Nat.add_mul_mod_self_right]) hg4.out
        have HB4 : Hid (Below wc.heap.size wc w4) := hb4
        clear hg4 hb4 HG3 HK3 HM HSRC
        have zw := wrap_in ((bp : Int) + (m : Int)) (by omega) (by omega)
        go_simp
        go_wp2
        go_roundw
        case rel => exact ⟨bp + m, q2, by go_num, HQ2, by omega, hmT, HF4, HB4⟩
        case measure => simp [intOf]; omega
      · skip
        obtain ⟨cur2, hg, hT3, hk3⟩ := HF.out
        obtain ⟨m, hm⟩ : ∃ m, m = Nat.min cm (T - bp) := ⟨_, rfl⟩
        have hmle : m ≤ cm := by rw [hm]; exact Nat.min_le_left _ _
        have hmT : bp + m ≤ T := by have : m ≤ T - bp := by rw [hm]; exact Nat.min_le_right _ _
                                    omega
        have hm0 : 1 ≤ m := by rw [hm]; exact Nat.le_min.2 ⟨by omega, by omega⟩
        have HG3 : Hid (wr.heap[wc.heap.size]? = some (.cells cur2.toArray 5 (0, 0))) := hg
        have HK3 : Hid (∀ j, j < bp → cur2[j]? = some (.int .u8 (d (j % L)))) := hk3
        have HM : Hid (m = Nat.min cm (T - bp)) := hm
        obtain ⟨q2, hq2⟩ := next_is (T := T) HQ.out HU.out HT.out (.inr rfl) hm hlt
        have HQ2 : Hid (bp + m = q2 * L) := hq2
        have HSRC : Hid (∀ j v, (rowOf (fun j => d (j % L)) m)[j]? = some v → wr.cell? ((⟨wc.heap.size, 0, none⟩ : Addr).add j) = some v) := fun j v hj => by
          obtain ⟨h1, rfl⟩ := rowOf_at hj
          have e : (⟨wc.heap.size, 0, none⟩ : Addr).add j = ⟨wc.heap.size, j, none⟩ := by unfold Addr.add; split <;> simp_all
          rw [e, cell_of_row wr wc.heap.size j _ 5 (0, 0) hg]
          simpa using hk3 j (by omega)
        have hl : (rowOf (fun j => d (j % L)) m).length = m := rowOf_len _ _
        clear hg hk3 hm hq2 HF
        have z0 : (0 : Int) ≤ (bp : Int) := by omega
        have z1 : (bp : Int) ≤ (T : Int) := by omega
        have z2 : (bp : Int) < (T : Int) := by omega
        have z3 : ¬ T = bp := by omega
        have z4 : (cm : Int) ≤ (T : Int) := by omega
        go_wp2
        go_region_law (refine step_copy_splice rfl (.tmp 70) (.tmp 73) 22 22 rfl 5 Try.underlying22 Try.size5 (some ⟨wc.heap.size, bp, none⟩) (some ⟨wc.heap.size, 0, none⟩) (T - bp) (T - bp) cm T (by go_simp) (by go_simp) wc.heap.size bp cur2 5 (by exact HG3.out) (rowOf (fun j => d (j % L)) m) (by rw [rowOf_len]; exact HM.out) (fun _ => ⟨rfl, _, rfl, by exact HSRC.out⟩) (by rw [rowOf_len]; omega) (rowOf_one _ _) wc.heap.size wc (by exact HB.out.drew) (Nat.le_refl _) ?_; intro w4 hg4 hb4)
        have HF4 : Hid (Fill w4 wc.heap.size T (bp + m) (fun j => d (j % L))) := fill_more (h := fun j => d (j % L)) hT3 HK3.out hmT (fun j hj => by show d (j % L) = d ((bp + j) % L); rw [HQ.out, Nat.add_comm, Nat.add_mul_mod_self_right]) hg4.out
        have HB4 : Hid (Below wc.heap.size wc w4) := hb4
        clear hg4 hb4 HG3 HK3 HM HSRC
        have zw := wrap_in ((bp : Int) + (m : Int)) (by omega) (by omega)
        go_simp
        go_wp2
        go_roundw
        case rel => exact ⟨bp + m, q2, by go_num, HQ2, by omega, hmT, HF4, HB4⟩
        case measure => simp [intOf]; omega
    · have HK : Hid (bp = T) := by show bp = T; omega
      go_wp2
      go_ret
      exact ⟨rfl, by rw [HK.out] at HF; exact HF.out, HB.out⟩
end Go.Proofs.Qxb6604151a
