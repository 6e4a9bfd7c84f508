/-
  Within at a bitmap.
-/
import Derived.Test.Qxb6601749aRuns
import Derived.Laws.CopyOwn
import Derived.Lib.SliceRun
namespace Go.Proofs.Qxb6601749a
open Go.RowKit

/-! ### The whole row of a set -/
theorem SetIs.heap {w : World} {g n : Nat} {ys : List Int} (h : SetIs w g n ys) : w.heap[g]? = some (.cells (ys.map (Value.int .u8)).toArray 5 (0, 0)) ∧ n ≤ maxLen := by
  rcases h.1.2 with ⟨h', _⟩ | ⟨g', cap, cur, hv, _, hg, _, hcm, hcs, htake⟩
  · simp at h'
  · simp only [Value.slice.injEq, Option.some.injEq, Addr.mk.injEq, and_true, true_and] at hv
    obtain ⟨rfl, rfl⟩ := hv
    have e : cur.toList = ys.map (Value.int .u8) := by
      rw [← htake, List.take_of_length_le (by rw [Array.length_toList, hcs]; exact Nat.le_refl _)]
    refine ⟨?_, hcm⟩
    rw [hg, ← e]

theorem SetIs.of_heap {w : World} {g n : Nat} {ys : List Int} (hl : ys.length = n) (hm : n ≤ maxLen) (h : w.heap[g]? = some (.cells (ys.map (Value.int .u8)).toArray 5 (0, 0))) (hb : ∀ v ∈ ys, isByte v) : SetIs w g n ys :=
  ⟨⟨by simp [hl], Or.inr ⟨g, n, _, rfl, Nat.le_refl _, h, Nat.le_refl _, hm, by simp [hl], List.take_of_length_le (by simp [hl])⟩⟩, hb⟩

/-! ### copy(s, bitmap) -/
/-- What copy lays. -/
def laid (ys zs : List Int) : List Int := zs.take ys.length ++ ys.drop zs.length

theorem laid_length (ys zs : List Int) : (laid ys zs).length = ys.length := by simp [laid]; omega
theorem laid_byte {ys zs : List Int} (h : ∀ v ∈ ys, isByte v) (k : ∀ v ∈ zs, isByte v) : ∀ v ∈ laid ys zs, isByte v := by
  intro v hv
  rcases List.mem_append.1 hv with hv | hv
  · exact k v (List.mem_of_mem_take hv)
  · exact h v (List.mem_of_mem_drop hv)

theorem copy_run {w : World} {g m : Nat} {ys : List Int} {a0 : Option Addr} {n0 c0 : Nat} {zs : List Int} (hset : SetIs w g m ys) (hI : Ints .u8 w a0 n0 zs) (hzb : ∀ v ∈ zs, isByte v) :
    ∃ (w' : World) (k : Nat), (∀ ty, (Builtin.copy_ #[39, 39] ty #[.slice (some ⟨g, 0, none⟩) m m, .slice a0 n0 c0]).run Try.prog w = .ok (.int .i64 k) w') ∧ SetIs w' g m (laid ys zs) ∧ w.grownBy w' (some g) := by
  have hl := hset.length
  have hz := hI.1
  by_cases h0 : min n0 m = 0
  · refine ⟨w, 0, fun ty => run_copy_none w 39 39 ty 5 _ _ m m n0 c0 Try.underlying39 (by kernel_rfl) h0, ?_, grown_refl _ _⟩
    have e : laid ys zs = ys := by
      unfold laid
      rcases Nat.eq_zero_or_pos n0 with hn | hn
      · have : zs = [] := List.eq_nil_of_length_eq_zero (by omega)
        subst this; simp
      · have : ys = [] := List.eq_nil_of_length_eq_zero (by omega)
        subst this; simp
    rw [e]; exact hset
  · rcases hI.2 with h1 | ⟨b, off, rfl, hc⟩
    · omega
    · have hcl : ((zs.take m).map (Value.int .u8)).length = Nat.min n0 m := by show _ = min n0 m; simp [hz]; omega
      have hrun := fun ty => run_copy_row (P := Try.prog) w 39 39 ty 5 g 0 m m ⟨b, off, none⟩ n0 c0 (ys.map (Value.int .u8)).toArray 5 ((zs.take m).map (Value.int .u8)) Try.underlying39 (by kernel_rfl) hset.heap.1 hcl (by
        intro j v hv
        have hj := (List.getElem?_eq_some_iff.1 hv).1
        rw [hcl] at hj
        have hj' : j < min n0 m := hj
        rw [Addr.add_lit, hc j (by omega), ← hv, List.getElem?_map, List.getElem?_take, if_pos (by omega), List.getElem?_eq_getElem (by omega)]
        rfl) (by simp; omega) (ints_oneCell _ _)
      refine ⟨_, _, hrun, SetIs.of_heap (by rw [laid_length, hl]) hset.heap.2 ?_ (laid_byte hset.2 hzb), ⟨rfl, rfl, rfl, by simp, fun k _ hk => setRow_other w g k _ (fun e => hk (by simp [e]))⟩⟩
      rw [setRow_heap w g _ _ 5 _ hset.heap.1]
      congr 2
      unfold laid
      simp only [hl, List.length_map, List.length_take, List.map_append, List.map_drop, List.take_zero, List.nil_append]
      congr 2
      by_cases hmn : n0 ≤ m
      · rw [show 0 + min m zs.length = zs.length by omega]
      · rw [List.drop_eq_nil_of_le (by simp; omega), List.drop_eq_nil_of_le (by simp; omega)]

theorem bitAt_laid {m n0 : Nat} {zs : List Int} (hz : zs.length = n0) {j : Nat} (hj : j < m * 8) : bitAt (laid (List.replicate m 0) zs) j = (decide (j / 8 < n0) && bitAt zs j) := by
  unfold bitAt laid
  rw [List.length_replicate]
  by_cases h : j / 8 < n0
  · rw [decide_eq_true h, Bool.true_and, List.getElem?_append_left (by simp; omega), List.getElem?_take, if_pos (by omega)]
  · rw [decide_eq_false h, Bool.false_and, List.getElem?_append_right (by simp; omega), List.drop_replicate, List.getElem?_replicate]
    split <;> exact bit_zero _

/-! ### clear(s[:q]) -/
def fillz (ys : List Int) (o : Nat) : Nat → List Int
  | 0 => ys
  | q + 1 => fillz (ys.set o 0) (o + 1) q

theorem bitAt_fillz : ∀ (q o : Nat) (ys : List Int) (j : Nat), o + q ≤ ys.length → bitAt (fillz ys o q) j = (decide (j / 8 < o ∨ o + q ≤ j / 8) && bitAt ys j) := by
  intro q
  induction q with
  | zero => intro o ys j _; rw [fillz, decide_eq_true (by omega), Bool.true_and]
  | succ q ih =>
    intro o ys j h
    rw [fillz, ih (o + 1) (ys.set o 0) j (by rw [List.length_set]; omega), bitAt_set (by omega)]
    by_cases hj : j / 8 = o
    · rw [if_pos hj, bit_zero, Bool.and_false, decide_eq_false (by omega), Bool.false_and]
    · rw [if_neg hj]
      congr 1
      apply decide_eq_decide.2
      omega

theorem zero5 (w : World) : (zeroValue 5).run Try.prog w = .ok (.int .u8 0) w := by kernel_rfl

theorem set_fillz {g m : Nat} : ∀ (q o : Nat) (w : World) (ys : List Int), SetIs w g m ys → SetIs (w.setCells g o (List.replicate q (.int .u8 0))) g m (fillz ys o q) ∧ w.grownBy (w.setCells g o (List.replicate q (.int .u8 0))) (some g) := by
  intro q
  induction q with
  | zero => intro o w ys h; exact ⟨h, grown_refl _ _⟩
  | succ q ih =>
    intro o w ys h
    have st := h.stored o (v := 0) ⟨by omega, by omega⟩
    have r := ih (o + 1) _ _ st.1
    rw [List.replicate_succ, World.setCells, fillz]
    exact ⟨r.1, grown_trans st.2 r.2⟩

theorem clear_run {w : World} {g m : Nat} {ys : List Int} (hset : SetIs w g m ys) (q c : Nat) (hq : q ≤ m) :
    ∃ w' : World, (∀ ty, (Builtin.clear_ #[39] ty #[.slice (some ⟨g, 0, none⟩) q c]).run Try.prog w = .ok (.tuple #[]) w') ∧ SetIs w' g m (fillz ys 0 q) ∧ w.grownBy w' (some g) := by
  have r := set_fillz q 0 w ys hset
  refine ⟨_, fun ty => ?_, r.1, r.2⟩
  by_cases h0 : q = 0
  · subst h0
    simp [Builtin.clear_, run_underlying Try.underlying39, World.setCells]
  · exact Lib.run_clear_slice w 39 5 ty (.int .u8 0) Try.underlying39 zero5 rfl rfl g 0 q c (by omega) (fun j hj => by rw [Nat.zero_add, hset.cell j (by omega)]; rfl) (fun j _ => by rw [Nat.zero_add]; exact hset.frozen j)

/-! ### The masks -/
/-- 0xff << (8 - t). -/
theorem upto_byte : ∀ t : Nat, 0 < t → t < 8 → isByte (255 * 2 ^ (8 - t) % 256) ∧ ∀ i, i < 8 → bit (255 * 2 ^ (8 - t) % 256) i = decide (i < t) := by
  intro t h0 h8
  match t, h0, h8 with
  | 1, _, _ => exact ⟨⟨by decide, by decide⟩, by decide⟩
  | 2, _, _ => exact ⟨⟨by decide, by decide⟩, by decide⟩
  | 3, _, _ => exact ⟨⟨by decide, by decide⟩, by decide⟩
  | 4, _, _ => exact ⟨⟨by decide, by decide⟩, by decide⟩
  | 5, _, _ => exact ⟨⟨by decide, by decide⟩, by decide⟩
  | 6, _, _ => exact ⟨⟨by decide, by decide⟩, by decide⟩
  | 7, _, _ => exact ⟨⟨by decide, by decide⟩, by decide⟩

theorem cut_next {w : World} {g m nx : Nat} {ys : List Int} (h : SetIs w g m ys) (h8 : nx % 8 ≠ 0) (hm1 : nx ≤ m * 8) (hm2 : m * 8 ≤ nx + 7) :
    SetIs (w.setCell ⟨g, m - 1, none⟩ (.int .u8 (bits .and .u8 (ys[m - 1]?.getD 0) (255 * 2 ^ (8 - nx % 8) % 256)))).drew g m (ys.set (m - 1) (bits .and .u8 (ys[m - 1]?.getD 0) (255 * 2 ^ (8 - nx % 8) % 256))) ∧
    w.grownBy (w.setCell ⟨g, m - 1, none⟩ (.int .u8 (bits .and .u8 (ys[m - 1]?.getD 0) (255 * 2 ^ (8 - nx % 8) % 256)))).drew (some g) ∧
    ∀ j, j < m * 8 → bitAt (ys.set (m - 1) (bits .and .u8 (ys[m - 1]?.getD 0) (255 * 2 ^ (8 - nx % 8) % 256))) j = (decide (j < nx) && bitAt ys j) := by
  have hl := h.length
  have mk := upto_byte (nx % 8) (by omega) (by omega)
  have an := and_byte (byte_get h.2 (m - 1)) mk.1
  have st := h.stored (m - 1) an.1
  refine ⟨st.1.drew, grown_drew st.2, fun j hj => ?_⟩
  rw [bitAt_set (by omega)]
  by_cases hq : j / 8 = m - 1
  · rw [if_pos hq, an.2, mk.2 _ (by omega), Bool.and_comm]
    unfold bitAt
    rw [hq]
    congr 1
    apply decide_eq_decide.2
    omega
  · rw [if_neg hq, decide_eq_true (by omega), Bool.true_and]

theorem cut_first {w : World} {g m F : Nat} {ys : List Int} (h : SetIs w g m ys) (hq : F / 8 < m) (hz : ∀ j, j < m * 8 → j / 8 < F / 8 → bitAt ys j = false) :
    SetIs (w.setCell ⟨g, F / 8, none⟩ (.int .u8 (bits .and .u8 (ys[F / 8]?.getD 0) (255 / 2 ^ (F % 8))))).drew g m (ys.set (F / 8) (bits .and .u8 (ys[F / 8]?.getD 0) (255 / 2 ^ (F % 8)))) ∧
    w.grownBy (w.setCell ⟨g, F / 8, none⟩ (.int .u8 (bits .and .u8 (ys[F / 8]?.getD 0) (255 / 2 ^ (F % 8))))).drew (some g) ∧
    ∀ j, j < m * 8 → bitAt (ys.set (F / 8) (bits .and .u8 (ys[F / 8]?.getD 0) (255 / 2 ^ (F % 8)))) j = (decide (F ≤ j) && bitAt ys j) := by
  have hl := h.length
  have mk := from_byte (F % 8) (by omega)
  have an := and_byte (byte_get h.2 (F / 8)) mk.1
  have st := h.stored (F / 8) an.1
  refine ⟨st.1.drew, grown_drew st.2, fun j hj => ?_⟩
  rw [bitAt_set (by omega)]
  by_cases hq : j / 8 = F / 8
  · rw [if_pos hq, an.2, mk.2 _ (by omega), Bool.and_comm]
    unfold bitAt
    rw [hq]
    congr 1
    apply decide_eq_decide.2
    omega
  · rw [if_neg hq]
    by_cases hlt : j / 8 < F / 8
    · rw [hz j hj hlt, Bool.and_false]
    · rw [decide_eq_true (by omega), Bool.true_and]

set_option maxHeartbeats 1000000 in
theorem within_bitmap_m (pb : Nat) (a0 : Option Addr) (n0 c0 : Nat) (zs : List Int) (c1 : Nat) (F nx m : Nat) (w : World) (hp0 : w.cell? ⟨pb, 0, none⟩ = some (.slice a0 n0 c0)) (hp1 : w.cell? ⟨pb, 1, none⟩ = some (.slice none 0 c1))
    (hF : F ≤ 9223372036854775800) (hnx : nx ≤ 65536) (hm1 : nx ≤ m * 8) (hm2 : m * 8 ≤ nx + 7) (hI : Ints .u8 w a0 n0 zs) (hzb : ∀ v ∈ zs, isByte v)
    (c36 : Calls Try.prog 36 #[.int .i64 nx] w fun e w' => e = .returned (.slice (some ⟨w.heap.size, 0, none⟩) m m) ∧ SetIs w' w.heap.size m (List.replicate m 0) ∧ Below w.heap.size w w') :
    Calls Try.prog 28 #[.pointer (some ⟨pb, 0, none⟩), .int .i64 F, .int .i64 nx] w fun e w' => ∃ g ys, e = .returned (.slice (some ⟨g, 0, none⟩) m m) ∧ SetIs w' g m ys ∧ Below w.heap.size w w' ∧
      ∀ j, j < m * 8 → bitAt ys j = (decide (F ≤ j ∧ j < nx) && (decide (j / 8 < n0) && bitAt zs j)) := by
  have hnil := fun (w : World) (a : Option Addr) (n c n' c' : Nat) => Lib.run_eql_slice_nil (P := Try.prog) w 34 43 a n c n' c' Try.underlying34
  have hpb := World.block_lt_of_cell? w _ hp0
  by_cases h8 : nx % 8 = 0
  · have h8' : ((nx : Int) % 8 != 0) = false := by simp; omega
    go_enter Try.func28, Try.ntmps28
    go_wp2_with fail
    refine c36.mono ?_
    rintro e w0 ⟨rfl, hs0, hb0⟩
    have q0 := (hb0.cell (p := ⟨pb, 0, none⟩) hpb).trans hp0
    have q1 := (hb0.cell (p := ⟨pb, 1, none⟩) hpb).trans hp1
    have hI0 := hI.below hb0
    have HB0 : Hid (∀ j, j < m * 8 → bitAt (laid (List.replicate m 0) zs) j = (decide (j / 8 < n0) && bitAt zs j)) := fun j hj => bitAt_laid hI.1 hj
    obtain ⟨w1, kc, hcp, hs2, hg1⟩ := copy_run (c0 := c0) hs0 hI0 hzb
    have hb2 := below_set hb0 (Nat.le_refl _) hg1
    generalize laid (List.replicate m 0) zs = ys2 at hs2 HB0
    have HB2 : Hid (∀ j, j < m * 8 → bitAt ys2 j = (decide (j < nx) && (decide (j / 8 < n0) && bitAt zs j))) := by
      intro j hj
      rw [HB0.out j hj, decide_eq_true (show j < nx by omega), Bool.true_and]
    clear HB0 hg1 hI0 hI hzb
    rcases (show m < F / 8 ∨ F / 8 = m ∨ F / 8 < m from by omega) with hq | hq | hq
    · obtain ⟨w3, hcl, hs3, hg3⟩ := clear_run hs2 m m (Nat.le_refl _)
      have hb3 := below_set hb2 (Nat.le_refl _) hg3
      have hq' : (m : Int) < (F : Int) / 8 := by omega
      have HB3 : Hid (∀ j, j < m * 8 → bitAt (fillz ys2 0 m) j = (decide (F ≤ j ∧ j < nx) && (decide (j / 8 < n0) && bitAt zs j))) := by
        intro j hj
        rw [bitAt_fillz m 0 ys2 j (by rw [hs2.length]; omega), decide_eq_false (by omega), Bool.false_and, decide_eq_false (by omega), Bool.false_and]
      go_wp2_with fail
      go_ret
      exact ⟨_, _, rfl, hs3, hb3, HB3.out⟩
    · obtain ⟨w3, hcl, hs3, hg3⟩ := clear_run hs2 m m (Nat.le_refl _)
      have hb3 := below_set hb2 (Nat.le_refl _) hg3
      have hq' : (F : Int) / 8 = m := by omega
      have HB3 : Hid (∀ j, j < m * 8 → bitAt (fillz ys2 0 m) j = (decide (F ≤ j ∧ j < nx) && (decide (j / 8 < n0) && bitAt zs j))) := by
        intro j hj
        rw [bitAt_fillz m 0 ys2 j (by rw [hs2.length]; omega), decide_eq_false (by omega), Bool.false_and, decide_eq_false (by omega), Bool.false_and]
      clear hq
      go_wp2_with fail
      go_ret
      exact ⟨_, _, rfl, hs3, hb3, HB3.out⟩
    · obtain ⟨w3, hcl, hs3, hg3⟩ := clear_run hs2 (F / 8) m (by omega)
      have hb3 := below_set hb2 (Nat.le_refl _) hg3
      have hq' : (F : Int) / 8 < m := by omega
      have hz3 : ∀ j, j < m * 8 → j / 8 < F / 8 → bitAt (fillz ys2 0 (F / 8)) j = false := by
        intro j hj hlt
        rw [bitAt_fillz _ 0 ys2 j (by rw [hs2.length]; omega), decide_eq_false (by omega), Bool.false_and]
      have C := cut_first hs3 hq hz3
      have HC : Hid (∀ j, j < m * 8 → bitAt ((fillz ys2 0 (F / 8)).set (F / 8) (bits .and .u8 ((fillz ys2 0 (F / 8))[F / 8]?.getD 0) (255 / 2 ^ (F % 8)))) j = (decide (F ≤ j ∧ j < nx) && (decide (j / 8 < n0) && bitAt zs j))) := by
        intro j hj
        rw [C.2.2 j hj, bitAt_fillz _ 0 ys2 j (by rw [hs2.length]; omega), HB2.out j hj]
        by_cases hFj : F ≤ j
        · rw [decide_eq_true hFj, decide_eq_true (show j / 8 < 0 ∨ 0 + F / 8 ≤ j / 8 by omega), Bool.true_and, Bool.true_and]
          congr 1
          apply decide_eq_decide.2
          omega
        · rw [decide_eq_false hFj, Bool.false_and, decide_eq_false (by omega), Bool.false_and]
      have HS : Hid (SetIs (w3.setCell ⟨w.heap.size, F / 8, none⟩ (.int .u8 (bits .and .u8 ((fillz ys2 0 (F / 8))[F / 8]?.getD 0) (255 / 2 ^ (F % 8))))).drew w.heap.size m ((fillz ys2 0 (F / 8)).set (F / 8) (bits .and .u8 ((fillz ys2 0 (F / 8))[F / 8]?.getD 0) (255 / 2 ^ (F % 8))))) := C.1
      have hb4 := below_set hb3 (Nat.le_refl _) C.2.1
      clear C hz3
      have d0 := hs3.cell (F / 8) (by omega)
      have d1 := hs3.frozen (F / 8)
      have d2 : (0 : Int) ≤ (F : Int) / 8 := by omega
      have d3 : ((F : Int) / 8).toNat = F / 8 := by omega
      go_wp2_with fail
      go_region
      go_wp2_with fail
      go_ret
      exact ⟨_, _, rfl, HS.out, hb4, HC.out⟩
  · have h8' : ((nx : Int) % 8 != 0) = true := by simp; omega
    go_enter Try.func28, Try.ntmps28
    go_wp2_with fail
    refine c36.mono ?_
    rintro e w0 ⟨rfl, hs0, hb0⟩
    have q0 := (hb0.cell (p := ⟨pb, 0, none⟩) hpb).trans hp0
    have q1 := (hb0.cell (p := ⟨pb, 1, none⟩) hpb).trans hp1
    have hI0 := hI.below hb0
    have HB0 : Hid (∀ j, j < m * 8 → bitAt (laid (List.replicate m 0) zs) j = (decide (j / 8 < n0) && bitAt zs j)) := fun j hj => bitAt_laid hI.1 hj
    obtain ⟨w1, kc, hcp, hs1, hg1⟩ := copy_run (c0 := c0) hs0 hI0 hzb
    have hb1 := below_set hb0 (Nat.le_refl _) hg1
    generalize laid (List.replicate m 0) zs = ys1 at hs1 HB0
    have C := cut_next hs1 h8 hm1 hm2
    have hb2 := below_set hb1 (Nat.le_refl _) C.2.1
    have hs2 := C.1
    have HB2 : Hid (∀ j, j < m * 8 → bitAt (ys1.set (m - 1) (bits .and .u8 (ys1[m - 1]?.getD 0) (255 * 2 ^ (8 - nx % 8) % 256))) j = (decide (j < nx) && (decide (j / 8 < n0) && bitAt zs j))) := by
      intro j hj
      rw [C.2.2 j hj, HB0.out j hj]
    have k0 := hs1.cell (m - 1) (by omega)
    have k1 := hs1.frozen (m - 1)
    have k2 : IntKind.i64.wrap ((m : Int) - 1) = (m : Int) - 1 := by rw [IntKind.wrap_i64]; omega
    have k3 : (0 : Int) ≤ (m : Int) - 1 := by omega
    have k4 : ((m : Int) - 1).toNat = m - 1 := by omega
    have k5 : IntKind.i64.wrap (8 - (nx : Int) % 8) = 8 - (nx : Int) % 8 := by rw [IntKind.wrap_i64]; omega
    have k6 : (0 : Int) ≤ 8 - (nx : Int) % 8 := by omega
    have k7 : (8 - (nx : Int) % 8).toNat = 8 - nx % 8 := by omega
    clear HB0 hg1 hI0 hI hzb C
    generalize hys : ys1.set (m - 1) (bits .and .u8 (ys1[m - 1]?.getD 0) (255 * 2 ^ (8 - nx % 8) % 256)) = ys2 at hs2 HB2
    clear hys
    have HS2 : Hid (SetIs (w1.setCell ⟨w.heap.size, m - 1, none⟩ (.int .u8 (bits .and .u8 (ys1[m - 1]?.getD 0) (255 * 2 ^ (8 - nx % 8) % 256)))).drew w.heap.size m ys2) := hs2
    have HB' : Hid (Below w.heap.size w (w1.setCell ⟨w.heap.size, m - 1, none⟩ (.int .u8 (bits .and .u8 (ys1[m - 1]?.getD 0) (255 * 2 ^ (8 - nx % 8) % 256)))).drew) := hb2
    clear hs2 hb2
    go_wp2_with fail
    go_region
    have hs2 := HS2.out
    have hb2 := HB'.out
    clear HS2 HB' k0 k1 k2 k3 k4 k5 k6 k7
    generalize (w1.setCell ⟨w.heap.size, m - 1, none⟩ (.int .u8 (bits .and .u8 (ys1[m - 1]?.getD 0) (255 * 2 ^ (8 - nx % 8) % 256)))).drew = W2 at hs2 hb2 ⊢
    rcases (show m < F / 8 ∨ F / 8 = m ∨ F / 8 < m from by omega) with hq | hq | hq
    · obtain ⟨w3, hcl, hs3, hg3⟩ := clear_run hs2 m m (Nat.le_refl _)
      have hb3 := below_set hb2 (Nat.le_refl _) hg3
      have hq' : (m : Int) < (F : Int) / 8 := by omega
      have HB3 : Hid (∀ j, j < m * 8 → bitAt (fillz ys2 0 m) j = (decide (F ≤ j ∧ j < nx) && (decide (j / 8 < n0) && bitAt zs j))) := by
        intro j hj
        rw [bitAt_fillz m 0 ys2 j (by rw [hs2.length]; omega), decide_eq_false (by omega), Bool.false_and, decide_eq_false (by omega), Bool.false_and]
      go_wp2_with fail
      go_ret
      exact ⟨_, _, rfl, hs3, hb3, HB3.out⟩
    · obtain ⟨w3, hcl, hs3, hg3⟩ := clear_run hs2 m m (Nat.le_refl _)
      have hb3 := below_set hb2 (Nat.le_refl _) hg3
      have hq' : (F : Int) / 8 = m := by omega
      have HB3 : Hid (∀ j, j < m * 8 → bitAt (fillz ys2 0 m) j = (decide (F ≤ j ∧ j < nx) && (decide (j / 8 < n0) && bitAt zs j))) := by
        intro j hj
        rw [bitAt_fillz m 0 ys2 j (by rw [hs2.length]; omega), decide_eq_false (by omega), Bool.false_and, decide_eq_false (by omega), Bool.false_and]
      clear hq
      go_wp2_with fail
      go_ret
      exact ⟨_, _, rfl, hs3, hb3, HB3.out⟩
    · obtain ⟨w3, hcl, hs3, hg3⟩ := clear_run hs2 (F / 8) m (by omega)
      have hb3 := below_set hb2 (Nat.le_refl _) hg3
      have hq' : (F : Int) / 8 < m := by omega
      have hz3 : ∀ j, j < m * 8 → j / 8 < F / 8 → bitAt (fillz ys2 0 (F / 8)) j = false := by
        intro j hj hlt
        rw [bitAt_fillz _ 0 ys2 j (by rw [hs2.length]; omega), decide_eq_false (by omega), Bool.false_and]
      have C := cut_first hs3 hq hz3
      have HC : Hid (∀ j, j < m * 8 → bitAt ((fillz ys2 0 (F / 8)).set (F / 8) (bits .and .u8 ((fillz ys2 0 (F / 8))[F / 8]?.getD 0) (255 / 2 ^ (F % 8)))) j = (decide (F ≤ j ∧ j < nx) && (decide (j / 8 < n0) && bitAt zs j))) := by
        intro j hj
        rw [C.2.2 j hj, bitAt_fillz _ 0 ys2 j (by rw [hs2.length]; omega), HB2.out j hj]
        by_cases hFj : F ≤ j
        · rw [decide_eq_true hFj, decide_eq_true (show j / 8 < 0 ∨ 0 + F / 8 ≤ j / 8 by omega), Bool.true_and, Bool.true_and]
          congr 1
          apply decide_eq_decide.2
          omega
        · rw [decide_eq_false hFj, Bool.false_and, decide_eq_false (by omega), Bool.false_and]
      have HS : Hid (SetIs (w3.setCell ⟨w.heap.size, F / 8, none⟩ (.int .u8 (bits .and .u8 ((fillz ys2 0 (F / 8))[F / 8]?.getD 0) (255 / 2 ^ (F % 8))))).drew w.heap.size m ((fillz ys2 0 (F / 8)).set (F / 8) (bits .and .u8 ((fillz ys2 0 (F / 8))[F / 8]?.getD 0) (255 / 2 ^ (F % 8))))) := C.1
      have hb4 := below_set hb3 (Nat.le_refl _) C.2.1
      clear C hz3
      have d0 := hs3.cell (F / 8) (by omega)
      have d1 := hs3.frozen (F / 8)
      have d2 : (0 : Int) ≤ (F : Int) / 8 := by omega
      have d3 : ((F : Int) / 8).toNat = F / 8 := by omega
      go_wp2_with fail
      go_region
      go_wp2_with fail
      go_ret
      exact ⟨_, _, rfl, HS.out, hb4, HC.out⟩

end Go.Proofs.Qxb6601749a
