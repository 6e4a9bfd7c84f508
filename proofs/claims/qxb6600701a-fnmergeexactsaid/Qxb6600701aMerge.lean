/-
  causal.Merge computes 'mrg'.
-/
import Derived.Test.Qxb6600701aSorted
import Derived.Deep.RegionHeld3
namespace Go.Proofs.Qxb6600701a
open Go.RowKit

/-! ### What a round does to the list -/
theorem mrg_lt {ds es : List D} {i j : Nat} (hi : i < ds.length) (hj : j < es.length) (h : ltA (ds[i]?.getD (ByteArray.empty, 0)).1 (es[j]?.getD (ByteArray.empty, 0)).1 = true) :
    mrg (ds.drop i) (es.drop j) = ds[i]?.getD (ByteArray.empty, 0) :: mrg (ds.drop (i + 1)) (es.drop j) := by
  rw [drop_dots ds i hi, drop_dots es j hj, mrg_cons, if_pos h]
theorem mrg_gt {ds es : List D} {i j : Nat} (hi : i < ds.length) (hj : j < es.length) (h : ltA (es[j]?.getD (ByteArray.empty, 0)).1 (ds[i]?.getD (ByteArray.empty, 0)).1 = true) :
    mrg (ds.drop i) (es.drop j) = es[j]?.getD (ByteArray.empty, 0) :: mrg (ds.drop i) (es.drop (j + 1)) := by
  rw [drop_dots ds i hi, drop_dots es j hj, mrg_cons, if_neg (by rw [ltA_asymm h]; simp), if_pos h]
theorem mrg_eq {ds es : List D} {i j : Nat} (hi : i < ds.length) (hj : j < es.length) (h : ltA (ds[i]?.getD (ByteArray.empty, 0)).1 (es[j]?.getD (ByteArray.empty, 0)).1 = false) (h' : ltA (es[j]?.getD (ByteArray.empty, 0)).1 (ds[i]?.getD (ByteArray.empty, 0)).1 = false) :
    mrg (ds.drop i) (es.drop j) = ((ds[i]?.getD (ByteArray.empty, 0)).1, max (ds[i]?.getD (ByteArray.empty, 0)).2 (es[j]?.getD (ByteArray.empty, 0)).2) :: mrg (ds.drop (i + 1)) (es.drop (j + 1)) := by
  rw [drop_dots ds i hi, drop_dots es j hj, mrg_cons, if_neg (by rw [h]; simp), if_neg (by rw [h']; simp)]
theorem mrg_tail {ds es : List D} {i j : Nat} (h : ¬ (i < ds.length ∧ j < es.length)) : mrg (ds.drop i) (es.drop j) = ds.drop i ++ es.drop j := by
  by_cases hi : i < ds.length
  · rw [List.drop_eq_nil_of_le (show es.length ≤ j by omega), mrg_nil_right, List.append_nil]
  · rw [List.drop_eq_nil_of_le (show ds.length ≤ i by omega), mrg_nil_left, List.nil_append]

theorem rel_lt {ds es xs : List D} {i j : Nat} {x y : D} (h : xs ++ mrg (ds.drop i) (es.drop j) = mrg ds es) (hi : i < ds.length) (hj : j < es.length) (hx : x = ds[i]?.getD (ByteArray.empty, 0)) (hy : y = es[j]?.getD (ByteArray.empty, 0))
    (e : Op.bytesLess x.1.toList y.1.toList = true) : (xs ++ [(x.1, x.2)]) ++ mrg (ds.drop (i + 1)) (es.drop j) = mrg ds es := by
  subst hx; subst hy
  rw [← h, mrg_lt hi hj e]; simp
theorem rel_gt {ds es xs : List D} {i j : Nat} {x y : D} (h : xs ++ mrg (ds.drop i) (es.drop j) = mrg ds es) (hi : i < ds.length) (hj : j < es.length) (hx : x = ds[i]?.getD (ByteArray.empty, 0)) (hy : y = es[j]?.getD (ByteArray.empty, 0))
    (e : Op.bytesLess y.1.toList x.1.toList = true) : (xs ++ [(y.1, y.2)]) ++ mrg (ds.drop i) (es.drop (j + 1)) = mrg ds es := by
  subst hx; subst hy
  rw [← h, mrg_gt hi hj e]; simp
theorem rel_eq {ds es xs : List D} {i j : Nat} {x y : D} (h : xs ++ mrg (ds.drop i) (es.drop j) = mrg ds es) (hi : i < ds.length) (hj : j < es.length) (hx : x = ds[i]?.getD (ByteArray.empty, 0)) (hy : y = es[j]?.getD (ByteArray.empty, 0))
    (e : Op.bytesLess x.1.toList y.1.toList = false) (e' : Op.bytesLess y.1.toList x.1.toList = false) : (xs ++ [(x.1, max x.2 y.2)]) ++ mrg (ds.drop (i + 1)) (es.drop (j + 1)) = mrg ds es := by
  subst hx; subst hy
  rw [← h, mrg_eq hi hj e e']; simp
theorem rel_end {ds es xs : List D} {i j : Nat} (h : xs ++ mrg (ds.drop i) (es.drop j) = mrg ds es) (hn : ¬ (i < ds.length ∧ j < es.length)) : xs ++ ds.drop i ++ es.drop j = mrg ds es := by
  rw [← h, mrg_tail hn, List.append_assoc]

/-- append WITHIN THE CAPACITY, as one step of a region that draws. -/
theorem step_append_fits {P : Program} {ops : Array Oper} {o : Oper} {a : Act} {w : World} {K : Act → World → Prop} {Q : Exit → Act → World → Prop} {E : Prop}
    (hg : o.guard = none) (s x : Operand) (t : TypeId) (hop : o.op = Op.call { callee := Callee.builtin Builtin.append, args := #[s, x], argTypes := #[t, t] })
    (base : Nat) (e : TypeId) (i : TypeInfo) (size : Nat) (h1 : P.underlying t = some (.slice e)) (h2 : P.info? e = some i) (h4 : i.size = size)
    (g k cap : Nat) (xs : List Value) (hs : a.eval s = .slice (some ⟨g, 0, none⟩) k cap) (hown : w.ownsRow base e size (.slice (some ⟨g, 0, none⟩) k cap) k xs) (ad : Addr) (m c : Nat) (news : List Value) (hx : a.eval x = .slice (some ad) m c) (hn : news.length = m * size)
    (hc : ∀ j u, news[j]? = some u → w.cell? (ad.add j) = some u) (h1c : ∀ u ∈ news, u.oneCell' = true) (b1 : k + m ≤ cap)
    (hK : ∀ w', w'.ownsRow base e size (.slice (some ⟨g, 0, none⟩) (k + m) cap) (k + m) (xs ++ news) → w.grownBy w' (some g) → K (a.put o.dst (.slice (some ⟨g, 0, none⟩) (k + m) cap)) w') :
    if Region.wanted o (yielded ops a.tmps) = true then Oper.wp P o a w K Q else E := by
  have hw : Region.wanted o (yielded ops a.tmps) = true := by simp [Region.wanted, hg]
  rw [if_pos hw]
  obtain ⟨w', hrun, r1, r2⟩ := run_append_fits (P := P) w base t o.type e i size h1 h2 h4 g k cap xs hown ad m c news hn hc h1c b1
  unfold Oper.wp
  simp [execOp, hop, resolve, invoke, builtin, hs, hx, hrun, Result.andThen]
  exact hK w' r1 r2

theorem one_cells (w : World) (s : ByteArray) (z : Int) : ∀ j u, (cellsOf [(s, z)])[j]? = some u → (w.alloc (.cells #[.string s, .int .u64 z] 35)).drew.cell? ((⟨w.heap.size, 0, none⟩ : Addr).add j) = some u := by
  intro j u hu
  match j, hu with
  | 0, hu => simp [cellsOf] at hu; subst hu; simp [Addr.add]
  | 1, hu => simp [cellsOf] at hu; subst hu; simp [Addr.add]

/-- The cells of 'v[i:]', for an append of the rest. -/
theorem cells_rest {w : World} {g n c i : Nat} {ds : List D} (h : Dots w (some ⟨g, 0, none⟩) n ds) (hnc : n ≤ c) {ao : Option Addr} (hao : ¬ c = i → ao = some ⟨g, i * 2, none⟩) :
    ∀ ad, ao = some ad → ∀ t u, (cellsOf (ds.drop i))[t]? = some u → w.cell? (ad.add t) = some u := by
  intro ad had t u hu
  have hl := h.1
  have ht := (List.getElem?_eq_some_iff.1 hu).1
  rw [cellsOf_length, List.length_drop, hl] at ht
  rw [hao (by omega)] at had
  obtain rfl := Option.some.inj had
  rw [Addr.add_lit]
  have e := h.cells _ rfl (i * 2 + t) u ?_
  · rwa [Addr.add_lit, Nat.zero_add] at e
  · have e2 : ds = ds.take i ++ ds.drop i := (List.take_append_drop i ds).symm
    rw [e2, cellsOf_append, List.getElem?_append_right (by rw [cellsOf_length, List.length_take]; omega), cellsOf_length, List.length_take]
    rw [show i * 2 + t - min i ds.length * 2 = t by omega]
    exact hu

theorem below_own {w wr w1 : World} (hb : Below w.heap.size w wr) (hg : wr.grownBy w1 (some w.heap.size)) : Below w.heap.size w w1 :=
  hb.grown hg hb.size (fun k hk => by cases hk; exact Nat.le_refl _)

set_option maxHeartbeats 1000000 in
set_option maxRecDepth 100000 in
theorem merge_some (g n c : Nat) (ds : List D) (g' n' c' : Nat) (es : List D) (w : World) (hm : n ≤ 1048576) (hm' : n' ≤ 1048576) (h : Vec w (some ⟨g, 0, none⟩) n c ds) (h' : Vec w (some ⟨g', 0, none⟩) n' c' es) :
    Calls Try.prog 12 #[.slice (some ⟨g, 0, none⟩) n c, .slice (some ⟨g', 0, none⟩) n' c'] w fun e w' => ∃ m cap, e = .returned (.slice (some ⟨w.heap.size, 0, none⟩) m cap) ∧ Vec w' (some ⟨w.heap.size, 0, none⟩) m cap (mrg ds es) ∧ Below w.heap.size w w' := by
  obtain ⟨i0, hi, hz0, hz1, hz2⟩ := info_parts Try.info35
  have HL : Hid (ds.length = n) := h.dots.1
  have HL' : Hid (es.length = n') := h'.dots.1
  go_enter Try.func12, Try.ntmps12
  go_wp2_with (at_make; refine wpList_make_own _ rfl _ _ 27 rfl w.heap.size 35 i0 _ 2 Try.underlying27 hi hz0 hz1 _ _ _ (n + n') rfl rfl (by omega) ?b2 ?b3 (Nat.le_refl _) ?_)
  case b2 => rw [hz2]; omega
  case b3 => unfold maxLen; omega
  intro w0 hown0 hgrow0
  go_wp2_with fail
  go_loopw [5, 6, 7] (fun out si sj wr => ∃ (i j : Nat) (xs : List D), i ≤ n ∧ j ≤ n' ∧ si = .int .i64 i ∧ sj = .int .i64 j ∧ out = .slice (some ⟨w.heap.size, 0, none⟩) xs.length (n + n') ∧
      wr.ownsRow w.heap.size 35 2 (.slice (some ⟨w.heap.size, 0, none⟩) xs.length (n + n')) xs.length (cellsOf xs) ∧ Hid (xs ++ mrg (ds.drop i) (es.drop j) = mrg ds es) ∧ xs.length ≤ i + j ∧ Below w.heap.size w wr)
    (fun _ si sj _ => (n - (intOf si).toNat) + (n' - (intOf sj).toNat))
  case atStart => exact ⟨0, 0, [], Nat.zero_le _, Nat.zero_le _, rfl, rfl, rfl, hown0, rfl, Nat.le_refl _, (Below.refl _ _).grown hgrow0 (Nat.le_refl _) (fun k h => by cases h)⟩
  case round =>
    obtain ⟨i, j, xs, hin, hjn, rfl, rfl, rfl, hown, hx, hxl, hb⟩ := hrel
    by_cases hlt : i < n ∧ j < n'
    · obtain ⟨hi1, hj1⟩ := hlt
      obtain ⟨x, hX, cx0, cx1⟩ : ∃ x : D, Hid (x = ds[i]?.getD (ByteArray.empty, 0)) ∧ wr.cell? ⟨g, i * 2, none⟩ = some (.string x.1) ∧ wr.cell? ⟨g, i * 2 + 1, none⟩ = some (.int .u64 x.2) := ⟨_, rfl, (h.below hb).dots.own i hi1⟩
      obtain ⟨y, hY, cy0, cy1⟩ : ∃ y : D, Hid (y = es[j]?.getD (ByteArray.empty, 0)) ∧ wr.cell? ⟨g', j * 2, none⟩ = some (.string y.1) ∧ wr.cell? ⟨g', j * 2 + 1, none⟩ = some (.int .u64 y.2) := ⟨_, rfl, (h'.below hb).dots.own j hj1⟩
      have e1 : (i : Int) < n := by omega
      have e2 : (j : Int) < n' := by omega
      have hlI : i < ds.length := by have := HL.out; omega
      have hlJ : j < es.length := by have := HL'.out; omega
      cases hxy : Op.bytesLess x.1.toList y.1.toList with
      | true =>
        go_wp2_with fail
        go_region
        go_wp2_with (at_builtin; refine wpList_append_fits _ rfl (.tmp 60) (.tmp 65) 27 rfl w.heap.size 35 i0 2 Try.underlying27 hi hz1 w.heap.size xs.length (n + n') _ rfl (hown.alloc _).drew ⟨wr.heap.size, 0, none⟩ 1 1 (cellsOf [(x.1, x.2)]) rfl rfl (one_cells wr x.1 x.2) (cellsOf_one _) (by omega) ?_; intro w1 hown1 hgrow1)
        have R := rel_lt hx.out hlI hlJ hX.out hY.out hxy
        rw [← cellsOf_append] at hown1
        go_roundw
        case rel => exact ⟨i + 1, j, xs ++ [(x.1, x.2)], by omega, hjn, by go_num, rfl, by simp, by simpa using hown1, R, by simp; omega, (hb.alloc hb.size _).drew.grown hgrow1 (by have := hb.size; simp; omega) (fun k hk => by cases hk; exact Nat.le_refl _)⟩
        case measure => simp [intOf]; omega
      | false =>
        cases hyx : Op.bytesLess y.1.toList x.1.toList with
        | true =>
          have hne : (x.1.toList == y.1.toList) = false := by
            cases e : (x.1.toList == y.1.toList) with
            | false => rfl
            | true =>
              have e' : x.1.toList = y.1.toList := by simpa using e
              rw [e'] at hyx
              have := ltA_irrefl y.1
              simp [ltA, hyx] at this
          go_wp2_with fail
          go_region
          go_wp2_with fail
          go_region
          go_wp2_with (at_builtin; refine wpList_append_fits _ rfl (.tmp 81) (.tmp 86) 27 rfl w.heap.size 35 i0 2 Try.underlying27 hi hz1 w.heap.size xs.length (n + n') _ rfl (hown.alloc _).drew.drew ⟨wr.heap.size, 0, none⟩ 1 1 (cellsOf [(y.1, y.2)]) rfl rfl (one_cells wr y.1 y.2) (cellsOf_one _) (by omega) ?_; intro w1 hown1 hgrow1)
          have R := rel_gt hx.out hlI hlJ hX.out hY.out hyx
          rw [← cellsOf_append] at hown1
          go_roundw
          case rel => exact ⟨i, j + 1, xs ++ [(y.1, y.2)], hin, by omega, rfl, by go_num, by simp, by simpa using hown1, R, by simp; omega, (hb.alloc hb.size _).drew.drew.grown hgrow1 (by have := hb.size; simp; omega) (fun k hk => by cases hk; exact Nat.le_refl _)⟩
          case measure => simp [intOf]; omega
        | false =>
          have hne : (x.1.toList == y.1.toList) = true := by rw [ltA_total (s := x.1) (t := y.1) hxy hyx]; simp
          have R := rel_eq hx.out hlI hlJ hX.out hY.out hxy hyx
          have hg1 : g < w.heap.size := World.block_lt_of_cell? w _ (h.dots.own i hi1).1
          have hg2 : g' < w.heap.size := World.block_lt_of_cell? w _ (h'.dots.own j hj1).1
          obtain ⟨z, hz, HZ⟩ : ∃ z : Int, (if x.2 < y.2 then y.2 else x.2) = z ∧ Hid (max x.2 y.2 = z) := by
            refine ⟨_, rfl, ?_⟩
            show max x.2 y.2 = _
            split <;> omega
          rw [HZ.out] at R
          go_wp2_with fail
          go_region
          go_wp2_with fail
          go_region
          go_wp2_with fail
          go_region_held3 (fun w' => w'.cell? ⟨g, i * 2, none⟩ = some (.string x.1) ∧ w'.cell? ⟨g, i * 2 + 1, none⟩ = some (.int .u64 x.2) ∧ w'.cell? ⟨g', j * 2 + 1, none⟩ = some (.int .u64 y.2)) ((first | (refine ⟨hgrow1.cell ?_ ?_, hgrow1.cell ?_ ?_, hgrow1.cell ?_ ?_⟩ <;> first | (simp; omega) | simp [*]) | go_keep)) ((refine step_append_fits rfl (.tmp 24) (.tmp 42) 27 rfl w.heap.size 35 i0 2 Try.underlying27 hi hz1 w.heap.size xs.length (n + n') (cellsOf xs) rfl (hown.alloc _) ⟨wr.heap.size, 0, none⟩ 1 1 (cellsOf [(x.1, z)]) rfl rfl (one_cells wr x.1 z) (cellsOf_one _) (by omega) ?_; intro w1 hown1 hgrow1))
          go_wp2_with fail
          rw [← cellsOf_append] at hown1
          go_roundw
          case rel => exact ⟨i + 1, j + 1, xs ++ [(x.1, z)], by omega, by omega, by go_num, by go_num, by simp, by simpa using hown1, R, by simp; omega, (hb.alloc hb.size _).drew.drew.drew.grown hgrow1 (by have := hb.size; simp; omega) (fun k hk => by cases hk; exact Nat.le_refl _)⟩
          case measure => simp [intOf]; omega
    · have hA := (h.below hb).dots
      have hC' := h'.below hb
      have hrest : Hid (xs ++ ds.drop i ++ es.drop j = mrg ds es) := rel_end hx.out (by have := HL.out; have := HL'.out; omega)
      have hrA := h.room
      have hrC := h'.room
      have hcA := h.big
      have hcC := h'.big
      rcases (show (i < n ∧ ¬ j < n') ∨ ¬ i < n from by omega) with ⟨hi1, hj1⟩ | hi1
      all_goals
        clear hlt
        go_wp2_with (first
          | (at_builtin; refine wpList_append_fits_any _ rfl (.tmp 90) (.tmp 93) 27 rfl w.heap.size 35 i0 2 Try.underlying27 hi hz1 w.heap.size xs.length (n + n') _ rfl hown _ (n - i) _ (cellsOf (ds.drop i)) rfl (by rw [cellsOf_length, List.length_drop, HL.out]) (by intro h; first | cases h | (split at h <;> cases h)) (cells_rest hA hrA (by intro h; first | rfl | simp [h])) (cellsOf_one _) (by omega) ?_; intro w1 hown1 hgrow1; have hb1 := below_own hb hgrow1)
          | (at_builtin; refine wpList_append_fits_any _ rfl (.tmp 95) (.tmp 98) 27 rfl w.heap.size 35 i0 2 Try.underlying27 hi hz1 w.heap.size (xs.length + (n - i)) (n + n') _ rfl hown1 _ (n' - j) _ (cellsOf (es.drop j)) rfl (by rw [cellsOf_length, List.length_drop, HL'.out]) (by intro h; first | cases h | (split at h <;> cases h)) (cells_rest (h'.below hb1).dots hrC (by intro h; first | rfl | simp [h])) (cellsOf_one _) (by omega) ?_; intro w2 hown2 hgrow2))
        all_goals
          go_ret
          rw [← cellsOf_append, ← cellsOf_append, hrest.out] at hown2
          have hlen : (mrg ds es).length = xs.length + (n - i) + (n' - j) := by
            rw [← hrest.out, List.length_append, List.length_append, List.length_drop, List.length_drop, HL.out, HL'.out]
          exact ⟨_, _, rfl, vec_of_owns hlen hown2, below_own hb1 hgrow2⟩

end Go.Proofs.Qxb6600701a
