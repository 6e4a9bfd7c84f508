/-
  FnCounterConcat returns true.
-/
import Derived.Test.Qxb6600701aVec
import Derived.Test.Qxb6600701aZ22
namespace Go.Proofs.Qxb6600701a
open Go.RowKit

/-- Some dot is of that actor. -/
def hasA (s : ByteArray) (ds : List (ByteArray × Int)) : Bool := ds.any fun d => d.1.toList == s.toList

theorem cnt_append_hit (s : ByteArray) (ds es : List (ByteArray × Int)) (h : hasA s ds = true) : cnt s (ds ++ es) = cnt s ds := by
  induction ds with
  | nil => simp [hasA] at h
  | cons d ds ih =>
    rw [List.cons_append, cnt, cnt]
    split
    · rfl
    · exact ih (by simpa [hasA, List.any_cons, *] using h)

theorem cnt_append_miss (s : ByteArray) (ds es : List (ByteArray × Int)) (h : hasA s ds = false) : cnt s (ds ++ es) = cnt s es := by
  induction ds with
  | nil => rfl
  | cons d ds ih =>
    simp only [hasA, List.any_cons, Bool.or_eq_false_iff] at h
    rw [List.cons_append, cnt, if_neg (by simp [h.1])]
    exact ih h.2

theorem hasA_hit {s : ByteArray} {ds : List (ByteArray × Int)} {k : Nat} (hk : k < ds.length) (e : ((ds[k]?.getD (ByteArray.empty, 0)).1.toList == s.toList) = true) : hasA s ds = true := by
  rw [List.getElem?_eq_getElem hk] at e
  exact List.any_eq_true.2 ⟨ds[k], List.getElem_mem hk, e⟩

theorem hasA_miss {s : ByteArray} {ds : List (ByteArray × Int)} {k : Nat} (h : hasA s (ds.take k) = false) (hk : k < ds.length) (e : ((ds[k]?.getD (ByteArray.empty, 0)).1.toList == s.toList) = false) : hasA s (ds.take (k + 1)) = false := by
  rw [List.getElem?_eq_getElem hk] at e
  rw [List.take_succ_eq_append_getElem hk]
  simp only [hasA, List.any_append, Bool.or_eq_false_iff] at h ⊢
  exact ⟨h, by simpa using e⟩

theorem hasA_end {s : ByteArray} {ds : List (ByteArray × Int)} {k : Nat} (h : hasA s (ds.take k) = false) (hk : ds.length ≤ k) : hasA s ds = false := by
  rwa [List.take_of_length_le hk] at h

theorem cnt_one_hit {s : ByteArray} {d : ByteArray × Int} (e : (d.1.toList == s.toList) = true) : cnt s [(d.1, d.2)] = d.2 := by rw [cnt, if_pos e]
theorem cnt_one_miss {s : ByteArray} {d : ByteArray × Int} (e : (d.1.toList == s.toList) = false) : cnt s [(d.1, d.2)] = 0 := by rw [cnt, if_neg (by simp [e])]; rfl

set_option maxHeartbeats 400000 in
theorem concat_long (a0 : Option Addr) (n0 c0 : Nat) (ds0 : List (ByteArray × Int)) (a1 : Option Addr) (n1 c1 : Nat) (ds1 : List (ByteArray × Int)) (s : ByteArray) (w : World) (h0 : Dots w a0 n0 ds0) (h1 : Dots w a1 n1 ds1)
    (hbig : 65536 < n0 ∨ (n0 ≤ 65536 ∧ 65536 < n1) ∨ (n0 ≤ 65536 ∧ n1 ≤ 65536 ∧ 1048576 < s.size)) :
    Calls Try.prog 7 #[.slice a0 n0 c0, .slice a1 n1 c1, .string s] w fun e w' => e = .returned (.bool true) ∧ Below w.heap.size w w' := by
  rcases hbig with hb | ⟨hb, hb'⟩ | ⟨hb, hb', hb''⟩
  all_goals
    go_enter Try.func7, Try.ntmps7
    go_wp2_with (go_at_call 22; refine (zz22_any _ _ _ _ _ _ _ _ _ _ h0 h1).mono ?_; rintro e w' ⟨⟨r, rfl⟩, rfl⟩)
    all_goals
      go_ret
      exact ⟨rfl, Below.refl _ _⟩

set_option maxHeartbeats 1000000 in
theorem concat_short (a0 : Option Addr) (n0 c0 : Nat) (ds0 : List (ByteArray × Int)) (a1 : Option Addr) (n1 c1 : Nat) (ds1 : List (ByteArray × Int)) (s : ByteArray) (w : World) (h0 : Dots w a0 n0 ds0) (h1 : Dots w a1 n1 ds1)
    (hb0 : n0 ≤ 65536) (hb1 : n1 ≤ 65536) (hbs : s.size ≤ 1048576) :
    Calls Try.prog 7 #[.slice a0 n0 c0, .slice a1 n1 c1, .string s] w fun e w' => e = .returned (.bool true) ∧ Below w.heap.size w w' := by
  obtain ⟨i0, hi, hz0, hz1, hz2⟩ := info_parts Try.info35
  go_enter Try.func7, Try.ntmps7
  go_wp2_with fail
  refine (zz22_any _ _ _ _ _ _ _ _ _ _ h0 h1).mono ?_
  rintro e w' ⟨⟨r, rfl⟩, hw⟩
  subst w'
  cases r
  · go_wp2_with fail
    go_ret
    exact ⟨rfl, Below.refl _ _⟩
  go_wp2_with fail
  refine (dotBytes_any a0 n0 c0 ds0 _ (by omega) h0).mono ?_
  rintro e w' ⟨⟨x0, hx0, hx0', rfl⟩, hw⟩
  subst w'
  go_wp2_with fail
  refine (dotBytes_any a1 n1 c1 ds1 _ (by omega) h1).mono ?_
  rintro e w' ⟨⟨x1, hx1, hx1', rfl⟩, hw⟩
  subst w'
  by_cases hsum : x0 + x1 + (s.size : Int) ≤ 1048576
  case neg =>
    go_wp2_with fail
    go_ret
    exact ⟨rfl, Below.refl _ _⟩
  go_wp2_with fail
  refine (toVector_any a0 n0 c0 ds0 _ (by omega) h0).mono ?_
  rintro e w1 ⟨va, vc, rfl, hv, hbel1, hp0⟩
  go_wp2_with fail
  refine (toVector_any a1 n1 c1 ds1 _ (by omega) (h1.below hbel1)).mono ?_
  rintro e w2 ⟨vb, vd, rfl, hv', hbel2, hp1⟩
  have hv2 := hv.below hbel2
  have hbel := hbel1.trans (hbel2.mono hbel1.size)
  clear hp1 h0 h1
  go_wp2_with (at_make; refine wpList_make_own _ rfl _ _ 27 rfl w2.heap.size 35 i0 _ 2 Try.underlying27 hi hz0 hz1 _ _ _ (n0 + n1) rfl rfl (by omega) ?b2 ?b3 (Nat.le_refl _) ?_)
  case b2 => rw [hz2]; omega
  case b3 => unfold maxLen; omega
  intro w3 hown3 hgrow3
  have hbel3 : Below w2.heap.size w2 w3 := (Below.refl _ _).grown hgrow3 (Nat.le_refl _) (fun k h => by cases h)
  have hv3 := hv2.below hbel3
  have hv3' := hv'.below hbel3
  go_wp2_with (at_builtin; refine wpList_append_fits_any _ rfl (.tmp 52) (.tmp 53) 27 rfl w2.heap.size 35 i0 2 Try.underlying27 hi hz1 w2.heap.size 0 (n0 + n1) [] rfl hown3 va n0 vc (cellsOf ds0) rfl (by rw [cellsOf_length, hv3.dots.1]) ?hn0 hv3.dots.cells (cellsOf_one _) (by omega) ?_)
  case hn0 => intro e; have := hv3.nil e; have := hv3.room; omega
  intro w4 hown4 hgrow4
  have hbel4 : Below w2.heap.size w2 w4 := hbel3.grown hgrow4 hbel3.size (fun k h => by cases h; exact Nat.le_refl _)
  have hv4 := hv2.below hbel4
  have hv4' := hv'.below hbel4
  go_wp2_with (at_builtin; refine wpList_append_fits_any _ rfl (.tmp 55) (.tmp 56) 27 rfl w2.heap.size 35 i0 2 Try.underlying27 hi hz1 w2.heap.size n0 (n0 + n1) _ rfl hown4 vb n1 vd (cellsOf ds1) rfl (by rw [cellsOf_length, hv4'.dots.1]) ?hn1 hv4'.dots.cells (cellsOf_one _) (by omega) ?_)
  case hn1 => intro e; have := hv4'.nil e; have := hv4'.room; omega
  intro w5 hown5 hgrow5
  rw [← cellsOf_append] at hown5
  have hbel5 : Below w2.heap.size w2 w5 := hbel4.grown hgrow5 hbel4.size (fun k h => by cases h; exact Nat.le_refl _)
  have hV := hv2.below hbel5
  have hW := hv'.below hbel5
  have hC := vec_of_owns (by rw [List.length_append, hV.dots.1, hW.dots.1]) hown5
  have hB5 : Below w.heap.size w w5 := hbel.trans (hbel5.mono hbel.size)
  clear hown5 hgrow5 hbel5 hv4 hv4' hbel4 hown4 hgrow4 hbel3 hv3 hv3' hown3 hgrow3 hv2 hv hv' hbel1 hbel2 hbel
  have HL0 : Hid (ds0.length = n0) := hV.dots.1
  by_cases hpos : 0 < n0
  · obtain ⟨rfl, -⟩ := hp0 hpos
    clear hp0
    obtain ⟨d, g0, g1⟩ : ∃ d : ByteArray × Int, w5.cell? ⟨w.heap.size, 0, none⟩ = some (.string d.1) ∧ w5.cell? ⟨w.heap.size, 1, none⟩ = some (.int .u64 d.2) := ⟨_, by simpa using hV.dots.own 0 hpos⟩
    have hone := counter_any (some ⟨w5.heap.size, 0, none⟩) 1 1 [(d.1, d.2)] s _ (by omega) (Dots.one w5 d.1 d.2)
    cases he : (d.1.toList == s.toList)
    all_goals
      first | rw [cnt_one_hit he] at hone | rw [cnt_one_miss he] at hone
      have hlt5 := World.block_lt_of_cell? w5 _ g0
      have ga0 : ∀ o, (w5.alloc o).cell? ⟨w.heap.size, 0, none⟩ = some (.string d.1) := fun o => (((Below.refl _ w5).alloc (Nat.le_refl _) o).cell (p := ⟨w.heap.size, 0, none⟩) hlt5).trans g0
      have ga1 : ∀ o, (w5.alloc o).cell? ⟨w.heap.size, 1, none⟩ = some (.int .u64 d.2) := fun o => (((Below.refl _ w5).alloc (Nat.le_refl _) o).cell (p := ⟨w.heap.size, 1, none⟩) hlt5).trans g1
      go_wp2_with fail
      go_loop [10, 11] (fun z i => ∃ k : Nat, k ≤ n0 ∧ i = .int .i64 k ∧ z = .bool false ∧ Hid (hasA s (ds0.take k) = false)) (fun _ i => n0 - (intOf i).toNat)
      case atStart => exact ⟨0, Nat.zero_le _, rfl, rfl, rfl⟩
      case round =>
        obtain ⟨k, hk, rfl, rfl, hmiss⟩ := hrel
        have hcell := fun h => (hV.dots.own k h).1
        go_wp2_with fail
        all_goals first
          | (have e : ((ds0[k]?.getD (ByteArray.empty, 0)).1.toList == s.toList) = false := by assumption
             have hlt : k < n0 := by assumption
             go_round
             case rel => exact ⟨k + 1, by omega, by go_num, rfl, hasA_miss hmiss.out (by have := HL0.out; omega) e⟩
             case measure => simp [intOf]; omega)
          | skip
        · have e : ((ds0[k]?.getD (ByteArray.empty, 0)).1.toList == s.toList) = true := by assumption
          have hhas : hasA s ds0 = true := hasA_hit (by have := HL0.out; omega) e
          refine hone.mono ?_
          rintro e6 w6 ⟨rfl, hb6⟩
          have hb56 : Below w5.heap.size w5 w6 := ((Below.refl _ w5).alloc (Nat.le_refl _) _).trans (hb6.mono (by simp))
          go_wp2_with fail
          refine (counter_any none 0 0 [] s w6 (by omega) (Dots.nil _ _)).mono ?_
          rintro e7 w7 ⟨rfl, hb7⟩
          have hb57 := hb56.trans (hb7.mono hb56.size)
          have hcat := counter_any (some ⟨w2.heap.size, 0, none⟩) (n0 + n1) (n0 + n1) (ds0 ++ ds1) s w7 (by omega) (hC.dots.below hb57)
          rw [cnt_append_hit s ds0 ds1 hhas] at hcat
          rw [show cnt s [] = 0 from rfl]
          go_wp2_with fail
          refine hcat.mono ?_
          rintro e8 w8 ⟨rfl, hb8⟩
          have hb58 := hb57.trans (hb8.mono hb57.size)
          go_wp2_with fail
          refine (counter_any (some ⟨w.heap.size, 0, none⟩) n0 vc ds0 s w8 (by omega) (hV.dots.below hb58)).mono ?_
          rintro e9 w9 ⟨rfl, hb9⟩
          go_wp2_with fail
          go_ret
          exact ⟨by simp, hB5.trans ((hb58.trans (hb9.mono hb58.size)).mono hB5.size)⟩
        · have hhas : hasA s ds0 = false := hasA_end hmiss.out (by have := HL0.out; omega)
          refine hone.mono ?_
          rintro e6 w6 ⟨rfl, hb6⟩
          have hb56 : Below w5.heap.size w5 w6 := ((Below.refl _ w5).alloc (Nat.le_refl _) _).trans (hb6.mono (by simp))
          go_wp2_with fail
          refine (counter_any none 0 0 [] s w6 (by omega) (Dots.nil _ _)).mono ?_
          rintro e7 w7 ⟨rfl, hb7⟩
          have hb57 := hb56.trans (hb7.mono hb56.size)
          have hcat := counter_any (some ⟨w2.heap.size, 0, none⟩) (n0 + n1) (n0 + n1) (ds0 ++ ds1) s w7 (by omega) (hC.dots.below hb57)
          rw [cnt_append_miss s ds0 ds1 hhas] at hcat
          rw [show cnt s [] = 0 from rfl]
          go_wp2_with fail
          refine hcat.mono ?_
          rintro e8 w8 ⟨rfl, hb8⟩
          have hb58 := hb57.trans (hb8.mono hb57.size)
          go_wp2_with fail
          refine (counter_any vb n1 vd ds1 s w8 (by omega) (hW.dots.below hb58)).mono ?_
          rintro e9 w9 ⟨rfl, hb9⟩
          go_wp2_with fail
          go_ret
          exact ⟨by simp, hB5.trans ((hb58.trans (hb9.mono hb58.size)).mono hB5.size)⟩
  · obtain rfl : n0 = 0 := by omega
    obtain rfl : ds0 = [] := List.eq_nil_of_length_eq_zero HL0.out
    clear hp0
    go_wp2_with fail
    refine wp_loop_rounds 1 ?_
    rw [rounds_succ]
    go_wp2_with fail
    refine (counter_any none 0 0 [] s w5 (by omega) (Dots.nil _ _)).mono ?_
    rintro e7 w7 ⟨rfl, hb7⟩
    have hcat := counter_any (some ⟨w2.heap.size, 0, none⟩) (0 + n1) (0 + n1) ([] ++ ds1) s w7 (by omega) (hC.dots.below hb7)
    simp only [Nat.zero_add, List.nil_append] at hcat
    rw [show cnt s [] = 0 from rfl]
    go_wp2_with fail
    refine hcat.mono ?_
    rintro e8 w8 ⟨rfl, hb8⟩
    have hb58 := hb7.trans (hb8.mono hb7.size)
    go_wp2_with fail
    refine (counter_any vb n1 vd ds1 s w8 (by omega) (hW.dots.below hb58)).mono ?_
    rintro e9 w9 ⟨rfl, hb9⟩
    go_wp2_with fail
    go_ret
    exact ⟨by simp, hB5.trans ((hb58.trans (hb9.mono hb58.size)).mono hB5.size)⟩

theorem concat_any (a0 : Option Addr) (n0 c0 : Nat) (ds0 : List (ByteArray × Int)) (a1 : Option Addr) (n1 c1 : Nat) (ds1 : List (ByteArray × Int)) (s : ByteArray) (w : World) (h0 : Dots w a0 n0 ds0) (h1 : Dots w a1 n1 ds1) :
    Calls Try.prog 7 #[.slice a0 n0 c0, .slice a1 n1 c1, .string s] w fun e w' => e = .returned (.bool true) ∧ Below w.heap.size w w' := by
  by_cases hb : n0 ≤ 65536 ∧ n1 ≤ 65536 ∧ s.size ≤ 1048576
  · exact concat_short a0 n0 c0 ds0 a1 n1 c1 ds1 s w h0 h1 hb.1 hb.2.1 hb.2.2
  · exact concat_long a0 n0 c0 ds0 a1 n1 c1 ds1 s w h0 h1 (by omega)

end Go.Proofs.Qxb6600701a
