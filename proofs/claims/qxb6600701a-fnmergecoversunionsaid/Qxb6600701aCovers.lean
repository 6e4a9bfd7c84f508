/-
  FnMergeCoversUnion returns true.
-/
import Derived.Test.Qxb6600701aCoversFn
import Derived.Test.Qxb6600701aMergeAll
import Derived.Test.Qxb6600701aZ16
import Derived.Test.Qxb6600701aOpenPos
namespace Go.Proofs.Qxb6600701a
open Go.RowKit

/-! ### The plain law -/
theorem cnt_mrg {s : ByteArray} {ds es : List D} {z : Int} (hp : Pos ds) (hq : Pos es) (hr : Rising ds) (hr' : Rising es) : decide (z ≤ cnt s (mrg ds es)) = (decide (z ≤ cnt s ds) || decide (z ≤ cnt s es)) := by
  rw [cnt_get, cnt_get, cnt_get, get_mrg s _ _ hr hr']
  rw [← Bool.decide_or]
  congr 1
  apply propext
  cases h1 : get s ds with
  | none =>
    cases h2 : get s es with
    | none => simp [omax]
    | some y =>
      have := hq _ (get_mem h2)
      simp at this
      simp [omax]; omega
  | some x =>
    have hx := hp _ (get_mem h1)
    simp at hx
    cases h2 : get s es with
    | none => simp [omax]; omega
    | some y => simp [omax]; omega

/-! ### The worlds of the last statement -/
/-- What was there stays. -/
def Kept (W w' : World) : Prop := Below W.heap.size W w'
theorem Kept.call {W w' w1 : World} {B : Nat} {s : ByteArray} {z : Int} (h : w'.cell? ⟨B, 0, none⟩ = some (.string s) ∧ w'.cell? ⟨B, 1, none⟩ = some (.int .u64 z) ∧ Kept W w') (hs : Below w'.heap.size w' w1) :
    w1.cell? ⟨B, 0, none⟩ = some (.string s) ∧ w1.cell? ⟨B, 1, none⟩ = some (.int .u64 z) ∧ Kept W w1 := by
  obtain ⟨h0, h1, hk⟩ := h
  have hlt := World.block_lt_of_cell? w' _ h0
  exact ⟨(hs.cell (p := ⟨B, 0, none⟩) hlt).trans h0, (hs.cell (p := ⟨B, 1, none⟩) hlt).trans h1, Below.trans hk (hs.mono hk.size)⟩
theorem Kept.start (y : World) (s : ByteArray) (z : Int) : (y.alloc (.cells #[.string s, .int .u64 z] 35)).drew.cell? ⟨y.heap.size, 0, none⟩ = some (.string s) ∧ (y.alloc (.cells #[.string s, .int .u64 z] 35)).drew.cell? ⟨y.heap.size, 1, none⟩ = some (.int .u64 z) ∧ Kept y (y.alloc (.cells #[.string s, .int .u64 z] 35)).drew :=
  ⟨by simp, by simp, ((Below.refl _ _).alloc (Nat.le_refl _) _).drew⟩

set_option maxHeartbeats 400000 in
theorem coversUnion_long (a0 : Option Addr) (n0 c0 : Nat) (ds0 : List D) (a1 : Option Addr) (n1 c1 : Nat) (ds1 : List D) (s : ByteArray) (z : Int) (w : World) (h0 : Dots w a0 n0 ds0) (h1 : Dots w a1 n1 ds1)
    (hbig : 65536 < n0 ∨ (n0 ≤ 65536 ∧ 65536 < n1) ∨ (n0 ≤ 65536 ∧ n1 ≤ 65536 ∧ 1048576 < s.size)) :
    Calls Try.prog 4 #[.slice a0 n0 c0, .slice a1 n1 c1, .string s, .int .u64 z] w fun e w' => e = .returned (.bool true) ∧ Below w.heap.size w w' := by
  rcases hbig with hb | ⟨hb, hb'⟩ | ⟨hb, hb', hb''⟩
  all_goals
    go_enter Try.func4, Try.ntmps4
    go_wp2_with (go_at_call 16; refine (zz16_any _ _ _ _ _ _ _ _ _ _ _ h0 h1).mono ?_; rintro e w' ⟨⟨r, rfl⟩, rfl⟩)
    all_goals
      go_ret
      exact ⟨rfl, Below.refl _ _⟩

set_option maxHeartbeats 1000000 in
theorem coversUnion_short (a0 : Option Addr) (n0 c0 : Nat) (ds0 : List D) (a1 : Option Addr) (n1 c1 : Nat) (ds1 : List D) (s : ByteArray) (z : Int) (w : World) (h0 : Dots w a0 n0 ds0) (h1 : Dots w a1 n1 ds1)
    (hp0 : Pos ds0) (hp1 : Pos ds1) (hb0 : n0 ≤ 65536) (hb1 : n1 ≤ 65536) (hbs : s.size ≤ 1048576) :
    Calls Try.prog 4 #[.slice a0 n0 c0, .slice a1 n1 c1, .string s, .int .u64 z] w fun e w' => e = .returned (.bool true) ∧ Below w.heap.size w w' := by
  go_enter Try.func4, Try.ntmps4
  go_wp2_with fail
  refine (zz16_any _ _ _ _ _ _ _ _ _ _ _ h0 h1).mono ?_
  rintro e w' ⟨⟨r, rfl⟩, hw⟩
  subst w'
  cases r
  · go_wp2_with fail
    go_ret
    exact ⟨rfl, Below.refl _ _⟩
  go_wp2_with fail
  refine (dotBytes_any a0 n0 c0 ds0 _ (by omega) h0).mono ?_
  rintro e w' ⟨⟨x0, hx0, hx0', rfl⟩, hw⟩
  subst w'
  go_wp2_with fail
  refine (dotBytes_any a1 n1 c1 ds1 _ (by omega) h1).mono ?_
  rintro e w' ⟨⟨x1, hx1, hx1', rfl⟩, hw⟩
  subst w'
  by_cases hsum : x0 + x1 + (s.size : Int) ≤ 1048576
  case neg =>
    go_wp2_with fail
    go_ret
    exact ⟨rfl, Below.refl _ _⟩
  go_wp2_with fail
  refine (strictlySorted_any a0 n0 c0 ds0 _ (by omega) h0).mono ?_
  rintro e y0 ⟨⟨r, rfl, hr0⟩, hB0⟩
  cases r
  · go_wp2_with fail
    go_ret
    exact ⟨rfl, hB0⟩
  replace hr0 := hr0.1 rfl
  go_wp2_with fail
  refine (strictlySorted_any a1 n1 c1 ds1 _ (by omega) (h1.below hB0)).mono ?_
  rintro e y1 ⟨⟨r, rfl, hr1⟩, hs1⟩
  have hB1 := hB0.trans (hs1.mono hB0.size)
  cases r
  · go_wp2_with fail
    go_ret
    exact ⟨rfl, hB1⟩
  replace hr1 := hr1.1 rfl
  go_wp2_with fail
  refine (toVector_any a0 n0 c0 ds0 _ (by omega) (h0.below hB1)).mono ?_
  rintro e y2 ⟨va, vc, rfl, V0, hs2, -⟩
  have hB2 := hB1.trans (hs2.mono hB1.size)
  go_wp2_with fail
  refine (toVector_any a1 n1 c1 ds1 _ (by omega) (h1.below hB2)).mono ?_
  rintro e y3 ⟨vb, vd, rfl, V1, hs3, -⟩
  have hB3 := hB2.trans (hs3.mono hB2.size)
  replace V0 := V0.below hs3
  go_wp2_with fail
  refine (merge_any va n0 vc ds0 vb n1 vd ds1 _ (by omega) (by omega) V0 V1).mono ?_
  rintro e y4 ⟨m, cm, rfl, VM, hs4⟩
  have hB4 := hB3.trans (hs4.mono hB3.size)
  replace V0 := V0.below hs4
  replace V1 := V1.below hs4
  have hml : m ≤ n0 + n1 := by have := mrg_length_le ds0 ds1; have := VM.dots.1; have := V0.dots.1; have := V1.dots.1; omega
  have HD0 : Hid (Dots y4 va n0 ds0) := V0.dots
  have HD1 : Hid (Dots y4 vb n1 ds1) := V1.dots
  have HDM : Hid (Dots y4 (some ⟨y3.heap.size, 0, none⟩) m (mrg ds0 ds1)) := VM.dots
  have hlaw := cnt_mrg (s := s) (z := z) hp0 hp1 hr0 hr1
  have HLAW : Hid (decide (z ≤ cnt s (mrg ds0 ds1)) = (decide (z ≤ cnt s ds0) || decide (z ≤ cnt s ds1))) := hlaw
  clear hlaw V0 V1 VM h0 h1 hp0 hp1 hr0 hr1 hs1 hs2 hs3 hs4 hB0 hB1 hB2 hB3
  cases hd : decide (z ≤ cnt s ds0)
  · go_wp2_with fail
    go_region_held3 (fun w' => w'.cell? ⟨y4.heap.size, 0, none⟩ = some (.string s) ∧ w'.cell? ⟨y4.heap.size, 1, none⟩ = some (.int .u64 z) ∧ Kept y4 w') ((first | assumption | exact Kept.call (by assumption) hs | exact Kept.start y4 s z)) ((first | (go_at_call_of 17 (Value.slice va n0 vc); refine (covers_any va n0 vc ds0 s z _ (by omega) (HD0.out.below (And.right (And.right (by assumption))))).mono ?_; rintro e w1 ⟨rfl, hs⟩) | (go_at_call_of 17 (Value.slice vb n1 vd); refine (covers_any vb n1 vd ds1 s z _ (by omega) (HD1.out.below (And.right (And.right (by assumption))))).mono ?_; rintro e w1 ⟨rfl, hs⟩) | (go_at_call_of 17 (Value.slice (some ⟨y3.heap.size, 0, none⟩) m cm); refine (covers_any (some ⟨y3.heap.size, 0, none⟩) m cm (mrg ds0 ds1) s z _ (by omega) (HDM.out.below (And.right (And.right (by assumption))))).mono ?_; rintro e w1 ⟨rfl, hs⟩)))
    go_wp2_with fail
    go_ret
    have hl := HLAW.out
    rw [hd, Bool.false_or] at hl
    exact ⟨by rw [hl]; simp, hB4.trans ((And.right (And.right (by assumption : w1.cell? ⟨y4.heap.size, 0, none⟩ = some (.string s) ∧ w1.cell? ⟨y4.heap.size, 1, none⟩ = some (.int .u64 z) ∧ Kept y4 w1))).mono hB4.size)⟩
  · have k0 := Kept.start y4 s z
    go_wp2_with fail
    first
      | (go_region_with (first | (go_at_call_of 17 (Value.slice (some ⟨y3.heap.size, 0, none⟩) m cm); refine (covers_any (some ⟨y3.heap.size, 0, none⟩) m cm (mrg ds0 ds1) s z _ (by omega) (HDM.out.below k0.2.2)).mono ?_; rintro e w1 ⟨rfl, hs⟩; have k1 := Kept.call k0 hs) | (go_at_call_of 17 (Value.slice va n0 vc); refine (covers_any va n0 vc ds0 s z _ (by omega) (HD0.out.below k1.2.2)).mono ?_; rintro e w2 ⟨rfl, hs'⟩; have k2 := Kept.call k1 hs')))
      | fail
    all_goals
      go_wp2_with fail
      go_ret
      have hl := HLAW.out
      rw [hd, Bool.true_or] at hl
      exact ⟨by rw [hl]; rfl, hB4.trans (k2.2.2.mono hB4.size)⟩

theorem coversUnion_any (a0 : Option Addr) (n0 c0 : Nat) (ds0 : List D) (a1 : Option Addr) (n1 c1 : Nat) (ds1 : List D) (s : ByteArray) (z : Int) (w : World) (h0 : Dots w a0 n0 ds0 ∧ Pos ds0) (h1 : Dots w a1 n1 ds1 ∧ Pos ds1) :
    Calls Try.prog 4 #[.slice a0 n0 c0, .slice a1 n1 c1, .string s, .int .u64 z] w fun e w' => e = .returned (.bool true) ∧ Below w.heap.size w w' := by
  by_cases hb : n0 ≤ 65536 ∧ n1 ≤ 65536 ∧ s.size ≤ 1048576
  · exact coversUnion_short a0 n0 c0 ds0 a1 n1 c1 ds1 s z w h0.1 h1.1 h0.2 h1.2 hb.1 hb.2.1 hb.2.2
  · exact coversUnion_long a0 n0 c0 ds0 a1 n1 c1 ds1 s z w h0.1 h1.1 (by omega)

end Go.Proofs.Qxb6600701a
