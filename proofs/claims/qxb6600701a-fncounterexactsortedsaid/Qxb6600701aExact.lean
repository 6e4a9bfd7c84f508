/-
  FnCounterExactSorted returns true.
-/
import Derived.Test.Qxb6600701aLookup
import Derived.Test.Qxb6600701aZ20
namespace Go.Proofs.Qxb6600701a
open Go.RowKit

set_option maxHeartbeats 400000 in
theorem exact_long (a0 : Option Addr) (n0 c0 : Nat) (ds0 : List D) (s : ByteArray) (w : World) (h0 : Dots w a0 n0 ds0) (hbig : 65536 < n0 ∨ (n0 ≤ 65536 ∧ 1048576 < s.size)) :
    Calls Try.prog 6 #[.slice a0 n0 c0, .string s] w fun e w' => e = .returned (.bool true) ∧ Below w.heap.size w w' := by
  rcases hbig with hb | ⟨hb, hb'⟩
  all_goals
    go_enter Try.func6, Try.ntmps6
    go_wp2_with (go_at_call 20; refine (zz20_any _ _ _ _ _ _ h0).mono ?_; rintro e w' ⟨⟨r, rfl⟩, rfl⟩)
    all_goals
      go_ret
      exact ⟨rfl, Below.refl _ _⟩

set_option maxHeartbeats 1000000 in
theorem exact_short (a0 : Option Addr) (n0 c0 : Nat) (ds0 : List D) (s : ByteArray) (w : World) (h0 : Dots w a0 n0 ds0) (hb0 : n0 ≤ 65536) (hbs : s.size ≤ 1048576) :
    Calls Try.prog 6 #[.slice a0 n0 c0, .string s] w fun e w' => e = .returned (.bool true) ∧ Below w.heap.size w w' := by
  go_enter Try.func6, Try.ntmps6
  go_wp2_with fail
  refine (zz20_any _ _ _ _ _ _ h0).mono ?_
  rintro e w' ⟨⟨r, rfl⟩, hw⟩
  subst w'
  cases r
  · go_wp2_with fail
    go_ret
    exact ⟨rfl, Below.refl _ _⟩
  go_wp2_with fail
  refine (dotBytes_any a0 n0 c0 ds0 _ (by omega) h0).mono ?_
  rintro e w' ⟨⟨x0, hx0, hx0', rfl⟩, hw⟩
  subst w'
  by_cases hsum : x0 + (s.size : Int) ≤ 1048576
  case neg =>
    go_wp2_with fail
    go_ret
    exact ⟨rfl, Below.refl _ _⟩
  go_wp2_with fail
  refine (strictlySorted_any a0 n0 c0 ds0 _ (by omega) h0).mono ?_
  rintro e y0 ⟨⟨r, rfl, hr⟩, hB0⟩
  cases r
  · go_wp2_with fail
    go_ret
    exact ⟨rfl, hB0⟩
  replace hr := hr.1 rfl
  go_wp2_with fail
  refine (toVector_any a0 n0 c0 ds0 _ (by omega) (h0.below hB0)).mono ?_
  rintro e y1 ⟨va, vc, rfl, V, hs1, -⟩
  have hB1 := hB0.trans (hs1.mono hB0.size)
  clear h0
  have hcnt := counter_any va n0 vc ds0 s y1 (by omega) V.dots
  rw [cnt_get] at hcnt
  go_wp2_with fail
  refine hcnt.mono ?_
  rintro e y2 ⟨rfl, hs2⟩
  have hB2 := hB1.trans (hs2.mono hB1.size)
  have hlk := lookup_any va n0 vc ds0 s y2 (by omega) (V.dots.below hs2) hr
  cases hg : get s ds0 with
  | none =>
    rw [hg] at hlk
    go_wp2_with fail
    refine hlk.mono ?_
    rintro e w' ⟨rfl, hw⟩
    subst w'
    go_wp2_with fail
    go_ret
    exact ⟨by simp, hB2⟩
  | some z =>
    rw [hg] at hlk
    go_wp2_with fail
    refine hlk.mono ?_
    rintro e w' ⟨rfl, hw⟩
    subst w'
    go_wp2_with fail
    go_ret
    exact ⟨by simp, hB2⟩

theorem exact_any (a0 : Option Addr) (n0 c0 : Nat) (ds0 : List D) (s : ByteArray) (w : World) (h0 : Dots w a0 n0 ds0) :
    Calls Try.prog 6 #[.slice a0 n0 c0, .string s] w fun e w' => e = .returned (.bool true) ∧ Below w.heap.size w w' := by
  by_cases hb : n0 ≤ 65536 ∧ s.size ≤ 1048576
  · exact exact_short a0 n0 c0 ds0 s w h0 hb.1 hb.2
  · exact exact_long a0 n0 c0 ds0 s w h0 (by omega)

end Go.Proofs.Qxb6600701a
