/-
  FnWithinMatchesSweepModel returns true.
-/
import Derived.Test.Qxb6601749aLawNil
import Derived.Test.Qxb6601749aLawRuns
namespace Go.Proofs.Qxb6601749a
open Go.RowKit

set_option maxHeartbeats 1000000 in
set_option maxRecDepth 100000 in
theorem law_range (a0 : Option Addr) (n0 c0 : Nat) (a1 : Option Addr) (n1 c1 : Nat) (rs : List (List Int)) (f l : Int) (w : World) (h1 : Runs w a1 n1 rs) (hn0 : n0 ≤ 1048576) (hn1 : n1 ≤ 65536)
    (hbad : f < 0 ∨ (0 ≤ f ∧ 9223372036854775800 < f) ∨ (0 ≤ f ∧ f ≤ 9223372036854775800 ∧ l < 0) ∨ (0 ≤ f ∧ f ≤ 9223372036854775800 ∧ 0 ≤ l ∧ 65536 < l)) :
    Calls Try.prog 8 #[.slice a0 n0 c0, .slice a1 n1 c1, .int .i64 f, .int .i64 l] w fun e w' => e = .returned (.bool true) ∧ Below w.heap.size w w' := by
  have HBad : Hid (f < 0 ∨ (0 ≤ f ∧ 9223372036854775800 < f) ∨ (0 ≤ f ∧ f ≤ 9223372036854775800 ∧ l < 0) ∨ (0 ≤ f ∧ f ≤ 9223372036854775800 ∧ 0 ≤ l ∧ 65536 < l)) := hbad
  clear hbad
  go_enter Try.func8, Try.ntmps8
  go_wp2_with fail
  refine (zz23_any _ _ _ _ _ _ rs _ _ _ h1).mono ?_
  rintro e w' ⟨⟨r, rfl⟩, hw⟩
  subst w'
  cases r
  · go_wp2_with fail
    go_ret
    exact ⟨rfl, Below.refl _ _⟩
  go_wp2_with fail
  refine (fits_any _ _ _ _ _ _ rs _ hn0 hn1 h1).mono ?_
  rintro e w' ⟨⟨r, rfl, -⟩, hw⟩
  subst w'
  cases r
  · go_wp2_with fail
    go_ret
    exact ⟨rfl, Below.refl _ _⟩
  go_wp2_with fail
  refine (form_any _ _ _ rs _ hn1 h1).mono ?_
  rintro e y0 ⟨⟨r, rfl, -⟩, hB0⟩
  cases r
  · go_wp2_with fail
    go_ret
    exact ⟨rfl, hB0⟩
  rcases HBad.out with h | ⟨h, h'⟩ | ⟨h, h', h''⟩ | ⟨h, h', h'', h'''⟩
  all_goals
    go_wp2_with fail
    go_ret
    exact ⟨rfl, hB0⟩

theorem law_any (a0 : Option Addr) (n0 c0 : Nat) (zs : List Int) (a1 : Option Addr) (n1 c1 : Nat) (rs : List (List Int)) (f l : Int) (w : World) (h0 : Ints .u8 w a0 n0 zs ∧ ∀ v ∈ zs, isByte v) (h1 : Runs w a1 n1 rs) :
    Calls Try.prog 8 #[.slice a0 n0 c0, .slice a1 n1 c1, .int .i64 f, .int .i64 l] w fun e w' => e = .returned (.bool true) ∧ Below w.heap.size w w' := by
  by_cases hb : n0 ≤ 1048576 ∧ n1 ≤ 65536
  · by_cases hr : 0 ≤ f ∧ f ≤ 9223372036854775800 ∧ 0 ≤ l ∧ l ≤ 65536
    · obtain ⟨r1, r2, r3, r4⟩ := hr
      obtain ⟨nx, rfl⟩ := Int.eq_ofNat_of_zero_le r3
      rcases a1 with _ | ad
      · obtain ⟨F, rfl⟩ := Int.eq_ofNat_of_zero_le r1
        obtain rfl : n1 = 0 := by
          rcases h1.2 with h | ⟨b, o, h, _⟩
          · exact h
          · simp at h
        exact law_nil a0 n0 c0 zs c1 F nx _ w h0.1 h0.2 hb.1 (by omega) (by omega) rfl
      · exact law_runs a0 n0 c0 zs ad n1 c1 rs f nx _ w h0.1 h1 hb.1 hb.2 r1 r2 (by omega) rfl
    · exact law_range a0 n0 c0 a1 n1 c1 rs f l w h1 hb.1 hb.2 (by omega)
  · exact law_long a0 n0 c0 a1 n1 c1 rs f l w h1 (by omega)

end Go.Proofs.Qxb6601749a
