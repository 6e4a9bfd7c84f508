/-
  FnBlockCommentEndDependsOnlyOnWhatItSpans returns true.
-/
import Derived.Test.Qxb6601428aScan
namespace Go.Proofs.Qxb6601428a
open Go.RowKit

/-- The call answers true or false. -/
def SomeBool (e : Ending) : Prop := ∃ r : Bool, e = .returned (.bool r)
theorem SomeBool.mk (r : Bool) : SomeBool (.returned (.bool r)) := ⟨r, rfl⟩

set_option maxHeartbeats 400000 in
theorem zz20_any (s t : ByteArray) (i : Int) (w : World) : Calls Try.prog 20 #[.string s, .string t, .int .i64 i] w fun e w' => SomeBool e ∧ w' = w := by
  go_enter Try.func20, Try.ntmps20
  go_wp2
  all_goals
    go_ret
    exact ⟨SomeBool.mk _, rfl⟩

set_option maxHeartbeats 400000 in
theorem spans_early (s t : ByteArray) (i : Int) (w : World) (h : 524288 < s.size ∨ (s.size ≤ 524288 ∧ 524288 < t.size) ∨ (s.size ≤ 524288 ∧ t.size ≤ 524288 ∧ i < 0)) :
    Calls Try.prog 8 #[.string s, .string t, .int .i64 i] w fun e w' => e = .returned (.bool true) ∧ w' = w := by
  rcases h with h | ⟨h, h'⟩ | ⟨h, h', h''⟩
  all_goals
    go_enter Try.func8, Try.ntmps8
    go_wp2_with (go_at_call 20; refine (zz20_any _ _ _ _).mono ?_; rintro e w' ⟨⟨r, rfl⟩, rfl⟩)
    all_goals
      go_ret
      exact ⟨rfl, rfl⟩

theorem two_bytes {s : ByteArray} {r : Nat} (h : two s (r - 2) 42 47 = true) (hr : 2 ≤ r) (hs : r ≤ s.size) : (s[r - 2]'(by omega)).toNat = 42 ∧ (s[r - 1]'(by omega)).toNat = 47 := by
  simp only [two, Bool.and_eq_true, beq_iff_eq] at h
  rw [show r - 2 + 1 = r - 1 by omega] at h
  obtain ⟨_, h1⟩ := List.getElem?_eq_some_iff.1 h.1
  obtain ⟨_, h2⟩ := List.getElem?_eq_some_iff.1 h.2
  constructor
  · show (s.data[r - 2]).toNat = 42
    rw [← Array.getElem_toList, h1]; rfl
  · show (s.data[r - 1]).toNat = 47
    rw [← Array.getElem_toList, h2]; rfl

set_option maxHeartbeats 400000 in
theorem spans_core (s t : ByteArray) (i : Int) (w : World) (r : Nat) (hs : s.size ≤ 524288) (ht : t.size ≤ 524288) (hi : 0 ≤ i) (hle : r ≤ s.size) (hlt : i < (s.size : Int) → i < (r : Int)) (hcl : r < s.size → i + 2 ≤ (r : Int) ∧ two s (r - 2) 42 47 = true) (hout : (s.size : Int) ≤ i → r = s.size)
    (c1 : Calls Try.prog 12 #[.string s, .int .i64 i] w fun e w' => e = .returned (.int .i64 r) ∧ w' = w) (c2 : Calls Try.prog 12 #[.string (s.extract 0 r), .int .i64 i] w fun e w' => e = .returned (.int .i64 r) ∧ w' = w)
    (c3 : r < s.size → Calls Try.prog 12 #[.string (s ++ t), .int .i64 i] w fun e w' => e = .returned (.int .i64 r) ∧ w' = w) :
    Calls Try.prog 8 #[.string s, .string t, .int .i64 i] w fun e w' => e = .returned (.bool true) ∧ w' = w := by
  by_cases hr : r < s.size
  · obtain ⟨h2, htwo⟩ := hcl hr
    have hin : i < (s.size : Int) := by
      by_cases h : i < (s.size : Int)
      · exact h
      · have := hout (by omega); omega
    have hir := hlt hin
    obtain ⟨b1, b2⟩ := two_bytes htwo (by omega) (by omega)
    replace c3 := c3 hr
    clear hlt hcl htwo hout
    go_enter Try.func8, Try.ntmps8
    go_wp2_with fail
    refine (zz20_any _ _ _ _).mono ?_
    rintro e w' ⟨⟨b, rfl⟩, hw⟩
    subst w'
    cases b
    · go_wp2_with fail
      go_ret
      exact ⟨rfl, rfl⟩
    go_wp2_with fail
    refine c1.mono ?_
    rintro e w' ⟨rfl, hw⟩
    subst w'
    go_wp2_with fail
    refine c2.mono ?_
    rintro e w' ⟨rfl, hw⟩
    subst w'
    go_wp2_with fail
    refine c3.mono ?_
    rintro e w' ⟨rfl, hw⟩
    subst w'
    go_wp2_with fail
    go_ret
    exact ⟨rfl, rfl⟩
  · obtain rfl : r = s.size := by omega
    clear hcl hout c3 hr c2
    by_cases hin : i < (s.size : Int)
    all_goals
      go_enter Try.func8, Try.ntmps8
      go_wp2_with fail
      refine (zz20_any _ _ _ _).mono ?_
      rintro e w' ⟨⟨b, rfl⟩, hw⟩
      subst w'
      cases b
      · go_wp2_with fail
        go_ret
        exact ⟨rfl, rfl⟩
      go_wp2_with fail
      refine c1.mono ?_
      rintro e w' ⟨rfl, hw⟩
      subst w'
      go_wp2_with fail
      refine c1.mono ?_
      rintro e w' ⟨rfl, hw⟩
      subst w'
      go_wp2_with fail
      go_ret
      exact ⟨rfl, rfl⟩

theorem spans_any (s t : ByteArray) (i : Int) (w : World) :
    Calls Try.prog 8 #[.string s, .string t, .int .i64 i] w fun e w' => e = .returned (.bool true) ∧ w' = w := by
  by_cases h : s.size ≤ 524288 ∧ t.size ≤ 524288 ∧ 0 ≤ i
  · obtain ⟨hs, ht, hi⟩ := h
    have hle := bce_le s i.toNat
    refine spans_core s t i w (bce s i.toNat) hs ht hi hle (fun h => ?_) (fun h => ?_) (fun h => ?_) (end_any s i w (by omega) hi) ?_ (fun h => ?_)
    · have := bce_lt (s := s) (i := i.toNat) (by omega); omega
    · have := bce_close h; exact ⟨by omega, this.2⟩
    · unfold bce; rw [cls_past (by omega)]; rfl
    · have c := end_any (s.extract 0 (bce s i.toNat)) i w (by simp; omega) hi
      rwa [bce_cut] at c
    · have c := end_any (s ++ t) i w (by simp; omega) hi
      rwa [bce_more h] at c
  · exact spans_early s t i w (by omega)

end Go.Proofs.Qxb6601428a
