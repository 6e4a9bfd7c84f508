/-
  strings.HasPrefix, as the comment scanner calls it.
-/
import Derived.Test.Qxb6601428aProg
import Derived.WalkKit
import Derived.WalkLawsBesides
import Derived.WalkSpells
namespace Go.Proofs.Qxb6601428a
open Go.RowKit

set_option maxHeartbeats 400000 in
theorem lite_any (t p : ByteArray) (w : World) :
    Calls Try.prog 29 #[.string t, .string p] w fun e w' => e = .returned (.bool (decide (p.size ≤ t.size) && ((t.extract 0 p.size).toList == p.toList))) ∧ w' = w := by
  by_cases h : p.size ≤ t.size
  · go_enter Try.func29, Try.ntmps29
    go_wp2
    go_ret
    exact ⟨by simp [h], rfl⟩
  · go_enter Try.func29, Try.ntmps29
    go_wp2
    go_ret
    exact ⟨by simp [h], rfl⟩

set_option maxHeartbeats 400000 in
theorem prefix_any (t p : ByteArray) (w : World) :
    Calls Try.prog 24 #[.string t, .string p] w fun e w' => e = .returned (.bool (decide (p.size ≤ t.size) && ((t.extract 0 p.size).toList == p.toList))) ∧ w' = w := by
  go_enter Try.func24, Try.ntmps24
  go_wp2_with (go_at_call 29; refine (lite_any t p _).mono ?_; rintro e w' ⟨rfl, rfl⟩)
  go_ret
  exact ⟨rfl, rfl⟩

end Go.Proofs.Qxb6601428a
