/-
  (Vector).Covers: the counter is at least the dot's.
-/
import Derived.Test.Qxb6600701aSorted
import Derived.Deep.RegionHeld3
namespace Go.Proofs.Qxb6600701a
open Go.RowKit

set_option maxHeartbeats 400000 in
theorem covers_any (a : Option Addr) (n c : Nat) (ds : List D) (s : ByteArray) (z : Int) (w : World) (hm : n ≤ 1048576) (h : Dots w a n ds) :
    Calls Try.prog 17 #[.slice a n c, .agg #[.string s, .int .u64 z]] w fun e w' => e = .returned (.bool (decide (z ≤ cnt s ds))) ∧ Below w.heap.size w w' := by
  have hbel : Below w.heap.size w (w.alloc (.cells #[.string s, .int .u64 z] 35)).drew := ((Below.refl _ _).alloc (Nat.le_refl _) _).drew
  have HD : Hid (Dots (w.alloc (.cells #[.string s, .int .u64 z] 35)).drew a n ds) := h.below hbel
  go_enter Try.func17, Try.ntmps17
  go_wp2_with fail
  go_region_held3 (fun w' => w'.cell? ⟨w.heap.size, 0, none⟩ = some (.string s) ∧ w'.cell? ⟨w.heap.size, 1, none⟩ = some (.int .u64 z)) ((first | (refine ⟨(hs.cell (p := ⟨w.heap.size, 0, none⟩) (by simp)).trans ?_, (hs.cell (p := ⟨w.heap.size, 1, none⟩) (by simp)).trans ?_⟩ <;> simp) | go_keep)) ((go_at_call 21; refine (counter_any a n c ds s _ (by omega) HD.out).mono ?_; rintro e w1 ⟨rfl, hs⟩))
  go_wp2_with fail
  go_ret
  exact ⟨by simp, hbel.trans (hs.mono (by simp))⟩

end Go.Proofs.Qxb6600701a
