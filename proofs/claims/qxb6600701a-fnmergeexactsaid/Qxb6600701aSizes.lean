/-
  The checks on lengths that stand ahead of each law ('zzBytes_..') answer some bool and touch nothing; dotBytes answers a number from 0 to 1048577.
-/
import Derived.Test.Qxb6600701aMem
namespace Go.Proofs.Qxb6600701a
open Go.RowKit

/-- The call answers true or false. -/
def SomeBool (e : Ending) : Prop := ∃ r : Bool, e = .returned (.bool r)
theorem SomeBool.mk (r : Bool) : SomeBool (.returned (.bool r)) := ⟨r, rfl⟩

set_option maxHeartbeats 400000 in
theorem dotBytes_any (a : Option Addr) (n c : Nat) (ds : List (ByteArray × Int)) (w : World) (hm : n ≤ 9223372036854775807) (h : Dots w a n ds) :
    Calls Try.prog 9 #[.slice a n c] w fun e w' => (∃ d : Int, 0 ≤ d ∧ d ≤ 1048577 ∧ e = .returned (.int .i64 d)) ∧ w' = w := by
  rcases h.parts with ⟨hn, b, off, hc⟩ | ⟨b, off, rfl, hc⟩
  all_goals
    clear h
    go_enter Try.func9, Try.ntmps9
    go_wp2
    go_loop [3, 4] (fun z i => ∃ k : Nat, k ≤ n ∧ i = .int .i64 k ∧ ∃ d : Int, 0 ≤ d ∧ d ≤ 1048576 ∧ z = .int .i64 d) (fun _ i => n - (intOf i).toNat)
    case atStart => exact ⟨0, Nat.zero_le _, rfl, 0, by omega, by omega, rfl⟩
    case round =>
      obtain ⟨k, hk, rfl, d, hd0, hd1, rfl⟩ := hrel
      have hcell := fun h => (hc k h).1
      go_wp2
      all_goals first
        | (go_ret; exact ⟨⟨_, by omega, by omega, rfl⟩, rfl⟩)
        | (go_round
           case rel => exact ⟨k + 1, by omega, by go_num, _, by omega, by omega, rfl⟩
           case measure => simp [intOf]; omega)

end Go.Proofs.Qxb6600701a
