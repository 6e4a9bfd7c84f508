/-
  Function 20: the check on lengths that stands ahead of a law: it answers some bool and touches nothing.
-/
import Derived.Test.Qxb6600701aSizes
namespace Go.Proofs.Qxb6600701a
open Go.RowKit

set_option maxHeartbeats 1600000 in
theorem zz20_any (a0 : Option Addr) (n0 c0 : Nat) (ds0 : List (ByteArray × Int)) (s1 : ByteArray) (w : World) (h0 : Dots w a0 n0 ds0) :
    Calls Try.prog 20 #[.slice a0 n0 c0, .string s1] w fun e w' => SomeBool e ∧ w' = w := by
  rcases h0.parts with ⟨hn0, b0, off0, hc0⟩ | ⟨b0, off0, rfl, hc0⟩
  all_goals
    clear h0
    go_enter Try.func20, Try.ntmps20
    go_wp2
    all_goals first
      | (go_ret; exact ⟨SomeBool.mk _, rfl⟩)
      | skip
    go_loop [5, 6] (fun z i => ∃ k : Nat, k ≤ n0 ∧ i = .int .i64 k ∧ ∃ d : Int, z = .int .i64 d) (fun _ i => n0 - (intOf i).toNat)
    case atStart => exact ⟨0, Nat.zero_le _, rfl, _, rfl⟩
    case round =>
      obtain ⟨k, hk, rfl, d, rfl⟩ := hrel
      have hcell := fun h => (hc0 k h).1
      go_wp2
      all_goals first
        | (go_ret; exact ⟨SomeBool.mk _, rfl⟩)
        | (go_round
           case rel => exact ⟨k + 1, by omega, by go_num, _, rfl⟩
           case measure => simp [intOf]; omega)
        | skip

end Go.Proofs.Qxb6600701a
