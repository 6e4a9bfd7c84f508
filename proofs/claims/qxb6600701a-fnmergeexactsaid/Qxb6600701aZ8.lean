/-
  Function 8: the check on lengths that stands ahead of a law: it answers some bool and touches nothing.
-/
import Derived.Test.Qxb6600701aSizes
namespace Go.Proofs.Qxb6600701a
open Go.RowKit

set_option maxHeartbeats 1600000 in
theorem zz8_any (a0 : Option Addr) (n0 c0 : Nat) (ds0 : List (ByteArray × Int)) (a1 : Option Addr) (n1 c1 : Nat) (ds1 : List (ByteArray × Int)) (w : World) (h0 : Dots w a0 n0 ds0) (h1 : Dots w a1 n1 ds1) :
    Calls Try.prog 8 #[.slice a0 n0 c0, .slice a1 n1 c1] w fun e w' => SomeBool e ∧ w' = w := by
  rcases h0.parts with ⟨hn0, b0, off0, hc0⟩ | ⟨b0, off0, rfl, hc0⟩
  all_goals rcases h1.parts with ⟨hn1, b1, off1, hc1⟩ | ⟨b1, off1, rfl, hc1⟩
  all_goals
    clear h0 h1
    go_enter Try.func8, Try.ntmps8
    go_wp2
    all_goals first
      | (go_ret; exact ⟨SomeBool.mk _, rfl⟩)
      | skip
    go_loop [5, 6] (fun z i => ∃ k : Nat, k ≤ n0 ∧ i = .int .i64 k ∧ ∃ d : Int, z = .int .i64 d) (fun _ i => n0 - (intOf i).toNat)
    case atStart => exact ⟨0, Nat.zero_le _, rfl, _, rfl⟩
    case round =>
      obtain ⟨k, hk, rfl, d, rfl⟩ := hrel
      have hcell := fun h => (hc0 k h).1
      go_wp2
      all_goals first
        | (go_ret; exact ⟨SomeBool.mk _, rfl⟩)
        | (go_round
           case rel => exact ⟨k + 1, by omega, by go_num, _, rfl⟩
           case measure => simp [intOf]; omega)
        | skip
      clear hcell
      all_goals first
        | (go_ret; exact ⟨SomeBool.mk _, rfl⟩)
        | skip
      go_loop [5, 7] (fun z i => ∃ k : Nat, k ≤ n1 ∧ i = .int .i64 k ∧ ∃ d : Int, z = .int .i64 d) (fun _ i => n1 - (intOf i).toNat)
      case atStart => exact ⟨0, Nat.zero_le _, rfl, _, rfl⟩
      case round =>
        obtain ⟨k, hk, rfl, d, rfl⟩ := hrel
        have hcell := fun h => (hc1 k h).1
        go_wp2
        all_goals first
          | (go_ret; exact ⟨SomeBool.mk _, rfl⟩)
          | (go_round
             case rel => exact ⟨k + 1, by omega, by go_num, _, rfl⟩
             case measure => simp [intOf]; omega)
          | skip

end Go.Proofs.Qxb6600701a
