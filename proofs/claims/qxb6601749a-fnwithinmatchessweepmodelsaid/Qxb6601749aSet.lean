/-
  Sets in memory; NewSet, Add, addRun.
-/
import Derived.Test.Qxb6601749aProg
import Derived.Test.Qxb6601749aPlain
import Derived.WalkKit
import Derived.WalkLawsBesides
import Derived.WalkSpells
import Derived.RegionTactic
import Derived.BigRegion
namespace Go.Proofs.Qxb6601749a
open Go.RowKit

/-- A set that the call itself has made: n bytes at the head of block g. -/
def SetIs (w : World) (g n : Nat) (ys : List Int) : Prop :=
  w.ownsRow g 5 1 (.slice (some ⟨g, 0, none⟩) n n) n (ys.map (Value.int .u8)) ∧ ∀ v ∈ ys, isByte v

theorem SetIs.length {w : World} {g n : Nat} {ys : List Int} (h : SetIs w g n ys) : ys.length = n := by
  have := h.1.1
  simpa using this

theorem SetIs.cell {w : World} {g n : Nat} {ys : List Int} (h : SetIs w g n ys) (i : Nat) (hi : i < n) : w.cell? ⟨g, i, none⟩ = some (.int .u8 (ys[i]?.getD 0)) := by
  have hl := h.length
  rw [h.1.cellAt i (by omega), List.getElem?_map, List.getElem?_eq_getElem (by omega)]
  rfl

theorem SetIs.frozen {w : World} {g n : Nat} {ys : List Int} (h : SetIs w g n ys) (i : Nat) : w.frozen? ⟨g, i, none⟩ = false := h.1.frozenAt i

theorem SetIs.stored {w : World} {g n : Nat} {ys : List Int} (h : SetIs w g n ys) (q : Nat) {v : Int} (hv : isByte v) : SetIs (w.setCell ⟨g, q, none⟩ (.int .u8 v)) g n (ys.set q v) ∧ w.grownBy (w.setCell ⟨g, q, none⟩ (.int .u8 v)) (some g) := by
  have := h.1.stored q (.int .u8 v)
  refine ⟨⟨?_, byte_set h.2 hv⟩, this.2⟩
  rw [List.map_set]
  exact this.1

theorem SetIs.drew {w : World} {g n : Nat} {ys : List Int} (h : SetIs w g n ys) : SetIs w.drew g n ys := h

theorem grown_refl (w : World) (r : Option Nat) : w.grownBy w r := ⟨rfl, rfl, rfl, Nat.le_refl _, fun _ _ _ => rfl⟩
theorem grown_drew {w w' : World} {r : Option Nat} (h : w.grownBy w' r) : w.grownBy w'.drew r := ⟨h.os, h.tape, h.output, h.size, h.block⟩
theorem grown_trans {a b c : World} {r : Option Nat} (h : a.grownBy b r) (k : b.grownBy c r) : a.grownBy c r :=
  ⟨k.os.trans h.os, k.tape.trans h.tape, k.output.trans h.output, Nat.le_trans h.size k.size, fun i hi hr => (k.block i (Nat.lt_of_lt_of_le hi h.size) hr).trans (h.block i hi hr)⟩

/-- The set has been given the segments that p names, and nothing else has turned. -/
def Turned (w w' : World) (g n : Nat) (ys : List Int) (p : Nat → Bool) : Prop :=
  ∃ ys', SetIs w' g n ys' ∧ (∀ k, k < n * 8 → bitAt ys' k = (bitAt ys k || p k)) ∧ w.grownBy w' (some g)

set_option maxHeartbeats 400000 in
theorem add_any (g n : Nat) (ys : List Int) (j : Nat) (w : World) (h : SetIs w g n ys) (hj : j < n * 8) (hn : n ≤ 1048576) :
    Calls Try.prog 38 #[.slice (some ⟨g, 0, none⟩) n n, .int .i64 j] w fun e w' => e = .returned (.tuple #[]) ∧ Turned w w' g n ys (fun k => decide (k = j)) := by
  have hc := h.cell (j / 8) (by omega)
  have hf := h.frozen (j / 8)
  have e1 : ((j : Int) / 8) < n := by omega
  have e2 : ((j : Int) / 8).toNat = j / 8 := by omega
  have e3 : (0 : Int) ≤ (j : Int) / 8 := by omega
  go_enter Try.func38, Try.ntmps38
  go_wp2
  go_region
  go_end0
  have hb := bitAt_add (j := j) h.2 (by rw [h.length]; omega)
  have st := h.stored (j / 8) (or_byte (byte_get h.2 (j / 8)) (one_byte (j % 8) (by omega)).1).1
  exact ⟨rfl, _, st.1.drew, fun k _ => hb.2 k, grown_drew st.2⟩

end Go.Proofs.Qxb6601749a
