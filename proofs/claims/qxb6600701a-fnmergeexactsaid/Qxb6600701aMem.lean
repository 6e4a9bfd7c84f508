/-
  Dots in memory: what a slice of two-cell structs (a string, a uint64) reads as.
-/
import Derived.Test.Qxb6600701aProg
import Derived.WalkKit
import Derived.WalkLawsBesides
import Derived.WalkSpells
namespace Go.Proofs.Qxb6600701a
open Go.RowKit

/-- A slice value's dots: n of them, at the address a (of no matter where there are none). -/
def Dots (w : World) (a : Option Addr) (n : Nat) (ds : List (ByteArray × Int)) : Prop :=
  ds.length = n ∧ (n = 0 ∨ ∃ b off, a = some ⟨b, off, none⟩ ∧ ∀ k, k < n →
    w.cell? ⟨b, off + k * 2, none⟩ = some (.string (ds.getD k (ByteArray.empty, 0)).1) ∧ w.cell? ⟨b, off + k * 2 + 1, none⟩ = some (.int .u64 (ds.getD k (ByteArray.empty, 0)).2))

theorem Dots.nil (w : World) (a : Option Addr) : Dots w a 0 [] := ⟨rfl, Or.inl rfl⟩

theorem Dots.below {w w' : World} {a : Option Addr} {n : Nat} {ds : List (ByteArray × Int)} (h : Dots w a n ds) (hb : Below w.heap.size w w') : Dots w' a n ds := by
  obtain ⟨h1, h2⟩ := h
  refine ⟨h1, ?_⟩
  rcases h2 with h2 | ⟨b, off, ha, hc⟩
  · exact Or.inl h2
  · refine Or.inr ⟨b, off, ha, fun k hk => ?_⟩
    obtain ⟨c0, c1⟩ := hc k hk
    have hlt := World.block_lt_of_cell? w _ c0
    exact ⟨(hb.cell (p := ⟨b, off + k * 2, none⟩) hlt).trans c0, (hb.cell (p := ⟨b, off + k * 2 + 1, none⟩) hlt).trans c1⟩

/-- The two cases of a walk: nothing to read (the address is whatever it is); or an address, and the cells behind it. -/
theorem Dots.parts {w : World} {a : Option Addr} {n : Nat} {ds : List (ByteArray × Int)} (h : Dots w a n ds) :
    (n ≤ 0 ∧ ∃ b off : Nat, ∀ k, k < n → w.cell? ⟨b, off + k * 2, none⟩ = some (.string (ds.getD k (ByteArray.empty, 0)).1) ∧ w.cell? ⟨b, off + k * 2 + 1, none⟩ = some (.int .u64 (ds.getD k (ByteArray.empty, 0)).2)) ∨
    ∃ b off, a = some ⟨b, off, none⟩ ∧ ∀ k, k < n → w.cell? ⟨b, off + k * 2, none⟩ = some (.string (ds.getD k (ByteArray.empty, 0)).1) ∧ w.cell? ⟨b, off + k * 2 + 1, none⟩ = some (.int .u64 (ds.getD k (ByteArray.empty, 0)).2) := by
  rcases h.2 with h0 | h0
  · exact Or.inl ⟨by omega, 0, 0, fun k hk => by omega⟩
  · exact Or.inr h0

end Go.Proofs.Qxb6600701a
