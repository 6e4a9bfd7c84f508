/-
  What a slice of integers, and a slice of such slices, reads as.
-/
import Derived.Test.Qxb6601749aSet
namespace Go.Proofs.Qxb6601749a
open Go.RowKit

/-- A slice's integers: n of them, at the address a (of no matter where there are none). -/
def Ints (k : IntKind) (w : World) (a : Option Addr) (n : Nat) (zs : List Int) : Prop :=
  zs.length = n ∧ (n = 0 ∨ ∃ b off, a = some ⟨b, off, none⟩ ∧ ∀ i, i < n → w.cell? ⟨b, off + i, none⟩ = some (.int k (zs[i]?.getD 0)))

theorem Ints.below {k : IntKind} {w w' : World} {a : Option Addr} {n : Nat} {zs : List Int} (h : Ints k w a n zs) (hb : Below w.heap.size w w') : Ints k w' a n zs := by
  obtain ⟨h1, h2⟩ := h
  refine ⟨h1, ?_⟩
  rcases h2 with h2 | ⟨b, off, ha, hc⟩
  · exact Or.inl h2
  · exact Or.inr ⟨b, off, ha, fun i hi => (hb.cell (p := ⟨b, off + i, none⟩) (World.block_lt_of_cell? w _ (hc i hi))).trans (hc i hi)⟩

/-- The two cases of a walk. -/
theorem Ints.parts {k : IntKind} {w : World} {a : Option Addr} {n : Nat} {zs : List Int} (h : Ints k w a n zs) :
    (n ≤ 0 ∧ ∃ b off : Nat, ∀ i, i < n → w.cell? ⟨b, off + i, none⟩ = some (.int k (zs[i]?.getD 0))) ∨ ∃ b off, a = some ⟨b, off, none⟩ ∧ ∀ i, i < n → w.cell? ⟨b, off + i, none⟩ = some (.int k (zs[i]?.getD 0)) := by
  rcases h.2 with h0 | h0
  · exact Or.inl ⟨by omega, 0, 0, fun i hi => by omega⟩
  · exact Or.inr h0

/-- A slice of slices of ints. -/
def Runs (w : World) (a : Option Addr) (n : Nat) (rs : List (List Int)) : Prop :=
  rs.length = n ∧ (n = 0 ∨ ∃ b off, a = some ⟨b, off, none⟩ ∧ ∀ i, i < n → ∃ ai ni ci, w.cell? ⟨b, off + i, none⟩ = some (.slice ai ni ci) ∧ Ints .i64 w ai ni (rs[i]?.getD []))

theorem Runs.below {w w' : World} {a : Option Addr} {n : Nat} {rs : List (List Int)} (h : Runs w a n rs) (hb : Below w.heap.size w w') : Runs w' a n rs := by
  obtain ⟨h1, h2⟩ := h
  refine ⟨h1, ?_⟩
  rcases h2 with h2 | ⟨b, off, ha, hc⟩
  · exact Or.inl h2
  · refine Or.inr ⟨b, off, ha, fun i hi => ?_⟩
    obtain ⟨ai, ni, ci, g, hI⟩ := hc i hi
    exact ⟨ai, ni, ci, (hb.cell (p := ⟨b, off + i, none⟩) (World.block_lt_of_cell? w _ g)).trans g, hI.below hb⟩

theorem Runs.parts {w : World} {a : Option Addr} {n : Nat} {rs : List (List Int)} (h : Runs w a n rs) :
    (n ≤ 0 ∧ ∃ b off : Nat, ∀ i, i < n → ∃ ai ni ci, w.cell? ⟨b, off + i, none⟩ = some (.slice ai ni ci) ∧ Ints .i64 w ai ni (rs[i]?.getD [])) ∨
    ∃ b off, a = some ⟨b, off, none⟩ ∧ ∀ i, i < n → ∃ ai ni ci, w.cell? ⟨b, off + i, none⟩ = some (.slice ai ni ci) ∧ Ints .i64 w ai ni (rs[i]?.getD []) := by
  rcases h.2 with h0 | h0
  · exact Or.inl ⟨by omega, 0, 0, fun i hi => by omega⟩
  · exact Or.inr h0

/-- The call answers true or false. -/
def SomeBool (e : Ending) : Prop := ∃ r : Bool, e = .returned (.bool r)
theorem SomeBool.mk (r : Bool) : SomeBool (.returned (.bool r)) := ⟨r, rfl⟩

set_option maxHeartbeats 1000000 in
theorem zz23_any (a0 : Option Addr) (n0 c0 : Nat) (a1 : Option Addr) (n1 c1 : Nat) (rs : List (List Int)) (f l : Int) (w : World) (h1 : Runs w a1 n1 rs) :
    Calls Try.prog 23 #[.slice a0 n0 c0, .slice a1 n1 c1, .int .i64 f, .int .i64 l] w fun e w' => SomeBool e ∧ w' = w := by
  rcases h1.parts with ⟨hn, b, off, hc⟩ | ⟨b, off, rfl, hc⟩
  all_goals
    clear h1
    go_enter Try.func23, Try.ntmps23
    go_wp2
    all_goals first
      | (go_ret; exact ⟨SomeBool.mk _, rfl⟩)
      | skip
    go_loop [9, 10] (fun z i => ∃ k : Nat, k ≤ n1 ∧ i = .int .i64 k ∧ ∃ d : Int, z = .int .i64 d) (fun _ i => n1 - (intOf i).toNat)
    case atStart => exact ⟨0, Nat.zero_le _, rfl, _, rfl⟩
    case round =>
      obtain ⟨k, hk, rfl, d, rfl⟩ := hrel
      by_cases hlt : k < n1
      · first
          | (exfalso; omega)
          | (obtain ⟨ai, ni, ci, hcell, -⟩ := hc k hlt
             clear hc
             go_wp2
             all_goals first
               | (go_ret; exact ⟨SomeBool.mk _, rfl⟩)
               | (go_round
                  case rel => exact ⟨k + 1, by omega, by go_num, _, rfl⟩
                  case measure => simp [intOf]; omega))
      · go_wp2
        go_ret
        exact ⟨SomeBool.mk _, rfl⟩

end Go.Proofs.Qxb6601749a
