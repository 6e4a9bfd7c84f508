/-
  Arguments of types []byte and [][]int, opened.
-/
import Derived.Test.Qxb6601749aRows
import Derived.Test.Qxb6601749aMem
import Derived.ProofKit
import Derived.OpenShut
import Derived.ShutString
import Derived.ChangeOld
import Derived.ChangeSlices
import Derived.Deep.Matrix
namespace Go.Proofs.Qxb6601749a
open Go.ChangeShapes Go.WideShapes Go.ChangeAt Go.RowKit
open Go.ChangeMaps (open_string shut_string)

theorem own : ownKnob Try.prog.godebug = none := by kernel_rfl
theorem laidOut : laidOutB Try.prog = true := by kernel_rfl
theorem Try.cells5 : Try.prog.cellsOf 5 = 1 := by kernel_rfl
theorem Try.cells3 : Try.prog.cellsOf 3 = 1 := by kernel_rfl
theorem Try.cells43 : Try.prog.cellsOf 43 = 1 := by kernel_rfl

theorem ints_of {k : IntKind} {W : World} {a : Addr} {n : Nat} {zs : List Int} (hn : n ≤ zs.length) (hc : ∀ i, i < n → W.cell? (a.add i) = some (.int k (zs.getD i 0))) : Ints k W (some a) n (zs.take n) := by
  refine ⟨by simp [hn], ?_⟩
  by_cases h0 : n = 0
  · exact Or.inl h0
  · obtain ⟨b, off, spot⟩ := a
    have hs : spot = none := by simpa [Addr.add] using World.cell?_spot (hc 0 (by omega))
    subst hs
    refine Or.inr ⟨b, off, rfl, fun i hi => ?_⟩
    have := hc i hi
    rw [Addr.add_lit] at this
    rw [this, List.getElem?_take, if_pos hi, List.getD_eq_getElem?_getD]

theorem wf_byte {n : Int} (h : (Lit.int .u8 n).wf = true) : isByte n := by
  simp [Lit.wf] at h
  have e1 : IntKind.u8.min = 0 := by decide
  have e2 : IntKind.u8.max = 255 := by decide
  exact ⟨by omega, by omega⟩

theorem open_bytes {H : Type} {enc : TypeId × Value → H} {W : World} {base : Nat} {held : Bool} {fuel : Nat} {a : Option Addr} {n c : Nat} {x : DataW H × List MemPlace}
    (h : DataW.trod enc Try.prog W base (fun _ => true) held fuel 22 [.slice a n c] = some x) : ∃ zs, Ints .u8 W a n zs ∧ ∀ v ∈ zs, isByte v := by
  rcases open_ints Try.underlying22 Try.underlying5 Try.cells5 h with ⟨hcs, _⟩ | ⟨ad, len, cap, zs, hcs, _, hl, _, hz, _, hc, hw⟩
  · simp at hcs
    obtain ⟨rfl, rfl, rfl⟩ := hcs
    exact ⟨[], ⟨rfl, Or.inl rfl⟩, by simp⟩
  · simp at hcs
    obtain ⟨rfl, rfl, rfl⟩ := hcs
    simp only [if_true] at hz
    exact ⟨zs.take n, ints_of (by omega) (fun i hi => hc i (by omega)), fun v hv => wf_byte (hw v (List.mem_of_mem_take hv))⟩

theorem open_runs {H : Type} {enc : TypeId × Value → H} {W : World} {base : Nat} {held : Bool} {fuel : Nat} {a : Option Addr} {n c : Nat} {x : DataW H × List MemPlace}
    (h : DataW.trod enc Try.prog W base (fun _ => true) held fuel 34 [.slice a n c] = some x) : ∃ rs, Runs W a n rs := by
  rcases Deep.open_int_rows Try.underlying34 Try.underlying43 Try.underlying3 Try.cells43 Try.cells3 h with ⟨hcs, _⟩ | ⟨ad, len, cap, A, L, C, Z, hcs, _, hl, _, _, hc⟩
  · simp at hcs
    obtain ⟨rfl, rfl, rfl⟩ := hcs
    exact ⟨[], rfl, Or.inl rfl⟩
  · simp at hcs
    obtain ⟨rfl, rfl, rfl⟩ := hcs
    refine ⟨(List.range n).map fun r => (Z r).take (L r), by simp, ?_⟩
    by_cases h0 : n = 0
    · exact Or.inl h0
    · obtain ⟨b, off, spot⟩ := ad
      have hs : spot = none := by simpa [Addr.add] using World.cell?_spot (hc 0 (by omega)).1
      subst hs
      refine Or.inr ⟨b, off, rfl, fun i hi => ?_⟩
      obtain ⟨g, hLC, _, hZ, _, hnone, hcell⟩ := hc i (by omega)
      rw [Addr.add_lit] at g
      refine ⟨_, _, _, g, ?_⟩
      have e : ((List.range n).map fun r => (Z r).take (L r))[i]?.getD [] = (Z i).take (L i) := by simp [hi]
      rw [e]
      cases hA : A i with
      | none =>
        have := hnone hA
        have hL : L i = 0 := by omega
        rw [hL]
        exact ⟨by simp, Or.inl rfl⟩
      | some a' => exact ints_of (by omega) (fun j hj => (hcell a' hA).2 j (by omega))

end Go.Proofs.Qxb6601749a
