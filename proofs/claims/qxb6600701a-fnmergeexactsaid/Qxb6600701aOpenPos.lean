/-
  An argument of type []LawDot, opened: its dots, and that each counter is no less than 0.
-/
import Derived.Test.Qxb6600701aOpen
import Derived.Test.Qxb6600701aPlain
namespace Go.Proofs.Qxb6600701a
open Go.ChangeShapes Go.WideShapes Go.ChangeAt Go.RowKit

/-- Each counter is no less than 0. -/
def Pos (ds : List D) : Prop := ∀ d ∈ ds, 0 ≤ d.2

theorem wf_nonneg {z : Int} (h : (Lit.int .u64 z).wf = true) : 0 ≤ z := by
  simp [Lit.wf, IntKind.min, IntKind.max, IntKind.bits, IntKind.signed] at h
  omega

theorem open_dots_pos {H : Type} {enc : TypeId × Value → H} {W : World} {base : Nat} {sp : Nat → Bool} {held : Bool} {fuel : Nat} {a : Option Addr} {n c : Nat} {x : DataW H × List MemPlace}
    (h : DataW.trod enc Try.prog W base sp held fuel 22 [.slice a n c] = some x) : ∃ ds, Dots W a n ds ∧ Pos ds := by
  rcases Deep.open_slice_pairs Try.underlying22 Try.underlying44 Try.cells44 rfl rfl Try.cells9 Try.cells31 h with ⟨hcs, _⟩ | ⟨ad, len, cap, m, k, V0, V1, D0, D1, P0, P1, hcs, _, hl, hm, hmm, _, hc⟩
  · simp at hcs
    obtain ⟨rfl, rfl, rfl⟩ := hcs
    exact ⟨[], Dots.nil _ _, fun d hd => by simp at hd⟩
  · simp at hcs
    obtain ⟨rfl, rfl, rfl⟩ := hcs
    have hnm : n ≤ m := by rw [hmm]; split <;> omega
    have each : ∀ i, i < n → ∃ q : ByteArray × Int, V0 i = .string q.1 ∧ V1 i = .int .u64 q.2 ∧ 0 ≤ q.2 := by
      intro i hi
      obtain ⟨_, _, t0, t1⟩ := hc i (by omega)
      obtain ⟨s, e0, _, _⟩ := DataW.trod_string Try.underlying9 t0
      obtain ⟨z, e1, _, wz⟩ := DataW.trod_int Try.underlying31 t1
      simp at e0 e1
      exact ⟨(s, z), e0, e1, wf_nonneg wz⟩
    obtain ⟨f, hf⟩ := Deep.choose_lt each
    refine ⟨(List.range n).map f, ⟨by simp, ?_⟩, ?_⟩
    rotate_left
    · intro d hd
      obtain ⟨i, hi, rfl⟩ := List.mem_map.1 hd
      exact (hf i (List.mem_range.1 hi)).2.2
    by_cases h0 : n = 0
    · exact Or.inl h0
    · obtain ⟨b, off, spot⟩ := ad
      have hs : spot = none := by simpa [Addr.add] using World.cell?_spot (hc 0 (by omega)).1
      subst hs
      refine Or.inr ⟨b, off, rfl, fun k hk => ?_⟩
      obtain ⟨g0, g1, _, _⟩ := hc k (by omega)
      rw [(hf k hk).1, add_plain] at g0
      rw [(hf k hk).2.1, add_plain] at g1
      have e : ((List.range n).map f).getD k (ByteArray.empty, 0) = f k := by simp [List.getD, hk]
      rw [e]
      exact ⟨g0, g1⟩

end Go.Proofs.Qxb6600701a
