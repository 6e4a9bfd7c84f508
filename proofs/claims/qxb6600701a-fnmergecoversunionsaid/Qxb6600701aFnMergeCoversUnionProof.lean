/-
  The row of FnMergeCoversUnion, out of its walk. The frame is the guide's own (howto/shells) at this function's number and types.
-/
import Derived.Test.Qxb6600701aOpen
import Derived.Test.Qxb6600701aClosed
import Derived.Test.Qxb6600701aCovers
namespace Go.Proofs.Qxb6600701a.fnMergeCoversUnionProof
open Go.ChangeShapes Go.WideShapes Go.ChangeAt Go.RowKit
open Go.ChangeMaps (open_string shut_string)

set_option maxRecDepth 100000 in
theorem lifted (os : Os) (started : os.Started) (H : Type) (enc : TypeId × Value → H) :
    ReturnsInHanded {} Try.checked os 4 .any (Rows.fnMergeCoversUnionSpec.pre6 enc Try.prog Try.f4 Rows.fnMergeCoversUnionRow.domain false) (Rows.fnMergeCoversUnionSpec.post enc Try.prog Try.f4 false true false false) := by
  refine returnsInHanded_of_change (C := Try.checked) own started (by kernel_rfl) Try.func4
    (ChangeSpec.witness6 (enc := enc) (C := Try.checked) false ⟨#[], #[.slice none 0 0, .slice none 0 0, .string ByteArray.empty, .int .u64 0], []⟩ 8 (by kernel_rfl) (by kernel_rfl) (by kernel_rfl) (by kernel_rfl)) ?_
  intro W base args ds gs before hval0 hW hcnd _
  have hval : ∀ (j : Nat) t v, Try.f4.params[j]? = some t → args[j]? = some v → Value.okWide Try.prog W .any base t v := hval0
  have hW' := hW
  obtain ⟨p, q, hA0, hV, rfl, hfz, hnd⟩ := hW
  have hA : DataW.TrodAll enc Try.prog W 0 (fun _ => true) true Try.f4.params.toList args.toList ds p := hA0
  rw [Try.params4] at hA hval
  obtain ⟨v0, vs0, d0, ds0, p0, q0, hargs, rfl, rfl, h0, r0⟩ := trodAll_cons hA
  obtain ⟨v1, vs1, d1, ds1, p1, q1, rfl, rfl, rfl, h1, r1⟩ := trodAll_cons r0
  obtain ⟨v2, vs2, d2, ds2, p2, q2, rfl, rfl, rfl, h2, r2⟩ := trodAll_cons r1
  obtain ⟨v3, vs3, d3, ds3, p3, q3, rfl, rfl, rfl, h3, r3⟩ := trodAll_cons r2
  obtain ⟨rfl, rfl, rfl⟩ := trodAll_nil r3
  obtain rfl : args = #[v0, v1, v2, v3] := by cases args; simp_all
  obtain ⟨rfl, rfl⟩ := trodVars_none hV
  obtain ⟨a0, len0, cap0, rfl⟩ := okWide_slice Try.underlying22 (hval 0 22 v0 rfl rfl)
  have k0 := h0
  have lt0 : ∀ x ∈ p0, x.block < W.heap.size := by obtain ⟨m, hm⟩ := k0; exact DataW.trod_lt m _ _ _ hm
  obtain ⟨z0, w0⟩ : ∃ zs, Dots W a0 len0 zs ∧ Pos zs := by
    obtain ⟨fuel, hf⟩ := h0
    exact open_dots_pos (by simpa [Value.cells] using hf)
  obtain ⟨a1, len1, cap1, rfl⟩ := okWide_slice Try.underlying22 (hval 1 22 v1 rfl rfl)
  have k1 := h1
  have lt1 : ∀ x ∈ p1, x.block < W.heap.size := by obtain ⟨m, hm⟩ := k1; exact DataW.trod_lt m _ _ _ hm
  obtain ⟨z1, w1⟩ : ∃ zs, Dots W a1 len1 zs ∧ Pos zs := by
    obtain ⟨fuel, hf⟩ := h1
    exact open_dots_pos (by simpa [Value.cells] using hf)
  obtain ⟨s2, rfl, rfl, rfl, w2⟩ := open_string Try.underlying9 (hval 2 9 v2 rfl rfl) h2
  obtain ⟨a3, rfl, rfl, rfl, w3⟩ := open_int Try.underlying31 (hval 3 31 v3 rfl rfl) h3
  clear hA0 hval0
  refine (coversUnion_any a0 len0 cap0 z0 a1 len1 cap1 z1 s2 a3 W w0 w1).mono fun e W' ⟨he, bel⟩ => ?_
  subst he
  exact ⟨_, rfl, _, _, _, [], _, [], hW', trodAll_mk1 (shut_bool Try.underlying4 _), (trodAll_cons_mk (Below.trod laidOut (by kernel_rfl) (of_decide_eq_true (by kernel_rfl)) k0 bel lt0) (trodAll_cons_mk (Below.trod laidOut (by kernel_rfl) (of_decide_eq_true (by kernel_rfl)) k1 bel lt1) (trodAll_cons_mk (shut_string Try.underlying9 w2) (trodAll_cons_mk (shut_int Try.underlying31 w3) trodAll_mk0)))), rfl, bel.frame _, fun h => by cases h⟩

theorem fnMergeCoversUnionLifts : (Rows.fnMergeCoversUnionRow.lifted == Try.pinned.checked.prog.liftsFinal) = true :=
  (congrArg (fun b => Rows.fnMergeCoversUnionRow.lifted == b) (lifts_of words)).trans (by kernel_rfl)
theorem fnMergeCoversUnionMake : (Try.pinned.checked.prog.make == some Rows.fnMergeCoversUnionRow.make) = true :=
  (congrArg (fun b => b == some Rows.fnMergeCoversUnionRow.make) (make_of words)).trans (by kernel_rfl)

theorem fnMergeCoversUnionClosed : joinedFacts Try.pinned.checked.prog 4 Try.f4 Rows.fnMergeCoversUnionSpec Rows.fnMergeCoversUnionRow = true := by
  unfold joinedFacts
  repeat' (with_reducible refine and_true' ?_ ?_)
  all_goals first
    | (with_reducible exact mayEnter)
    | (with_reducible exact fnMergeCoversUnionLifts)
    | (with_reducible exact fnMergeCoversUnionMake)
    | (as_aux_lemma => kernel_rfl)

theorem over : Rows.fnMergeCoversUnionRow.holds Try.pinned (OpenSpec.ofChange Rows.fnMergeCoversUnionSpec) :=
  OpenClaim.holds_of_wide 4 Try.f4 rfl rfl rfl rfl rfl rfl rfl ⟨rfl, rfl, rfl, rfl, rfl⟩ rfl rfl rfl rfl rfl (by kernel_rfl) Try.func4 fnMergeCoversUnionClosed
    (of_decide_eq_true (by kernel_rfl)) (by unfold Func.isWrapper; first | (rw [if_pos (by decide +kernel)]; kernel_rfl) | (rw [if_neg (by decide +kernel)]; exact ⟨rfl, rfl⟩))
    (fun os started H enc _ => lifted os started H enc)
end Go.Proofs.Qxb6600701a.fnMergeCoversUnionProof
namespace Go.Proofs.Qxb6600701a

/-- The statement. -/
theorem fnMergeCoversUnion_proved : Rows.FnMergeCoversUnionSaid := fnMergeCoversUnionProof.over

end Go.Proofs.Qxb6600701a
