/-
  The row of FnMergeSemilattice, out of its walk. The frame is the guide's own (howto/shells) at this function's number and types.
-/
import Derived.Test.Qxb6600701aOpen
import Derived.Test.Qxb6600701aClosed
import Derived.Test.Qxb6600701aSemi
namespace Go.Proofs.Qxb6600701a.fnMergeSemilatticeProof
open Go.ChangeShapes Go.WideShapes Go.ChangeAt Go.RowKit
open Go.ChangeMaps (open_string shut_string)

set_option maxRecDepth 100000 in
theorem lifted (os : Os) (started : os.Started) (H : Type) (enc : TypeId × Value → H) :
    ReturnsInHanded {} Try.checked os 5 .any (Rows.fnMergeSemilatticeSpec.pre6 enc Try.prog Try.f5 Rows.fnMergeSemilatticeRow.domain false) (Rows.fnMergeSemilatticeSpec.post enc Try.prog Try.f5 false true false false) := by
  refine returnsInHanded_of_change (C := Try.checked) own started (by kernel_rfl) Try.func5
    (ChangeSpec.witness6 (enc := enc) (C := Try.checked) false ⟨#[], #[.slice none 0 0, .slice none 0 0, .slice none 0 0], []⟩ 8 (by kernel_rfl) (by kernel_rfl) (by kernel_rfl) (by kernel_rfl)) ?_
  intro W base args ds gs before hval0 hW hcnd _
  have hval : ∀ (j : Nat) t v, Try.f5.params[j]? = some t → args[j]? = some v → Value.okWide Try.prog W .any base t v := hval0
  have hW' := hW
  obtain ⟨p, q, hA0, hV, rfl, hfz, hnd⟩ := hW
  have hA : DataW.TrodAll enc Try.prog W 0 (fun _ => true) true Try.f5.params.toList args.toList ds p := hA0
  rw [Try.params5] at hA hval
  obtain ⟨v0, vs0, d0, ds0, p0, q0, hargs, rfl, rfl, h0, r0⟩ := trodAll_cons hA
  obtain ⟨v1, vs1, d1, ds1, p1, q1, rfl, rfl, rfl, h1, r1⟩ := trodAll_cons r0
  obtain ⟨v2, vs2, d2, ds2, p2, q2, rfl, rfl, rfl, h2, r2⟩ := trodAll_cons r1
  obtain ⟨rfl, rfl, rfl⟩ := trodAll_nil r2
  obtain rfl : args = #[v0, v1, v2] := by cases args; simp_all
  obtain ⟨rfl, rfl⟩ := trodVars_none hV
  obtain ⟨a0, len0, cap0, rfl⟩ := okWide_slice Try.underlying22 (hval 0 22 v0 rfl rfl)
  have k0 := h0
  have lt0 : ∀ x ∈ p0, x.block < W.heap.size := by obtain ⟨m, hm⟩ := k0; exact DataW.trod_lt m _ _ _ hm
  obtain ⟨z0, w0⟩ : ∃ zs, Dots W a0 len0 zs := by
    obtain ⟨fuel, hf⟩ := h0
    exact open_dots (by simpa [Value.cells] using hf)
  obtain ⟨a1, len1, cap1, rfl⟩ := okWide_slice Try.underlying22 (hval 1 22 v1 rfl rfl)
  have k1 := h1
  have lt1 : ∀ x ∈ p1, x.block < W.heap.size := by obtain ⟨m, hm⟩ := k1; exact DataW.trod_lt m _ _ _ hm
  obtain ⟨z1, w1⟩ : ∃ zs, Dots W a1 len1 zs := by
    obtain ⟨fuel, hf⟩ := h1
    exact open_dots (by simpa [Value.cells] using hf)
  obtain ⟨a2, len2, cap2, rfl⟩ := okWide_slice Try.underlying22 (hval 2 22 v2 rfl rfl)
  have k2 := h2
  have lt2 : ∀ x ∈ p2, x.block < W.heap.size := by obtain ⟨m, hm⟩ := k2; exact DataW.trod_lt m _ _ _ hm
  obtain ⟨z2, w2⟩ : ∃ zs, Dots W a2 len2 zs := by
    obtain ⟨fuel, hf⟩ := h2
    exact open_dots (by simpa [Value.cells] using hf)
  clear hA0 hval0
  refine (semi_any a0 len0 cap0 z0 a1 len1 cap1 z1 a2 len2 cap2 z2 W w0 w1 w2).mono fun e W' ⟨he, bel⟩ => ?_
  subst he
  exact ⟨_, rfl, _, _, _, [], _, [], hW', trodAll_mk1 (shut_bool Try.underlying4 _), (trodAll_cons_mk (Below.trod laidOut (by kernel_rfl) (of_decide_eq_true (by kernel_rfl)) k0 bel lt0) (trodAll_cons_mk (Below.trod laidOut (by kernel_rfl) (of_decide_eq_true (by kernel_rfl)) k1 bel lt1) (trodAll_cons_mk (Below.trod laidOut (by kernel_rfl) (of_decide_eq_true (by kernel_rfl)) k2 bel lt2) trodAll_mk0))), rfl, bel.frame _, fun h => by cases h⟩

theorem fnMergeSemilatticeLifts : (Rows.fnMergeSemilatticeRow.lifted == Try.pinned.checked.prog.liftsFinal) = true :=
  (congrArg (fun b => Rows.fnMergeSemilatticeRow.lifted == b) (lifts_of words)).trans (by kernel_rfl)
theorem fnMergeSemilatticeMake : (Try.pinned.checked.prog.make == some Rows.fnMergeSemilatticeRow.make) = true :=
  (congrArg (fun b => b == some Rows.fnMergeSemilatticeRow.make) (make_of words)).trans (by kernel_rfl)

theorem fnMergeSemilatticeClosed : joinedFacts Try.pinned.checked.prog 5 Try.f5 Rows.fnMergeSemilatticeSpec Rows.fnMergeSemilatticeRow = true := by
  unfold joinedFacts
  repeat' (with_reducible refine and_true' ?_ ?_)
  all_goals first
    | (with_reducible exact mayEnter)
    | (with_reducible exact fnMergeSemilatticeLifts)
    | (with_reducible exact fnMergeSemilatticeMake)
    | (as_aux_lemma => kernel_rfl)

theorem over : Rows.fnMergeSemilatticeRow.holds Try.pinned (OpenSpec.ofChange Rows.fnMergeSemilatticeSpec) :=
  OpenClaim.holds_of_wide 5 Try.f5 rfl rfl rfl rfl rfl rfl rfl ⟨rfl, rfl, rfl, rfl, rfl⟩ rfl rfl rfl rfl rfl (by kernel_rfl) Try.func5 fnMergeSemilatticeClosed
    (of_decide_eq_true (by kernel_rfl)) (by unfold Func.isWrapper; first | (rw [if_pos (by decide +kernel)]; kernel_rfl) | (rw [if_neg (by decide +kernel)]; exact ⟨rfl, rfl⟩))
    (fun os started H enc _ => lifted os started H enc)
end Go.Proofs.Qxb6600701a.fnMergeSemilatticeProof
namespace Go.Proofs.Qxb6600701a

/-- The statement. -/
theorem fnMergeSemilattice_proved : Rows.FnMergeSemilatticeSaid := fnMergeSemilatticeProof.over

end Go.Proofs.Qxb6600701a
