/-
  No cell of these rows narrows 'for every input' (looked for: loops, veiled, ifaces, maps, wideKeys, modest, calm, conditions, laid).
  DERIVED. THE GIVEN ROWS OF THIS SEAT. 5 by the template 'for every input the law returns true; each argument reads behind the call as it read before'; 0 by the template 'total and deterministic' (their statements: Qxb6600701aTotals.lean).
  GIVEN WITH THE SEED: the statements are not yours to turn. If you find one false, say at which input.
  Laid BY PROGRAM, IN A SANDBOX (cutbox-rows.mjs): the forced cells as the released guide's own fill.sh prints them over the translation ae9642997023d1d3… (all of the seat's roots in one cut). By AI agents, Wed Nov 11 2026. No macro, syntax, notation, axiom, sorry.
-/
import Derived.Test.Qxb6600701aChecked
import GoSem.Claim
import GoSem.ClaimJoined
import GoSem.ClaimMapViews
import Derived.JoinedTies
import Derived.KernelRfl
namespace Go.Proofs.Qxb6600701a
/- THE CELL 'sum', in the pinned program and in every row, IS THE sha256 OF THE DUMP (.gsa) THAT Qxb6600701aProg.lean LOADS. Nothing in Lean hashes anything: it is a label: what it is worth is what the hold of that sum in a sandbox is worth. -/
noncomputable def Try.pinned : Pinned := { name := "qxb6600701a", sum := "ae9642997023d1d3565885e7c921c6ea08c4f4cbfeac5ea0c07de000428162ac", checked := Try.checked }
namespace Rows
def none {H : Type} : Left H := { results := [], args := [] }

/-- 'zzlaws_causal_b1.FnMergeExact': WHATEVER THE INPUT: true; the input reads as it did. -/
def fnMergeExactSpec : ChangeSpec := { name := "fnMergeExact", fn := fun _ => fun
  | [d1, d2] => { results := [.lit (.bool true)], args := [d1, d2] }
  | _ => none }
def fnMergeExactRow : OpenClaim := { program := "qxb6600701a", sum := "ae9642997023d1d3565885e7c921c6ea08c4f4cbfeac5ea0c07de000428162ac", func := "example.com/hinterland/hinterland/zzlaws_causal_b1.FnMergeExact", spec := "fnMergeExact", apart := false }
def FnMergeExactSaid : Prop := fnMergeExactRow.holds Try.pinned (OpenSpec.ofChange fnMergeExactSpec)

/-- ITS FALSE NEIGHBOUR: 'it returns false'. Refute it at one input. -/
def fnMergeExactWrong : ChangeSpec := { name := "fnMergeExact", fn := fun _ => fun
  | [d1, d2] => { results := [.lit (.bool false)], args := [d1, d2] }
  | _ => none }
def FnMergeExactWrongFalsely : Prop := fnMergeExactRow.holds Try.pinned (OpenSpec.ofChange fnMergeExactWrong)

/-- 'zzlaws_causal_b1.FnMergeCoversUnion': WHATEVER THE INPUT: true; the input reads as it did. -/
def fnMergeCoversUnionSpec : ChangeSpec := { name := "fnMergeCoversUnion", fn := fun _ => fun
  | [d1, d2, d3, d4] => { results := [.lit (.bool true)], args := [d1, d2, d3, d4] }
  | _ => none }
def fnMergeCoversUnionRow : OpenClaim := { program := "qxb6600701a", sum := "ae9642997023d1d3565885e7c921c6ea08c4f4cbfeac5ea0c07de000428162ac", func := "example.com/hinterland/hinterland/zzlaws_causal_b1.FnMergeCoversUnion", spec := "fnMergeCoversUnion", apart := false }
def FnMergeCoversUnionSaid : Prop := fnMergeCoversUnionRow.holds Try.pinned (OpenSpec.ofChange fnMergeCoversUnionSpec)

/-- ITS FALSE NEIGHBOUR: 'it returns false'. Refute it at one input. -/
def fnMergeCoversUnionWrong : ChangeSpec := { name := "fnMergeCoversUnion", fn := fun _ => fun
  | [d1, d2, d3, d4] => { results := [.lit (.bool false)], args := [d1, d2, d3, d4] }
  | _ => none }
def FnMergeCoversUnionWrongFalsely : Prop := fnMergeCoversUnionRow.holds Try.pinned (OpenSpec.ofChange fnMergeCoversUnionWrong)

/-- 'zzlaws_causal_b1.FnMergeSemilattice': WHATEVER THE INPUT: true; the input reads as it did. -/
def fnMergeSemilatticeSpec : ChangeSpec := { name := "fnMergeSemilattice", fn := fun _ => fun
  | [d1, d2, d3] => { results := [.lit (.bool true)], args := [d1, d2, d3] }
  | _ => none }
def fnMergeSemilatticeRow : OpenClaim := { program := "qxb6600701a", sum := "ae9642997023d1d3565885e7c921c6ea08c4f4cbfeac5ea0c07de000428162ac", func := "example.com/hinterland/hinterland/zzlaws_causal_b1.FnMergeSemilattice", spec := "fnMergeSemilattice", apart := false }
def FnMergeSemilatticeSaid : Prop := fnMergeSemilatticeRow.holds Try.pinned (OpenSpec.ofChange fnMergeSemilatticeSpec)

/-- ITS FALSE NEIGHBOUR: 'it returns false'. Refute it at one input. -/
def fnMergeSemilatticeWrong : ChangeSpec := { name := "fnMergeSemilattice", fn := fun _ => fun
  | [d1, d2, d3] => { results := [.lit (.bool false)], args := [d1, d2, d3] }
  | _ => none }
def FnMergeSemilatticeWrongFalsely : Prop := fnMergeSemilatticeRow.holds Try.pinned (OpenSpec.ofChange fnMergeSemilatticeWrong)

/-- 'zzlaws_causal_b1.FnCounterExactSorted': WHATEVER THE INPUT: true; the input reads as it did. -/
def fnCounterExactSortedSpec : ChangeSpec := { name := "fnCounterExactSorted", fn := fun _ => fun
  | [d1, d2] => { results := [.lit (.bool true)], args := [d1, d2] }
  | _ => none }
def fnCounterExactSortedRow : OpenClaim := { program := "qxb6600701a", sum := "ae9642997023d1d3565885e7c921c6ea08c4f4cbfeac5ea0c07de000428162ac", func := "example.com/hinterland/hinterland/zzlaws_causal_b1.FnCounterExactSorted", spec := "fnCounterExactSorted", apart := false }
def FnCounterExactSortedSaid : Prop := fnCounterExactSortedRow.holds Try.pinned (OpenSpec.ofChange fnCounterExactSortedSpec)

/-- ITS FALSE NEIGHBOUR: 'it returns false'. Refute it at one input. -/
def fnCounterExactSortedWrong : ChangeSpec := { name := "fnCounterExactSorted", fn := fun _ => fun
  | [d1, d2] => { results := [.lit (.bool false)], args := [d1, d2] }
  | _ => none }
def FnCounterExactSortedWrongFalsely : Prop := fnCounterExactSortedRow.holds Try.pinned (OpenSpec.ofChange fnCounterExactSortedWrong)

/-- 'zzlaws_causal_b1.FnCounterConcat': WHATEVER THE INPUT: true; the input reads as it did. -/
def fnCounterConcatSpec : ChangeSpec := { name := "fnCounterConcat", fn := fun _ => fun
  | [d1, d2, d3] => { results := [.lit (.bool true)], args := [d1, d2, d3] }
  | _ => none }
def fnCounterConcatRow : OpenClaim := { program := "qxb6600701a", sum := "ae9642997023d1d3565885e7c921c6ea08c4f4cbfeac5ea0c07de000428162ac", func := "example.com/hinterland/hinterland/zzlaws_causal_b1.FnCounterConcat", spec := "fnCounterConcat", apart := false }
def FnCounterConcatSaid : Prop := fnCounterConcatRow.holds Try.pinned (OpenSpec.ofChange fnCounterConcatSpec)

/-- ITS FALSE NEIGHBOUR: 'it returns false'. Refute it at one input. -/
def fnCounterConcatWrong : ChangeSpec := { name := "fnCounterConcat", fn := fun _ => fun
  | [d1, d2, d3] => { results := [.lit (.bool false)], args := [d1, d2, d3] }
  | _ => none }
def FnCounterConcatWrongFalsely : Prop := fnCounterConcatRow.holds Try.pinned (OpenSpec.ofChange fnCounterConcatWrong)

end Rows
end Go.Proofs.Qxb6600701a
