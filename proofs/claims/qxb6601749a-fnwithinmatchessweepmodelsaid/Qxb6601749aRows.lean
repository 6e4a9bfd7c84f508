/-
  No cell of these rows narrows 'for every input' (looked for: loops, veiled, ifaces, maps, wideKeys, modest, calm, conditions, laid).
  DERIVED. THE GIVEN ROWS OF THIS SEAT. 9 by the template 'for every input the law returns true; each argument reads behind the call as it read before'; 0 by the template 'total and deterministic' (their statements: Qxb6601749aTotals.lean).
  GIVEN WITH THE SEED: the statements are not yours to turn. If you find one false, say at which input.
  Laid BY PROGRAM, IN A SANDBOX (cutbox-rows.mjs): the forced cells as the released guide's own fill.sh prints them over the translation 0723796b19704f37… (all of the seat's roots in one cut). By AI agents, Wed Nov 11 2026. No macro, syntax, notation, axiom, sorry.
-/
import Derived.Test.Qxb6601749aChecked
import GoSem.Claim
import GoSem.ClaimJoined
import GoSem.ClaimMapViews
import Derived.JoinedTies
import Derived.KernelRfl
namespace Go.Proofs.Qxb6601749a
/- THE CELL 'sum', in the pinned program and in every row, IS THE sha256 OF THE DUMP (.gsa) THAT Qxb6601749aProg.lean LOADS. Nothing in Lean hashes anything: it is a label: what it is worth is what the hold of that sum in a sandbox is worth. -/
noncomputable def Try.pinned : Pinned := { name := "qxb6601749a", sum := "0723796b19704f3706c9feefbe621817c6cdcfa9b3a477f690e6a87169339953", checked := Try.checked }
namespace Rows
def none {H : Type} : Left H := { results := [], args := [] }

/-- 'zzlaws_internal_stream_b1.FnPayloadOfIgnoresBitsOutsideItsHeaderFields': WHATEVER THE INPUT: true; the input reads as it did. -/
def fnPayloadOfIgnoresBitsOutsideItsHeaderFieldsSpec : ChangeSpec := { name := "fnPayloadOfIgnoresBitsOutsideItsHeaderFields", fn := fun _ => fun
  | [d1, d2, d3] => { results := [.lit (.bool true)], args := [d1, d2, d3] }
  | _ => none }
def fnPayloadOfIgnoresBitsOutsideItsHeaderFieldsRow : OpenClaim := { program := "qxb6601749a", sum := "0723796b19704f3706c9feefbe621817c6cdcfa9b3a477f690e6a87169339953", func := "example.com/murmuration/murmuration/zzlaws_internal_stream_b1.FnPayloadOfIgnoresBitsOutsideItsHeaderFields", spec := "fnPayloadOfIgnoresBitsOutsideItsHeaderFields", apart := false }
def FnPayloadOfIgnoresBitsOutsideItsHeaderFieldsSaid : Prop := fnPayloadOfIgnoresBitsOutsideItsHeaderFieldsRow.holds Try.pinned (OpenSpec.ofChange fnPayloadOfIgnoresBitsOutsideItsHeaderFieldsSpec)

/-- ITS FALSE NEIGHBOUR: 'it returns false'. Refute it at one input. -/
def fnPayloadOfIgnoresBitsOutsideItsHeaderFieldsWrong : ChangeSpec := { name := "fnPayloadOfIgnoresBitsOutsideItsHeaderFields", fn := fun _ => fun
  | [d1, d2, d3] => { results := [.lit (.bool false)], args := [d1, d2, d3] }
  | _ => none }
def FnPayloadOfIgnoresBitsOutsideItsHeaderFieldsWrongFalsely : Prop := fnPayloadOfIgnoresBitsOutsideItsHeaderFieldsRow.holds Try.pinned (OpenSpec.ofChange fnPayloadOfIgnoresBitsOutsideItsHeaderFieldsWrong)

/-- 'zzlaws_internal_stream_b1.FnPayloadOfAdaptationFieldCostsItsLength': WHATEVER THE INPUT: true; the input reads as it did. -/
def fnPayloadOfAdaptationFieldCostsItsLengthSpec : ChangeSpec := { name := "fnPayloadOfAdaptationFieldCostsItsLength", fn := fun _ => fun
  | [d1, d2, d3] => { results := [.lit (.bool true)], args := [d1, d2, d3] }
  | _ => none }
def fnPayloadOfAdaptationFieldCostsItsLengthRow : OpenClaim := { program := "qxb6601749a", sum := "0723796b19704f3706c9feefbe621817c6cdcfa9b3a477f690e6a87169339953", func := "example.com/murmuration/murmuration/zzlaws_internal_stream_b1.FnPayloadOfAdaptationFieldCostsItsLength", spec := "fnPayloadOfAdaptationFieldCostsItsLength", apart := false }
def FnPayloadOfAdaptationFieldCostsItsLengthSaid : Prop := fnPayloadOfAdaptationFieldCostsItsLengthRow.holds Try.pinned (OpenSpec.ofChange fnPayloadOfAdaptationFieldCostsItsLengthSpec)

/-- ITS FALSE NEIGHBOUR: 'it returns false'. Refute it at one input. -/
def fnPayloadOfAdaptationFieldCostsItsLengthWrong : ChangeSpec := { name := "fnPayloadOfAdaptationFieldCostsItsLength", fn := fun _ => fun
  | [d1, d2, d3] => { results := [.lit (.bool false)], args := [d1, d2, d3] }
  | _ => none }
def FnPayloadOfAdaptationFieldCostsItsLengthWrongFalsely : Prop := fnPayloadOfAdaptationFieldCostsItsLengthRow.holds Try.pinned (OpenSpec.ofChange fnPayloadOfAdaptationFieldCostsItsLengthWrong)

/-- 'zzlaws_internal_stream_b1.FnSectionAtMatchesTableModel': WHATEVER THE INPUT: true; the input reads as it did. -/
def fnSectionAtMatchesTableModelSpec : ChangeSpec := { name := "fnSectionAtMatchesTableModel", fn := fun _ => fun
  | [d1, d2] => { results := [.lit (.bool true)], args := [d1, d2] }
  | _ => none }
def fnSectionAtMatchesTableModelRow : OpenClaim := { program := "qxb6601749a", sum := "0723796b19704f3706c9feefbe621817c6cdcfa9b3a477f690e6a87169339953", func := "example.com/murmuration/murmuration/zzlaws_internal_stream_b1.FnSectionAtMatchesTableModel", spec := "fnSectionAtMatchesTableModel", apart := false }
def FnSectionAtMatchesTableModelSaid : Prop := fnSectionAtMatchesTableModelRow.holds Try.pinned (OpenSpec.ofChange fnSectionAtMatchesTableModelSpec)

/-- ITS FALSE NEIGHBOUR: 'it returns false'. Refute it at one input. -/
def fnSectionAtMatchesTableModelWrong : ChangeSpec := { name := "fnSectionAtMatchesTableModel", fn := fun _ => fun
  | [d1, d2] => { results := [.lit (.bool false)], args := [d1, d2] }
  | _ => none }
def FnSectionAtMatchesTableModelWrongFalsely : Prop := fnSectionAtMatchesTableModelRow.holds Try.pinned (OpenSpec.ofChange fnSectionAtMatchesTableModelWrong)

/-- 'zzlaws_internal_stream_b1.FnSectionAtFoundSectionIsWellFormed': WHATEVER THE INPUT: true; the input reads as it did. -/
def fnSectionAtFoundSectionIsWellFormedSpec : ChangeSpec := { name := "fnSectionAtFoundSectionIsWellFormed", fn := fun _ => fun
  | [d1, d2] => { results := [.lit (.bool true)], args := [d1, d2] }
  | _ => none }
def fnSectionAtFoundSectionIsWellFormedRow : OpenClaim := { program := "qxb6601749a", sum := "0723796b19704f3706c9feefbe621817c6cdcfa9b3a477f690e6a87169339953", func := "example.com/murmuration/murmuration/zzlaws_internal_stream_b1.FnSectionAtFoundSectionIsWellFormed", spec := "fnSectionAtFoundSectionIsWellFormed", apart := false }
def FnSectionAtFoundSectionIsWellFormedSaid : Prop := fnSectionAtFoundSectionIsWellFormedRow.holds Try.pinned (OpenSpec.ofChange fnSectionAtFoundSectionIsWellFormedSpec)

/-- ITS FALSE NEIGHBOUR: 'it returns false'. Refute it at one input. -/
def fnSectionAtFoundSectionIsWellFormedWrong : ChangeSpec := { name := "fnSectionAtFoundSectionIsWellFormed", fn := fun _ => fun
  | [d1, d2] => { results := [.lit (.bool false)], args := [d1, d2] }
  | _ => none }
def FnSectionAtFoundSectionIsWellFormedWrongFalsely : Prop := fnSectionAtFoundSectionIsWellFormedRow.holds Try.pinned (OpenSpec.ofChange fnSectionAtFoundSectionIsWellFormedWrong)

/-- 'zzlaws_internal_stream_b1.FnSectionAtKeepsSectionWhenMoreFollows': WHATEVER THE INPUT: true; the input reads as it did. -/
def fnSectionAtKeepsSectionWhenMoreFollowsSpec : ChangeSpec := { name := "fnSectionAtKeepsSectionWhenMoreFollows", fn := fun _ => fun
  | [d1, d2, d3] => { results := [.lit (.bool true)], args := [d1, d2, d3] }
  | _ => none }
def fnSectionAtKeepsSectionWhenMoreFollowsRow : OpenClaim := { program := "qxb6601749a", sum := "0723796b19704f3706c9feefbe621817c6cdcfa9b3a477f690e6a87169339953", func := "example.com/murmuration/murmuration/zzlaws_internal_stream_b1.FnSectionAtKeepsSectionWhenMoreFollows", spec := "fnSectionAtKeepsSectionWhenMoreFollows", apart := false }
def FnSectionAtKeepsSectionWhenMoreFollowsSaid : Prop := fnSectionAtKeepsSectionWhenMoreFollowsRow.holds Try.pinned (OpenSpec.ofChange fnSectionAtKeepsSectionWhenMoreFollowsSpec)

/-- ITS FALSE NEIGHBOUR: 'it returns false'. Refute it at one input. -/
def fnSectionAtKeepsSectionWhenMoreFollowsWrong : ChangeSpec := { name := "fnSectionAtKeepsSectionWhenMoreFollows", fn := fun _ => fun
  | [d1, d2, d3] => { results := [.lit (.bool false)], args := [d1, d2, d3] }
  | _ => none }
def FnSectionAtKeepsSectionWhenMoreFollowsWrongFalsely : Prop := fnSectionAtKeepsSectionWhenMoreFollowsRow.holds Try.pinned (OpenSpec.ofChange fnSectionAtKeepsSectionWhenMoreFollowsWrong)

/-- 'zzlaws_internal_stream_b1.FnWithinMatchesSweepModel': WHATEVER THE INPUT: true; the input reads as it did. -/
def fnWithinMatchesSweepModelSpec : ChangeSpec := { name := "fnWithinMatchesSweepModel", fn := fun _ => fun
  | [d1, d2, d3, d4] => { results := [.lit (.bool true)], args := [d1, d2, d3, d4] }
  | _ => none }
def fnWithinMatchesSweepModelRow : OpenClaim := { program := "qxb6601749a", sum := "0723796b19704f3706c9feefbe621817c6cdcfa9b3a477f690e6a87169339953", func := "example.com/murmuration/murmuration/zzlaws_internal_stream_b1.FnWithinMatchesSweepModel", spec := "fnWithinMatchesSweepModel", apart := false }
def FnWithinMatchesSweepModelSaid : Prop := fnWithinMatchesSweepModelRow.holds Try.pinned (OpenSpec.ofChange fnWithinMatchesSweepModelSpec)

/-- ITS FALSE NEIGHBOUR: 'it returns false'. Refute it at one input. -/
def fnWithinMatchesSweepModelWrong : ChangeSpec := { name := "fnWithinMatchesSweepModel", fn := fun _ => fun
  | [d1, d2, d3, d4] => { results := [.lit (.bool false)], args := [d1, d2, d3, d4] }
  | _ => none }
def FnWithinMatchesSweepModelWrongFalsely : Prop := fnWithinMatchesSweepModelRow.holds Try.pinned (OpenSpec.ofChange fnWithinMatchesSweepModelWrong)

/-- 'zzlaws_internal_stream_b1.FnWithinAgreesAcrossBitmapAndRuns': WHATEVER THE INPUT: true; the input reads as it did. -/
def fnWithinAgreesAcrossBitmapAndRunsSpec : ChangeSpec := { name := "fnWithinAgreesAcrossBitmapAndRuns", fn := fun _ => fun
  | [d1, d2, d3] => { results := [.lit (.bool true)], args := [d1, d2, d3] }
  | _ => none }
def fnWithinAgreesAcrossBitmapAndRunsRow : OpenClaim := { program := "qxb6601749a", sum := "0723796b19704f3706c9feefbe621817c6cdcfa9b3a477f690e6a87169339953", func := "example.com/murmuration/murmuration/zzlaws_internal_stream_b1.FnWithinAgreesAcrossBitmapAndRuns", spec := "fnWithinAgreesAcrossBitmapAndRuns", apart := false }
def FnWithinAgreesAcrossBitmapAndRunsSaid : Prop := fnWithinAgreesAcrossBitmapAndRunsRow.holds Try.pinned (OpenSpec.ofChange fnWithinAgreesAcrossBitmapAndRunsSpec)

/-- ITS FALSE NEIGHBOUR: 'it returns false'. Refute it at one input. -/
def fnWithinAgreesAcrossBitmapAndRunsWrong : ChangeSpec := { name := "fnWithinAgreesAcrossBitmapAndRuns", fn := fun _ => fun
  | [d1, d2, d3] => { results := [.lit (.bool false)], args := [d1, d2, d3] }
  | _ => none }
def FnWithinAgreesAcrossBitmapAndRunsWrongFalsely : Prop := fnWithinAgreesAcrossBitmapAndRunsRow.holds Try.pinned (OpenSpec.ofChange fnWithinAgreesAcrossBitmapAndRunsWrong)

/-- 'zzlaws_internal_stream_b1.FnWithinSplitsAtAnyMidpoint': WHATEVER THE INPUT: true; the input reads as it did. -/
def fnWithinSplitsAtAnyMidpointSpec : ChangeSpec := { name := "fnWithinSplitsAtAnyMidpoint", fn := fun _ => fun
  | [d1, d2, d3, d4, d5] => { results := [.lit (.bool true)], args := [d1, d2, d3, d4, d5] }
  | _ => none }
def fnWithinSplitsAtAnyMidpointRow : OpenClaim := { program := "qxb6601749a", sum := "0723796b19704f3706c9feefbe621817c6cdcfa9b3a477f690e6a87169339953", func := "example.com/murmuration/murmuration/zzlaws_internal_stream_b1.FnWithinSplitsAtAnyMidpoint", spec := "fnWithinSplitsAtAnyMidpoint", apart := false }
def FnWithinSplitsAtAnyMidpointSaid : Prop := fnWithinSplitsAtAnyMidpointRow.holds Try.pinned (OpenSpec.ofChange fnWithinSplitsAtAnyMidpointSpec)

/-- ITS FALSE NEIGHBOUR: 'it returns false'. Refute it at one input. -/
def fnWithinSplitsAtAnyMidpointWrong : ChangeSpec := { name := "fnWithinSplitsAtAnyMidpoint", fn := fun _ => fun
  | [d1, d2, d3, d4, d5] => { results := [.lit (.bool false)], args := [d1, d2, d3, d4, d5] }
  | _ => none }
def FnWithinSplitsAtAnyMidpointWrongFalsely : Prop := fnWithinSplitsAtAnyMidpointRow.holds Try.pinned (OpenSpec.ofChange fnWithinSplitsAtAnyMidpointWrong)

/-- 'zzlaws_internal_stream_b1.FnPayloadOfIsASuffixOfOnePidsPacket': WHATEVER THE INPUT: true; the input reads as it did. -/
def fnPayloadOfIsASuffixOfOnePidsPacketSpec : ChangeSpec := { name := "fnPayloadOfIsASuffixOfOnePidsPacket", fn := fun _ => fun
  | [d1, d2, d3] => { results := [.lit (.bool true)], args := [d1, d2, d3] }
  | _ => none }
def fnPayloadOfIsASuffixOfOnePidsPacketRow : OpenClaim := { program := "qxb6601749a", sum := "0723796b19704f3706c9feefbe621817c6cdcfa9b3a477f690e6a87169339953", func := "example.com/murmuration/murmuration/zzlaws_internal_stream_b1.FnPayloadOfIsASuffixOfOnePidsPacket", spec := "fnPayloadOfIsASuffixOfOnePidsPacket", apart := false }
def FnPayloadOfIsASuffixOfOnePidsPacketSaid : Prop := fnPayloadOfIsASuffixOfOnePidsPacketRow.holds Try.pinned (OpenSpec.ofChange fnPayloadOfIsASuffixOfOnePidsPacketSpec)

/-- ITS FALSE NEIGHBOUR: 'it returns false'. Refute it at one input. -/
def fnPayloadOfIsASuffixOfOnePidsPacketWrong : ChangeSpec := { name := "fnPayloadOfIsASuffixOfOnePidsPacket", fn := fun _ => fun
  | [d1, d2, d3] => { results := [.lit (.bool false)], args := [d1, d2, d3] }
  | _ => none }
def FnPayloadOfIsASuffixOfOnePidsPacketWrongFalsely : Prop := fnPayloadOfIsASuffixOfOnePidsPacketRow.holds Try.pinned (OpenSpec.ofChange fnPayloadOfIsASuffixOfOnePidsPacketWrong)

end Rows
end Go.Proofs.Qxb6601749a
