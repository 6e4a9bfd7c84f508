/-
  No cell of these rows narrows 'for every input' (looked for: loops, veiled, ifaces, maps, wideKeys, modest, calm, conditions, laid).
  DERIVED. THE GIVEN ROWS OF THIS SEAT. 6 by the template 'for every input the law returns true; each argument reads behind the call as it read before'; 0 by the template 'total and deterministic' (their statements: Qxb6601428aTotals.lean).
  GIVEN WITH THE SEED: the statements are not yours to turn. If you find one false, say at which input.
  Laid BY PROGRAM, IN A SANDBOX (cutbox-rows.mjs): the forced cells as the released guide's own fill.sh prints them over the translation ef9dc39fbc71661f… (all of the seat's roots in one cut). By AI agents, Wed Nov 11 2026. No macro, syntax, notation, axiom, sorry.
-/
import Derived.Test.Qxb6601428aChecked
import GoSem.Claim
import GoSem.ClaimJoined
import GoSem.ClaimMapViews
import Derived.JoinedTies
import Derived.KernelRfl
namespace Go.Proofs.Qxb6601428a
/- THE CELL 'sum', in the pinned program and in every row, IS THE sha256 OF THE DUMP (.gsa) THAT Qxb6601428aProg.lean LOADS. Nothing in Lean hashes anything: it is a label: what it is worth is what the hold of that sum in a sandbox is worth. -/
noncomputable def Try.pinned : Pinned := { name := "qxb6601428a", sum := "ef9dc39fbc71661f3889fb398eeebd5f51b6a36d6a4093b8fb69aa441bd0c5c9", checked := Try.checked }
namespace Rows
def none {H : Type} : Left H := { results := [], args := [] }

/-- 'zzlaws_root_b1.FnMariadbSkipEndsQuotedAtItsClosingQuote': WHATEVER THE INPUT: true; the input reads as it did. -/
def fnMariadbSkipEndsQuotedAtItsClosingQuoteSpec : ChangeSpec := { name := "fnMariadbSkipEndsQuotedAtItsClosingQuote", fn := fun _ => fun
  | [d1, d2, d3] => { results := [.lit (.bool true)], args := [d1, d2, d3] }
  | _ => none }
def fnMariadbSkipEndsQuotedAtItsClosingQuoteRow : OpenClaim := { program := "qxb6601428a", sum := "ef9dc39fbc71661f3889fb398eeebd5f51b6a36d6a4093b8fb69aa441bd0c5c9", func := "example.com/libstep/libstep/zzlaws_root_b1.FnMariadbSkipEndsQuotedAtItsClosingQuote", spec := "fnMariadbSkipEndsQuotedAtItsClosingQuote", inPlace := ["internal/bytealg.IndexByteString", "internal/bytealg.IndexString"], named := ["internal/bytealg.MaxLen"], apart := false }
def FnMariadbSkipEndsQuotedAtItsClosingQuoteSaid : Prop := fnMariadbSkipEndsQuotedAtItsClosingQuoteRow.holds Try.pinned (OpenSpec.ofChange fnMariadbSkipEndsQuotedAtItsClosingQuoteSpec)

/-- ITS FALSE NEIGHBOUR: 'it returns false'. Refute it at one input. -/
def fnMariadbSkipEndsQuotedAtItsClosingQuoteWrong : ChangeSpec := { name := "fnMariadbSkipEndsQuotedAtItsClosingQuote", fn := fun _ => fun
  | [d1, d2, d3] => { results := [.lit (.bool false)], args := [d1, d2, d3] }
  | _ => none }
def FnMariadbSkipEndsQuotedAtItsClosingQuoteWrongFalsely : Prop := fnMariadbSkipEndsQuotedAtItsClosingQuoteRow.holds Try.pinned (OpenSpec.ofChange fnMariadbSkipEndsQuotedAtItsClosingQuoteWrong)

/-- 'zzlaws_root_b1.FnMariadbSkipPlainCommentAgreesWithBlockCommentEnd': WHATEVER THE INPUT: true; the input reads as it did. -/
def fnMariadbSkipPlainCommentAgreesWithBlockCommentEndSpec : ChangeSpec := { name := "fnMariadbSkipPlainCommentAgreesWithBlockCommentEnd", fn := fun _ => fun
  | [d1, d2] => { results := [.lit (.bool true)], args := [d1, d2] }
  | _ => none }
def fnMariadbSkipPlainCommentAgreesWithBlockCommentEndRow : OpenClaim := { program := "qxb6601428a", sum := "ef9dc39fbc71661f3889fb398eeebd5f51b6a36d6a4093b8fb69aa441bd0c5c9", func := "example.com/libstep/libstep/zzlaws_root_b1.FnMariadbSkipPlainCommentAgreesWithBlockCommentEnd", spec := "fnMariadbSkipPlainCommentAgreesWithBlockCommentEnd", inPlace := ["internal/bytealg.IndexByteString", "internal/bytealg.IndexString"], named := ["internal/bytealg.MaxLen"], apart := false }
def FnMariadbSkipPlainCommentAgreesWithBlockCommentEndSaid : Prop := fnMariadbSkipPlainCommentAgreesWithBlockCommentEndRow.holds Try.pinned (OpenSpec.ofChange fnMariadbSkipPlainCommentAgreesWithBlockCommentEndSpec)

/-- ITS FALSE NEIGHBOUR: 'it returns false'. Refute it at one input. -/
def fnMariadbSkipPlainCommentAgreesWithBlockCommentEndWrong : ChangeSpec := { name := "fnMariadbSkipPlainCommentAgreesWithBlockCommentEnd", fn := fun _ => fun
  | [d1, d2] => { results := [.lit (.bool false)], args := [d1, d2] }
  | _ => none }
def FnMariadbSkipPlainCommentAgreesWithBlockCommentEndWrongFalsely : Prop := fnMariadbSkipPlainCommentAgreesWithBlockCommentEndRow.holds Try.pinned (OpenSpec.ofChange fnMariadbSkipPlainCommentAgreesWithBlockCommentEndWrong)

/-- 'zzlaws_root_b1.FnAfterSpaceMatchesUnitGrammarModel': WHATEVER THE INPUT: true; the input reads as it did. -/
def fnAfterSpaceMatchesUnitGrammarModelSpec : ChangeSpec := { name := "fnAfterSpaceMatchesUnitGrammarModel", fn := fun _ => fun
  | [d1, d2] => { results := [.lit (.bool true)], args := [d1, d2] }
  | _ => none }
def fnAfterSpaceMatchesUnitGrammarModelRow : OpenClaim := { program := "qxb6601428a", sum := "ef9dc39fbc71661f3889fb398eeebd5f51b6a36d6a4093b8fb69aa441bd0c5c9", func := "example.com/libstep/libstep/zzlaws_root_b1.FnAfterSpaceMatchesUnitGrammarModel", spec := "fnAfterSpaceMatchesUnitGrammarModel", inPlace := ["internal/bytealg.IndexByteString"], recurses := true, apart := false }
def FnAfterSpaceMatchesUnitGrammarModelSaid : Prop := fnAfterSpaceMatchesUnitGrammarModelRow.holds Try.pinned (OpenSpec.ofChange fnAfterSpaceMatchesUnitGrammarModelSpec)

/-- ITS FALSE NEIGHBOUR: 'it returns false'. Refute it at one input. -/
def fnAfterSpaceMatchesUnitGrammarModelWrong : ChangeSpec := { name := "fnAfterSpaceMatchesUnitGrammarModel", fn := fun _ => fun
  | [d1, d2] => { results := [.lit (.bool false)], args := [d1, d2] }
  | _ => none }
def FnAfterSpaceMatchesUnitGrammarModelWrongFalsely : Prop := fnAfterSpaceMatchesUnitGrammarModelRow.holds Try.pinned (OpenSpec.ofChange fnAfterSpaceMatchesUnitGrammarModelWrong)

/-- 'zzlaws_root_b1.FnAfterSpaceStopsAtTokenAndIsIdempotent': WHATEVER THE INPUT: true; the input reads as it did. -/
def fnAfterSpaceStopsAtTokenAndIsIdempotentSpec : ChangeSpec := { name := "fnAfterSpaceStopsAtTokenAndIsIdempotent", fn := fun _ => fun
  | [d1, d2] => { results := [.lit (.bool true)], args := [d1, d2] }
  | _ => none }
def fnAfterSpaceStopsAtTokenAndIsIdempotentRow : OpenClaim := { program := "qxb6601428a", sum := "ef9dc39fbc71661f3889fb398eeebd5f51b6a36d6a4093b8fb69aa441bd0c5c9", func := "example.com/libstep/libstep/zzlaws_root_b1.FnAfterSpaceStopsAtTokenAndIsIdempotent", spec := "fnAfterSpaceStopsAtTokenAndIsIdempotent", inPlace := ["internal/bytealg.IndexByteString"], apart := false }
def FnAfterSpaceStopsAtTokenAndIsIdempotentSaid : Prop := fnAfterSpaceStopsAtTokenAndIsIdempotentRow.holds Try.pinned (OpenSpec.ofChange fnAfterSpaceStopsAtTokenAndIsIdempotentSpec)

/-- ITS FALSE NEIGHBOUR: 'it returns false'. Refute it at one input. -/
def fnAfterSpaceStopsAtTokenAndIsIdempotentWrong : ChangeSpec := { name := "fnAfterSpaceStopsAtTokenAndIsIdempotent", fn := fun _ => fun
  | [d1, d2] => { results := [.lit (.bool false)], args := [d1, d2] }
  | _ => none }
def FnAfterSpaceStopsAtTokenAndIsIdempotentWrongFalsely : Prop := fnAfterSpaceStopsAtTokenAndIsIdempotentRow.holds Try.pinned (OpenSpec.ofChange fnAfterSpaceStopsAtTokenAndIsIdempotentWrong)

/-- 'zzlaws_root_b1.FnBlockCommentEndMatchesNestedGrammar': WHATEVER THE INPUT: true; the input reads as it did. -/
def fnBlockCommentEndMatchesNestedGrammarSpec : ChangeSpec := { name := "fnBlockCommentEndMatchesNestedGrammar", fn := fun _ => fun
  | [d1, d2] => { results := [.lit (.bool true)], args := [d1, d2] }
  | _ => none }
def fnBlockCommentEndMatchesNestedGrammarRow : OpenClaim := { program := "qxb6601428a", sum := "ef9dc39fbc71661f3889fb398eeebd5f51b6a36d6a4093b8fb69aa441bd0c5c9", func := "example.com/libstep/libstep/zzlaws_root_b1.FnBlockCommentEndMatchesNestedGrammar", spec := "fnBlockCommentEndMatchesNestedGrammar", recurses := true, apart := false }
def FnBlockCommentEndMatchesNestedGrammarSaid : Prop := fnBlockCommentEndMatchesNestedGrammarRow.holds Try.pinned (OpenSpec.ofChange fnBlockCommentEndMatchesNestedGrammarSpec)

/-- ITS FALSE NEIGHBOUR: 'it returns false'. Refute it at one input. -/
def fnBlockCommentEndMatchesNestedGrammarWrong : ChangeSpec := { name := "fnBlockCommentEndMatchesNestedGrammar", fn := fun _ => fun
  | [d1, d2] => { results := [.lit (.bool false)], args := [d1, d2] }
  | _ => none }
def FnBlockCommentEndMatchesNestedGrammarWrongFalsely : Prop := fnBlockCommentEndMatchesNestedGrammarRow.holds Try.pinned (OpenSpec.ofChange fnBlockCommentEndMatchesNestedGrammarWrong)

/-- 'zzlaws_root_b1.FnBlockCommentEndDependsOnlyOnWhatItSpans': WHATEVER THE INPUT: true; the input reads as it did. -/
def fnBlockCommentEndDependsOnlyOnWhatItSpansSpec : ChangeSpec := { name := "fnBlockCommentEndDependsOnlyOnWhatItSpans", fn := fun _ => fun
  | [d1, d2, d3] => { results := [.lit (.bool true)], args := [d1, d2, d3] }
  | _ => none }
def fnBlockCommentEndDependsOnlyOnWhatItSpansRow : OpenClaim := { program := "qxb6601428a", sum := "ef9dc39fbc71661f3889fb398eeebd5f51b6a36d6a4093b8fb69aa441bd0c5c9", func := "example.com/libstep/libstep/zzlaws_root_b1.FnBlockCommentEndDependsOnlyOnWhatItSpans", spec := "fnBlockCommentEndDependsOnlyOnWhatItSpans", apart := false }
def FnBlockCommentEndDependsOnlyOnWhatItSpansSaid : Prop := fnBlockCommentEndDependsOnlyOnWhatItSpansRow.holds Try.pinned (OpenSpec.ofChange fnBlockCommentEndDependsOnlyOnWhatItSpansSpec)

/-- ITS FALSE NEIGHBOUR: 'it returns false'. Refute it at one input. -/
def fnBlockCommentEndDependsOnlyOnWhatItSpansWrong : ChangeSpec := { name := "fnBlockCommentEndDependsOnlyOnWhatItSpans", fn := fun _ => fun
  | [d1, d2, d3] => { results := [.lit (.bool false)], args := [d1, d2, d3] }
  | _ => none }
def FnBlockCommentEndDependsOnlyOnWhatItSpansWrongFalsely : Prop := fnBlockCommentEndDependsOnlyOnWhatItSpansRow.holds Try.pinned (OpenSpec.ofChange fnBlockCommentEndDependsOnlyOnWhatItSpansWrong)

end Rows
end Go.Proofs.Qxb6601428a
