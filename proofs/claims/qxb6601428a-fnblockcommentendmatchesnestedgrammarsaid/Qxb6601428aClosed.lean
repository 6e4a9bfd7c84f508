/-
  THE ROWS' CLOSED FACTS ('joinedFacts'), PIECE BY PIECE: the dump's first line lists the roots' names; by one 'kernel_rfl' the kernel takes that long text apart more than once: several GB.
  Here: the line's signs are laid as a list; its first three words are split off by a law; what stands behind them is never looked at.
-/
import Derived.Test.Qxb6601428aRows
import Derived.ProofKit
namespace Go.Proofs.Qxb6601428a

/-- The signs of the head's first three words, and those behind. -/
def hdH : List Char := ['h', 'a', 'r', 'n', 'e', 's', 's']
def hdS : List Char := ['d', '5', '0', '5', 'e', '8', 'b', '2', '9', '6', '6', 'a', '0', '0', '5', 'b', 'c', '7', '2', 'd', 'd', '5', '1', '4', 'c', 'd', 'e', '5', 'f', '3', '9', 'f', '8', '6', 'c', 'c', 'f', 'e', '7', 'f', 'd', '2', 'e', '4', '6', '0', '0', '6', '5', '3', '5', 'b', 'a', '4', 'f', '2', '8', 'b', 'd', 'c', '6', '4', 'e', '9']
def hdC : List Char := ['c', 'u', 't']
def hdR : List Char := ['a', 't', ' ', 'e', 'x', 'a', 'm', 'p', 'l', 'e', '.', 'c', 'o', 'm', '/', 'l', 'i', 'b', 's', 't', 'e', 'p', '/', 'l', 'i', 'b', 's', 't', 'e', 'p', '/', 'z', 'z', 'l', 'a', 'w', 's', '_', 'r', 'o', 'o', 't', '_', 'b', '1', '.', 'F', 'n', 'M', 'a', 'r', 'i', 'a', 'd', 'b', 'S', 'k', 'i', 'p', 'E', 'n', 'd', 's', 'Q', 'u', 'o', 't', 'e', 'd', 'A', 't', 'I', 't', 's', 'C', 'l', 'o', 's', 'i', 'n', 'g', 'Q', 'u', 'o', 't', 'e', ' ', 'e', 'x', 'a', 'm', 'p', 'l', 'e', '.', 'c', 'o', 'm', '/', 'l', 'i', 'b', 's', 't', 'e', 'p', '/', 'l', 'i', 'b', 's', 't', 'e', 'p', '/', 'z', 'z', 'l', 'a', 'w', 's', '_', 'r', 'o', 'o', 't', '_', 'b', '1', '.', 'F', 'n', 'M', 'a', 'r', 'i', 'a', 'd', 'b', 'S', 'k', 'i', 'p', 'P', 'l', 'a', 'i', 'n', 'C', 'o', 'm', 'm', 'e', 'n', 't', 'A', 'g', 'r', 'e', 'e', 's', 'W', 'i', 't', 'h', 'B', 'l', 'o', 'c', 'k', 'C', 'o', 'm', 'm', 'e', 'n', 't', 'E', 'n', 'd', ' ', 'e', 'x', 'a', 'm', 'p', 'l', 'e', '.', 'c', 'o', 'm', '/', 'l', 'i', 'b', 's', 't', 'e', 'p', '/', 'l', 'i', 'b', 's', 't', 'e', 'p', '/', 'z', 'z', 'l', 'a', 'w', 's', '_', 'r', 'o', 'o', 't', '_', 'b', '1', '.', 'F', 'n', 'A', 'f', 't', 'e', 'r', 'S', 'p', 'a', 'c', 'e', 'M', 'a', 't', 'c', 'h', 'e', 's', 'U', 'n', 'i', 't', 'G', 'r', 'a', 'm', 'm', 'a', 'r', 'M', 'o', 'd', 'e', 'l', ' ', 'e', 'x', 'a', 'm', 'p', 'l', 'e', '.', 'c', 'o', 'm', '/', 'l', 'i', 'b', 's', 't', 'e', 'p', '/', 'l', 'i', 'b', 's', 't', 'e', 'p', '/', 'z', 'z', 'l', 'a', 'w', 's', '_', 'r', 'o', 'o', 't', '_', 'b', '1', '.', 'F', 'n', 'A', 'f', 't', 'e', 'r', 'S', 'p', 'a', 'c', 'e', 'S', 't', 'o', 'p', 's', 'A', 't', 'T', 'o', 'k', 'e', 'n', 'A', 'n', 'd', 'I', 's', 'I', 'd', 'e', 'm', 'p', 'o', 't', 'e', 'n', 't', ' ', 'e', 'x', 'a', 'm', 'p', 'l', 'e', '.', 'c', 'o', 'm', '/', 'l', 'i', 'b', 's', 't', 'e', 'p', '/', 'l', 'i', 'b', 's', 't', 'e', 'p', '/', 'z', 'z', 'l', 'a', 'w', 's', '_', 'r', 'o', 'o', 't', '_', 'b', '1', '.', 'F', 'n', 'B', 'l', 'o', 'c', 'k', 'C', 'o', 'm', 'm', 'e', 'n', 't', 'E', 'n', 'd', 'M', 'a', 't', 'c', 'h', 'e', 's', 'N', 'e', 's', 't', 'e', 'd', 'G', 'r', 'a', 'm', 'm', 'a', 'r', ' ', 'e', 'x', 'a', 'm', 'p', 'l', 'e', '.', 'c', 'o', 'm', '/', 'l', 'i', 'b', 's', 't', 'e', 'p', '/', 'l', 'i', 'b', 's', 't', 'e', 'p', '/', 'z', 'z', 'l', 'a', 'w', 's', '_', 'r', 'o', 'o', 't', '_', 'b', '1', '.', 'F', 'n', 'B', 'l', 'o', 'c', 'k', 'C', 'o', 'm', 'm', 'e', 'n', 't', 'E', 'n', 'd', 'D', 'e', 'p', 'e', 'n', 'd', 's', 'O', 'n', 'l', 'y', 'O', 'n', 'W', 'h', 'a', 't', 'I', 't', 'S', 'p', 'a', 'n', 's']

theorem head_is : Try.pinned.checked.prog.initOrder = String.ofList (hdH ++ ' ' :: (hdS ++ ' ' :: (hdC ++ ' ' :: hdR))) := by kernel_rfl

theorem words_word : ∀ (l r : List Char), (∀ c ∈ l, c ≠ ' ') → wordsSigns (l ++ ' ' :: r) = l :: wordsSigns r
  | [], r, _ => rfl
  | c :: l, r, h => by
    have hc : c ≠ ' ' := h c (by simp)
    have ih := words_word l r (fun d hd => h d (by simp [hd]))
    rw [List.cons_append, wordsSigns, ih]
    exact hc

theorem behind (q : List (List Char)) : behindMainWord (hdH :: hdS :: hdC :: q) = hdC :: q := by kernel_rfl

theorem signs : Try.pinned.checked.prog.initOrder.toList = hdH ++ ' ' :: (hdS ++ ' ' :: (hdC ++ ' ' :: hdR)) := (congrArg String.toList head_is).trans String.toList_ofList

theorem cut3 (r : List Char) : wordsSigns (hdH ++ ' ' :: (hdS ++ ' ' :: (hdC ++ ' ' :: r))) = hdH :: hdS :: hdC :: wordsSigns r := by
  rw [words_word hdH _ (by decide +kernel), words_word hdS _ (by decide +kernel), words_word hdC _ (by decide +kernel)]

theorem words : behindMainWord (wordsSigns Try.pinned.checked.prog.initOrder.toList) = hdC :: wordsSigns hdR :=
  (congrArg (fun l => behindMainWord (wordsSigns l)) signs).trans ((congrArg behindMainWord (cut3 hdR)).trans (behind _))

/-! With the program a letter: so nothing of it is run. -/
theorem cut_is : hdC = "cut".toList := by kernel_rfl
theorem strip_is (q : List (List Char)) : stripLifts liftWords (hdC :: q) = ([], hdC :: q) := by kernel_rfl

theorem may_of {P : Program} {q : List (List Char)} (h : behindMainWord (wordsSigns P.initOrder.toList) = hdC :: q) (h1 : P.laysLater = false) (h2 : P.bearsReflect = false) (h3 : P.doorFits [] = true) : P.mayEnter = true := by
  have hs := strip_is q
  have hc : (some hdC == some "cut".toList) = true := by rw [cut_is]; simp
  unfold Program.mayEnter
  rw [h]
  dsimp only
  rw [hs]
  rw [show (([] : List String), hdC :: q).2.head? = some hdC from rfl, show (([] : List String), hdC :: q).1 = [] from rfl, hc, h1, h2, h3]
  simp

theorem lifts_of {P : Program} {q : List (List Char)} (h : behindMainWord (wordsSigns P.initOrder.toList) = hdC :: q) : P.liftsFinal = false := by
  unfold Program.liftsFinal Program.headLifts
  rw [h]
  clear h
  kernel_rfl

theorem make_of {P : Program} {q : List (List Char)} (h : behindMainWord (wordsSigns P.initOrder.toList) = hdC :: q) : P.make = some .cut := by
  unfold Program.make
  rw [h]
  clear h
  kernel_rfl

theorem lays : Try.pinned.checked.prog.laysLater = false := by kernel_rfl
theorem bears : Try.pinned.checked.prog.bearsReflect = false := by kernel_rfl
theorem door : Try.pinned.checked.prog.doorFits [] = true := by kernel_rfl

theorem mayEnter : Try.pinned.checked.prog.mayEnter = true := may_of words lays bears door

theorem and_true' {a b : Bool} (h : a = true) (k : b = true) : (a && b) = true := by rw [h, k]; rfl

theorem fnBlockCommentEndDependsOnlyOnWhatItSpansLifts : (Rows.fnBlockCommentEndDependsOnlyOnWhatItSpansRow.lifted == Try.pinned.checked.prog.liftsFinal) = true :=
  (congrArg (fun b => Rows.fnBlockCommentEndDependsOnlyOnWhatItSpansRow.lifted == b) (lifts_of words)).trans (by kernel_rfl)
theorem fnBlockCommentEndDependsOnlyOnWhatItSpansMake : (Try.pinned.checked.prog.make == some Rows.fnBlockCommentEndDependsOnlyOnWhatItSpansRow.make) = true :=
  (congrArg (fun b => b == some Rows.fnBlockCommentEndDependsOnlyOnWhatItSpansRow.make) (make_of words)).trans (by kernel_rfl)

theorem fnBlockCommentEndDependsOnlyOnWhatItSpansClosed : joinedFacts Try.pinned.checked.prog 8 Try.f8 Rows.fnBlockCommentEndDependsOnlyOnWhatItSpansSpec Rows.fnBlockCommentEndDependsOnlyOnWhatItSpansRow = true := by
  unfold joinedFacts
  repeat' (with_reducible refine and_true' ?_ ?_)
  all_goals first
    | (with_reducible exact mayEnter)
    | (with_reducible exact fnBlockCommentEndDependsOnlyOnWhatItSpansLifts)
    | (with_reducible exact fnBlockCommentEndDependsOnlyOnWhatItSpansMake)
    | (as_aux_lemma => kernel_rfl)

theorem fnBlockCommentEndMatchesNestedGrammarLifts : (Rows.fnBlockCommentEndMatchesNestedGrammarRow.lifted == Try.pinned.checked.prog.liftsFinal) = true :=
  (congrArg (fun b => Rows.fnBlockCommentEndMatchesNestedGrammarRow.lifted == b) (lifts_of words)).trans (by kernel_rfl)
theorem fnBlockCommentEndMatchesNestedGrammarMake : (Try.pinned.checked.prog.make == some Rows.fnBlockCommentEndMatchesNestedGrammarRow.make) = true :=
  (congrArg (fun b => b == some Rows.fnBlockCommentEndMatchesNestedGrammarRow.make) (make_of words)).trans (by kernel_rfl)

theorem fnBlockCommentEndMatchesNestedGrammarClosed : joinedFacts Try.pinned.checked.prog 7 Try.f7 Rows.fnBlockCommentEndMatchesNestedGrammarSpec Rows.fnBlockCommentEndMatchesNestedGrammarRow = true := by
  unfold joinedFacts
  repeat' (with_reducible refine and_true' ?_ ?_)
  all_goals first
    | (with_reducible exact mayEnter)
    | (with_reducible exact fnBlockCommentEndMatchesNestedGrammarLifts)
    | (with_reducible exact fnBlockCommentEndMatchesNestedGrammarMake)
    | (as_aux_lemma => kernel_rfl)

end Go.Proofs.Qxb6601428a
