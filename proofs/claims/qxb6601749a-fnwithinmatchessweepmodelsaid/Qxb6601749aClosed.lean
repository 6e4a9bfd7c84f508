/-
  THE ROW's CLOSED FACTS ('joinedFacts'), PIECE BY PIECE. This seat's dump opens with the names of nine roots; by one 'kernel_rfl' the kernel takes that long text apart more than once and outgrows the lid on its memory.
  Here: the text's signs are laid as a list; its first three words are split off by a law; what stands behind them is never looked at.
-/
import Derived.Test.Qxb6601749aOpen
namespace Go.Proofs.Qxb6601749a

/-- The signs of the head's first three words, and those behind. -/
def hdH : List Char := ['h', 'a', 'r', 'n', 'e', 's', 's']
def hdS : List Char := ['8', '9', '8', 'd', 'c', '8', 'c', '0', '3', '7', 'e', '0', 'd', '6', '8', '4', 'e', 'e', 'a', '2', 'a', '1', '6', '3', '3', '0', '9', '0', 'b', 'c', 'c', '3', '6', 'a', 'a', 'd', '3', '6', '7', 'd', '0', '9', '8', '8', 'e', '8', '3', '8', '8', '8', '9', 'd', '0', 'f', 'c', 'e', '8', 'a', '1', 'b', 'd', 'b', '4', '1']
def hdC : List Char := ['c', 'u', 't']
def hdR : List Char := ['a', 't', ' ', 'e', 'x', 'a', 'm', 'p', 'l', 'e', '.', 'c', 'o', 'm', '/', 'm', 'u', 'r', 'm', 'u', 'r', 'a', 't', 'i', 'o', 'n', '/', 'm', 'u', 'r', 'm', 'u', 'r', 'a', 't', 'i', 'o', 'n', '/', 'z', 'z', 'l', 'a', 'w', 's', '_', 'i', 'n', 't', 'e', 'r', 'n', 'a', 'l', '_', 's', 't', 'r', 'e', 'a', 'm', '_', 'b', '1', '.', 'F', 'n', 'P', 'a', 'y', 'l', 'o', 'a', 'd', 'O', 'f', 'I', 'g', 'n', 'o', 'r', 'e', 's', 'B', 'i', 't', 's', 'O', 'u', 't', 's', 'i', 'd', 'e', 'I', 't', 's', 'H', 'e', 'a', 'd', 'e', 'r', 'F', 'i', 'e', 'l', 'd', 's', ' ', 'e', 'x', 'a', 'm', 'p', 'l', 'e', '.', 'c', 'o', 'm', '/', 'm', 'u', 'r', 'm', 'u', 'r', 'a', 't', 'i', 'o', 'n', '/', 'm', 'u', 'r', 'm', 'u', 'r', 'a', 't', 'i', 'o', 'n', '/', 'z', 'z', 'l', 'a', 'w', 's', '_', 'i', 'n', 't', 'e', 'r', 'n', 'a', 'l', '_', 's', 't', 'r', 'e', 'a', 'm', '_', 'b', '1', '.', 'F', 'n', 'P', 'a', 'y', 'l', 'o', 'a', 'd', 'O', 'f', 'A', 'd', 'a', 'p', 't', 'a', 't', 'i', 'o', 'n', 'F', 'i', 'e', 'l', 'd', 'C', 'o', 's', 't', 's', 'I', 't', 's', 'L', 'e', 'n', 'g', 't', 'h', ' ', 'e', 'x', 'a', 'm', 'p', 'l', 'e', '.', 'c', 'o', 'm', '/', 'm', 'u', 'r', 'm', 'u', 'r', 'a', 't', 'i', 'o', 'n', '/', 'm', 'u', 'r', 'm', 'u', 'r', 'a', 't', 'i', 'o', 'n', '/', 'z', 'z', 'l', 'a', 'w', 's', '_', 'i', 'n', 't', 'e', 'r', 'n', 'a', 'l', '_', 's', 't', 'r', 'e', 'a', 'm', '_', 'b', '1', '.', 'F', 'n', 'S', 'e', 'c', 't', 'i', 'o', 'n', 'A', 't', 'M', 'a', 't', 'c', 'h', 'e', 's', 'T', 'a', 'b', 'l', 'e', 'M', 'o', 'd', 'e', 'l', ' ', 'e', 'x', 'a', 'm', 'p', 'l', 'e', '.', 'c', 'o', 'm', '/', 'm', 'u', 'r', 'm', 'u', 'r', 'a', 't', 'i', 'o', 'n', '/', 'm', 'u', 'r', 'm', 'u', 'r', 'a', 't', 'i', 'o', 'n', '/', 'z', 'z', 'l', 'a', 'w', 's', '_', 'i', 'n', 't', 'e', 'r', 'n', 'a', 'l', '_', 's', 't', 'r', 'e', 'a', 'm', '_', 'b', '1', '.', 'F', 'n', 'S', 'e', 'c', 't', 'i', 'o', 'n', 'A', 't', 'F', 'o', 'u', 'n', 'd', 'S', 'e', 'c', 't', 'i', 'o', 'n', 'I', 's', 'W', 'e', 'l', 'l', 'F', 'o', 'r', 'm', 'e', 'd', ' ', 'e', 'x', 'a', 'm', 'p', 'l', 'e', '.', 'c', 'o', 'm', '/', 'm', 'u', 'r', 'm', 'u', 'r', 'a', 't', 'i', 'o', 'n', '/', 'm', 'u', 'r', 'm', 'u', 'r', 'a', 't', 'i', 'o', 'n', '/', 'z', 'z', 'l', 'a', 'w', 's', '_', 'i', 'n', 't', 'e', 'r', 'n', 'a', 'l', '_', 's', 't', 'r', 'e', 'a', 'm', '_', 'b', '1', '.', 'F', 'n', 'S', 'e', 'c', 't', 'i', 'o', 'n', 'A', 't', 'K', 'e', 'e', 'p', 's', 'S', 'e', 'c', 't', 'i', 'o', 'n', 'W', 'h', 'e', 'n', 'M', 'o', 'r', 'e', 'F', 'o', 'l', 'l', 'o', 'w', 's', ' ', 'e', 'x', 'a', 'm', 'p', 'l', 'e', '.', 'c', 'o', 'm', '/', 'm', 'u', 'r', 'm', 'u', 'r', 'a', 't', 'i', 'o', 'n', '/', 'm', 'u', 'r', 'm', 'u', 'r', 'a', 't', 'i', 'o', 'n', '/', 'z', 'z', 'l', 'a', 'w', 's', '_', 'i', 'n', 't', 'e', 'r', 'n', 'a', 'l', '_', 's', 't', 'r', 'e', 'a', 'm', '_', 'b', '1', '.', 'F', 'n', 'W', 'i', 't', 'h', 'i', 'n', 'M', 'a', 't', 'c', 'h', 'e', 's', 'S', 'w', 'e', 'e', 'p', 'M', 'o', 'd', 'e', 'l', ' ', 'e', 'x', 'a', 'm', 'p', 'l', 'e', '.', 'c', 'o', 'm', '/', 'm', 'u', 'r', 'm', 'u', 'r', 'a', 't', 'i', 'o', 'n', '/', 'm', 'u', 'r', 'm', 'u', 'r', 'a', 't', 'i', 'o', 'n', '/', 'z', 'z', 'l', 'a', 'w', 's', '_', 'i', 'n', 't', 'e', 'r', 'n', 'a', 'l', '_', 's', 't', 'r', 'e', 'a', 'm', '_', 'b', '1', '.', 'F', 'n', 'W', 'i', 't', 'h', 'i', 'n', 'A', 'g', 'r', 'e', 'e', 's', 'A', 'c', 'r', 'o', 's', 's', 'B', 'i', 't', 'm', 'a', 'p', 'A', 'n', 'd', 'R', 'u', 'n', 's', ' ', 'e', 'x', 'a', 'm', 'p', 'l', 'e', '.', 'c', 'o', 'm', '/', 'm', 'u', 'r', 'm', 'u', 'r', 'a', 't', 'i', 'o', 'n', '/', 'm', 'u', 'r', 'm', 'u', 'r', 'a', 't', 'i', 'o', 'n', '/', 'z', 'z', 'l', 'a', 'w', 's', '_', 'i', 'n', 't', 'e', 'r', 'n', 'a', 'l', '_', 's', 't', 'r', 'e', 'a', 'm', '_', 'b', '1', '.', 'F', 'n', 'W', 'i', 't', 'h', 'i', 'n', 'S', 'p', 'l', 'i', 't', 's', 'A', 't', 'A', 'n', 'y', 'M', 'i', 'd', 'p', 'o', 'i', 'n', 't', ' ', 'e', 'x', 'a', 'm', 'p', 'l', 'e', '.', 'c', 'o', 'm', '/', 'm', 'u', 'r', 'm', 'u', 'r', 'a', 't', 'i', 'o', 'n', '/', 'm', 'u', 'r', 'm', 'u', 'r', 'a', 't', 'i', 'o', 'n', '/', 'z', 'z', 'l', 'a', 'w', 's', '_', 'i', 'n', 't', 'e', 'r', 'n', 'a', 'l', '_', 's', 't', 'r', 'e', 'a', 'm', '_', 'b', '1', '.', 'F', 'n', 'P', 'a', 'y', 'l', 'o', 'a', 'd', 'O', 'f', 'I', 's', 'A', 'S', 'u', 'f', 'f', 'i', 'x', 'O', 'f', 'O', 'n', 'e', 'P', 'i', 'd', 's', 'P', 'a', 'c', 'k', 'e', 't']

theorem head_is : Try.pinned.checked.prog.initOrder = String.ofList (hdH ++ ' ' :: (hdS ++ ' ' :: (hdC ++ ' ' :: hdR))) := by kernel_rfl

theorem words_word : ∀ (l r : List Char), (∀ c ∈ l, c ≠ ' ') → wordsSigns (l ++ ' ' :: r) = l :: wordsSigns r
  | [], r, _ => rfl
  | c :: l, r, h => by
    have hc : c ≠ ' ' := h c (by simp)
    have ih := words_word l r (fun d hd => h d (by simp [hd]))
    rw [List.cons_append, wordsSigns, ih]
    exact hc

theorem behind (q : List (List Char)) : behindMainWord (hdH :: hdS :: hdC :: q) = hdC :: q := by kernel_rfl

theorem signs : Try.pinned.checked.prog.initOrder.toList = hdH ++ ' ' :: (hdS ++ ' ' :: (hdC ++ ' ' :: hdR)) := (congrArg String.toList head_is).trans String.toList_ofList

theorem cut3 (r : List Char) : wordsSigns (hdH ++ ' ' :: (hdS ++ ' ' :: (hdC ++ ' ' :: r))) = hdH :: hdS :: hdC :: wordsSigns r := by
  rw [words_word hdH _ (by decide +kernel), words_word hdS _ (by decide +kernel), words_word hdC _ (by decide +kernel)]

theorem words : behindMainWord (wordsSigns Try.pinned.checked.prog.initOrder.toList) = hdC :: wordsSigns hdR :=
  (congrArg (fun l => behindMainWord (wordsSigns l)) signs).trans ((congrArg behindMainWord (cut3 hdR)).trans (behind _))

/-! With the program a letter: so nothing of it is run. -/
theorem cut_is : hdC = "cut".toList := by kernel_rfl
theorem strip_is (q : List (List Char)) : stripLifts liftWords (hdC :: q) = ([], hdC :: q) := by kernel_rfl

theorem may_of {P : Program} {q : List (List Char)} (h : behindMainWord (wordsSigns P.initOrder.toList) = hdC :: q) (h1 : P.laysLater = false) (h2 : P.bearsReflect = false) (h3 : P.doorFits [] = true) : P.mayEnter = true := by
  have hs := strip_is q
  have hc : (some hdC == some "cut".toList) = true := by rw [cut_is]; simp
  unfold Program.mayEnter
  rw [h]
  dsimp only
  rw [hs]
  rw [show (([] : List String), hdC :: q).2.head? = some hdC from rfl, show (([] : List String), hdC :: q).1 = [] from rfl, hc, h1, h2, h3]
  simp

theorem lifts_of {P : Program} {q : List (List Char)} (h : behindMainWord (wordsSigns P.initOrder.toList) = hdC :: q) : P.liftsFinal = false := by
  unfold Program.liftsFinal Program.headLifts
  rw [h]
  clear h
  kernel_rfl

theorem make_of {P : Program} {q : List (List Char)} (h : behindMainWord (wordsSigns P.initOrder.toList) = hdC :: q) : P.make = some .cut := by
  unfold Program.make
  rw [h]
  clear h
  kernel_rfl

theorem lays : Try.pinned.checked.prog.laysLater = false := by kernel_rfl
theorem bears : Try.pinned.checked.prog.bearsReflect = false := by kernel_rfl
theorem door : Try.pinned.checked.prog.doorFits [] = true := by kernel_rfl

theorem mayEnter : Try.pinned.checked.prog.mayEnter = true := may_of words lays bears door
theorem liftsFinal : (Rows.fnWithinMatchesSweepModelRow.lifted == Try.pinned.checked.prog.liftsFinal) = true :=
  (congrArg (fun b => Rows.fnWithinMatchesSweepModelRow.lifted == b) (lifts_of words)).trans (by kernel_rfl)
theorem make : (Try.pinned.checked.prog.make == some Rows.fnWithinMatchesSweepModelRow.make) = true :=
  (congrArg (fun b => b == some Rows.fnWithinMatchesSweepModelRow.make) (make_of words)).trans (by kernel_rfl)

theorem and_true' {a b : Bool} (h : a = true) (k : b = true) : (a && b) = true := by rw [h, k]; rfl

theorem closed : joinedFacts Try.pinned.checked.prog 8 Try.f8 Rows.fnWithinMatchesSweepModelSpec Rows.fnWithinMatchesSweepModelRow = true := by
  unfold joinedFacts
  repeat' (with_reducible refine and_true' ?_ ?_)
  all_goals first
    | (with_reducible exact mayEnter)
    | (with_reducible exact liftsFinal)
    | (with_reducible exact make)
    | (as_aux_lemma => kernel_rfl)

end Go.Proofs.Qxb6601749a
