/-
  THE ROWS' CLOSED FACTS ('joinedFacts'), PIECE BY PIECE: the dump's first line lists the roots' names; by one 'kernel_rfl' the kernel takes that long text apart more than once: several GB.
  Here: the line's signs are laid as a list; its first three words are split off by a law; what stands behind them is never looked at.
-/
import Derived.Test.Qxb6600701aRows
import Derived.ProofKit
namespace Go.Proofs.Qxb6600701a

/-- The signs of the head's first three words, and those behind. -/
def hdH : List Char := ['h', 'a', 'r', 'n', 'e', 's', 's']
def hdS : List Char := ['e', 'b', 'd', '6', '0', '9', '8', 'f', 'b', '1', '7', '1', '1', '7', 'f', '9', '8', '3', '2', 'b', '3', '5', '9', 'f', '3', 'c', '7', '0', '5', '1', 'e', '8', '9', 'a', '9', '4', '1', '7', '7', '8', 'f', 'b', 'c', '2', 'd', '0', '7', '7', 'a', '2', '7', '8', 'f', '3', 'c', 'c', '0', '9', '0', '1', '7', '3', '0', '4']
def hdC : List Char := ['c', 'u', 't']
def hdR : List Char := ['a', 't', ' ', 'e', 'x', 'a', 'm', 'p', 'l', 'e', '.', 'c', 'o', 'm', '/', 'h', 'i', 'n', 't', 'e', 'r', 'l', 'a', 'n', 'd', '/', 'h', 'i', 'n', 't', 'e', 'r', 'l', 'a', 'n', 'd', '/', 'z', 'z', 'l', 'a', 'w', 's', '_', 'c', 'a', 'u', 's', 'a', 'l', '_', 'b', '1', '.', 'F', 'n', 'M', 'e', 'r', 'g', 'e', 'E', 'x', 'a', 'c', 't', ' ', 'e', 'x', 'a', 'm', 'p', 'l', 'e', '.', 'c', 'o', 'm', '/', 'h', 'i', 'n', 't', 'e', 'r', 'l', 'a', 'n', 'd', '/', 'h', 'i', 'n', 't', 'e', 'r', 'l', 'a', 'n', 'd', '/', 'z', 'z', 'l', 'a', 'w', 's', '_', 'c', 'a', 'u', 's', 'a', 'l', '_', 'b', '1', '.', 'F', 'n', 'M', 'e', 'r', 'g', 'e', 'C', 'o', 'v', 'e', 'r', 's', 'U', 'n', 'i', 'o', 'n', ' ', 'e', 'x', 'a', 'm', 'p', 'l', 'e', '.', 'c', 'o', 'm', '/', 'h', 'i', 'n', 't', 'e', 'r', 'l', 'a', 'n', 'd', '/', 'h', 'i', 'n', 't', 'e', 'r', 'l', 'a', 'n', 'd', '/', 'z', 'z', 'l', 'a', 'w', 's', '_', 'c', 'a', 'u', 's', 'a', 'l', '_', 'b', '1', '.', 'F', 'n', 'M', 'e', 'r', 'g', 'e', 'S', 'e', 'm', 'i', 'l', 'a', 't', 't', 'i', 'c', 'e', ' ', 'e', 'x', 'a', 'm', 'p', 'l', 'e', '.', 'c', 'o', 'm', '/', 'h', 'i', 'n', 't', 'e', 'r', 'l', 'a', 'n', 'd', '/', 'h', 'i', 'n', 't', 'e', 'r', 'l', 'a', 'n', 'd', '/', 'z', 'z', 'l', 'a', 'w', 's', '_', 'c', 'a', 'u', 's', 'a', 'l', '_', 'b', '1', '.', 'F', 'n', 'C', 'o', 'u', 'n', 't', 'e', 'r', 'E', 'x', 'a', 'c', 't', 'S', 'o', 'r', 't', 'e', 'd', ' ', 'e', 'x', 'a', 'm', 'p', 'l', 'e', '.', 'c', 'o', 'm', '/', 'h', 'i', 'n', 't', 'e', 'r', 'l', 'a', 'n', 'd', '/', 'h', 'i', 'n', 't', 'e', 'r', 'l', 'a', 'n', 'd', '/', 'z', 'z', 'l', 'a', 'w', 's', '_', 'c', 'a', 'u', 's', 'a', 'l', '_', 'b', '1', '.', 'F', 'n', 'C', 'o', 'u', 'n', 't', 'e', 'r', 'C', 'o', 'n', 'c', 'a', 't']

theorem head_is : Try.pinned.checked.prog.initOrder = String.ofList (hdH ++ ' ' :: (hdS ++ ' ' :: (hdC ++ ' ' :: hdR))) := by kernel_rfl

theorem words_word : ∀ (l r : List Char), (∀ c ∈ l, c ≠ ' ') → wordsSigns (l ++ ' ' :: r) = l :: wordsSigns r
  | [], r, _ => rfl
  | c :: l, r, h => by
    have hc : c ≠ ' ' := h c (by simp)
    have ih := words_word l r (fun d hd => h d (by simp [hd]))
    rw [List.cons_append, wordsSigns, ih]
    exact hc

theorem behind (q : List (List Char)) : behindMainWord (hdH :: hdS :: hdC :: q) = hdC :: q := by kernel_rfl

theorem signs : Try.pinned.checked.prog.initOrder.toList = hdH ++ ' ' :: (hdS ++ ' ' :: (hdC ++ ' ' :: hdR)) := (congrArg String.toList head_is).trans String.toList_ofList

theorem cut3 (r : List Char) : wordsSigns (hdH ++ ' ' :: (hdS ++ ' ' :: (hdC ++ ' ' :: r))) = hdH :: hdS :: hdC :: wordsSigns r := by
  rw [words_word hdH _ (by decide +kernel), words_word hdS _ (by decide +kernel), words_word hdC _ (by decide +kernel)]

theorem words : behindMainWord (wordsSigns Try.pinned.checked.prog.initOrder.toList) = hdC :: wordsSigns hdR :=
  (congrArg (fun l => behindMainWord (wordsSigns l)) signs).trans ((congrArg behindMainWord (cut3 hdR)).trans (behind _))

/-! With the program a letter: so nothing of it is run. -/
theorem cut_is : hdC = "cut".toList := by kernel_rfl
theorem strip_is (q : List (List Char)) : stripLifts liftWords (hdC :: q) = ([], hdC :: q) := by kernel_rfl

theorem may_of {P : Program} {q : List (List Char)} (h : behindMainWord (wordsSigns P.initOrder.toList) = hdC :: q) (h1 : P.laysLater = false) (h2 : P.bearsReflect = false) (h3 : P.doorFits [] = true) : P.mayEnter = true := by
  have hs := strip_is q
  have hc : (some hdC == some "cut".toList) = true := by rw [cut_is]; simp
  unfold Program.mayEnter
  rw [h]
  dsimp only
  rw [hs]
  rw [show (([] : List String), hdC :: q).2.head? = some hdC from rfl, show (([] : List String), hdC :: q).1 = [] from rfl, hc, h1, h2, h3]
  simp

theorem lifts_of {P : Program} {q : List (List Char)} (h : behindMainWord (wordsSigns P.initOrder.toList) = hdC :: q) : P.liftsFinal = false := by
  unfold Program.liftsFinal Program.headLifts
  rw [h]
  clear h
  kernel_rfl

theorem make_of {P : Program} {q : List (List Char)} (h : behindMainWord (wordsSigns P.initOrder.toList) = hdC :: q) : P.make = some .cut := by
  unfold Program.make
  rw [h]
  clear h
  kernel_rfl

theorem lays : Try.pinned.checked.prog.laysLater = false := by kernel_rfl
theorem bears : Try.pinned.checked.prog.bearsReflect = false := by kernel_rfl
theorem door : Try.pinned.checked.prog.doorFits [] = true := by kernel_rfl

theorem mayEnter : Try.pinned.checked.prog.mayEnter = true := may_of words lays bears door

theorem and_true' {a b : Bool} (h : a = true) (k : b = true) : (a && b) = true := by rw [h, k]; rfl

end Go.Proofs.Qxb6600701a
