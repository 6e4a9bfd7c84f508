/-
  THE PLAIN LAWS of nested comments: a scanner with a depth, a grammar by recursion. No Go in sight.
-/
import Derived.WideShapes
import Derived.Laws.Strings
import Derived.Lib.Strings
namespace Go.Proofs.Qxb6601428a

/-- The bytes a, b stand at i and i + 1. -/
def two (s : ByteArray) (i : Nat) (a b : UInt8) : Bool := s.data.toList[i]? == some a && s.data.toList[i + 1]? == some b

theorem two_lt {s : ByteArray} {i : Nat} {a b : UInt8} (h : two s i a b = true) : i + 2 ≤ s.size := by
  simp only [two, Bool.and_eq_true, beq_iff_eq] at h
  have := (List.getElem?_eq_some_iff.1 h.2).1
  simp at this
  omega

/-- The scanner: some r where the depth comes back to 0 at r, none where the text ends first. -/
def cls (s : ByteArray) : Nat → Nat → Int → Option Nat
  | 0, _, _ => none
  | f + 1, i, d =>
    if i < s.size then
      if two s i 47 42 = true then cls s f (i + 2) (d + 1)
      else if two s i 42 47 = true then (if d - 1 = 0 then some (i + 2) else cls s f (i + 2) (d - 1))
      else cls s f (i + 1) d
    else none

theorem cls_past {s : ByteArray} {f i : Nat} {d : Int} (h : s.size ≤ i) : cls s f i d = none := by
  cases f with
  | zero => rfl
  | succ f => rw [cls, if_neg (by omega)]

/-- Enough fuel is enough. -/
theorem cls_fuel {s : ByteArray} : ∀ {f g i : Nat} {d : Int}, s.size ≤ i + f → s.size ≤ i + g → cls s f i d = cls s g i d := by
  intro f
  induction f with
  | zero => intro g i d h _; rw [cls_past (by omega), cls_past (by omega)]
  | succ f ih =>
    intro g i d h hg
    by_cases hi : s.size ≤ i
    · rw [cls_past hi, cls_past hi]
    · cases g with
      | zero => omega
      | succ g =>
        rw [cls, cls, ih (g := g) (by omega) (by omega), ih (g := g) (i := i + 2) (d := d - 1) (by omega) (by omega), ih (g := g) (i := i + 1) (by omega) (by omega)]

/-- Where it closes. -/
theorem cls_some {s : ByteArray} : ∀ {f i : Nat} {d : Int} {r : Nat}, cls s f i d = some r → i + 2 ≤ r ∧ r ≤ s.size ∧ two s (r - 2) 42 47 = true := by
  intro f
  induction f with
  | zero => intro i d r h; simp [cls] at h
  | succ f ih =>
    intro i d r h
    rw [cls] at h
    by_cases hi : i < s.size
    · rw [if_pos hi] at h
      by_cases ho : two s i 47 42 = true
      · rw [if_pos ho] at h
        have := ih h
        exact ⟨by omega, this.2.1, this.2.2⟩
      · rw [if_neg ho] at h
        by_cases hc : two s i 42 47 = true
        · rw [if_pos hc] at h
          by_cases hd : d - 1 = 0
          · rw [if_pos hd] at h
            obtain rfl := Option.some.inj h
            exact ⟨by omega, two_lt hc, by simpa using hc⟩
          · rw [if_neg hd] at h
            have := ih h
            exact ⟨by omega, this.2.1, this.2.2⟩
        · rw [if_neg hc] at h
          have := ih h
          exact ⟨by omega, this.2.1, this.2.2⟩
    · rw [if_neg hi] at h; cases h

/-- Two texts with the same first r bytes. -/
def Same (s t : ByteArray) (r : Nat) : Prop := r ≤ s.size ∧ r ≤ t.size ∧ ∀ k, k < r → s.data.toList[k]? = t.data.toList[k]?

theorem Same.two {s t : ByteArray} {r i : Nat} {a b : UInt8} (h : Same s t r) (hi : i + 2 ≤ r) : two s i a b = two t i a b := by
  unfold Qxb6601428a.two
  rw [h.2.2 i (by omega), h.2.2 (i + 1) (by omega)]

/-- What closes at r hangs on the first r bytes alone. -/
theorem cls_same {s t : ByteArray} : ∀ {f i : Nat} {d : Int} {r : Nat}, Same s t r → cls s f i d = some r → cls t f i d = some r := by
  intro f
  induction f with
  | zero => intro i d r _ h; simp [cls] at h
  | succ f ih =>
    intro i d r hs h
    have hb := cls_some h
    rw [cls] at h ⊢
    have hi : i < s.size := by omega
    have hit : i < t.size := by have := hs.2.1; omega
    rw [if_pos hi] at h
    rw [if_pos hit, ← hs.two (i := i) (a := 47) (b := 42) (by omega), ← hs.two (i := i) (a := 42) (b := 47) (by omega)]
    by_cases ho : two s i 47 42 = true
    · rw [if_pos ho] at h ⊢; exact ih hs h
    · rw [if_neg ho] at h ⊢
      by_cases hc : two s i 42 47 = true
      · rw [if_pos hc] at h ⊢
        by_cases hd : d - 1 = 0
        · rw [if_pos hd] at h ⊢; exact h
        · rw [if_neg hd] at h ⊢; exact ih hs h
      · rw [if_neg hc] at h ⊢; exact ih hs h

/-- blockCommentEnd's answer. -/
def bce (s : ByteArray) (i : Nat) : Nat := (cls s s.size i 0).getD s.size

theorem bce_le (s : ByteArray) (i : Nat) : bce s i ≤ s.size := by
  unfold bce
  cases h : cls s s.size i 0 with
  | none => simp
  | some r => simpa using (cls_some h).2.1

theorem bce_lt {s : ByteArray} {i : Nat} (h : i < s.size) : i < bce s i := by
  unfold bce
  cases h' : cls s s.size i 0 with
  | none => simpa using h
  | some r => have := (cls_some h').1; simp; omega

theorem bce_some {s : ByteArray} {i : Nat} (h : bce s i < s.size) : cls s s.size i 0 = some (bce s i) := by
  unfold bce at h ⊢
  cases h' : cls s s.size i 0 with
  | none => rw [h'] at h; simp at h
  | some r => rfl

theorem bce_of {t : ByteArray} {f i r : Nat} (h : cls t f i 0 = some r) (hf : t.size ≤ i + f) : bce t i = r := by
  unfold bce
  rw [cls_fuel (f := t.size) (g := f) (by omega) hf, h]; rfl

theorem bce_close {s : ByteArray} {i : Nat} (h : bce s i < s.size) : i + 2 ≤ bce s i ∧ two s (bce s i - 2) 42 47 = true :=
  ⟨(cls_some (bce_some h)).1, (cls_some (bce_some h)).2.2⟩

theorem extract_all (s : ByteArray) : s.extract 0 s.size = s := by
  apply WideShapes.bytes_inj
  simp

theorem same_extract {s : ByteArray} {r : Nat} (h : r ≤ s.size) : Same s (s.extract 0 r) r := by
  refine ⟨h, by simp; omega, fun k hk => ?_⟩
  simp [List.getElem?_take]
  omega

theorem bce_cut (s : ByteArray) (i : Nat) : bce (s.extract 0 (bce s i)) i = bce s i := by
  by_cases h : bce s i < s.size
  · exact bce_of (cls_same (same_extract (by omega)) (bce_some h)) (by simp; omega)
  · have e : bce s i = s.size := by have := bce_le s i; omega
    rw [e, extract_all]; exact e

theorem same_append (s t : ByteArray) : Same s (s ++ t) s.size := by
  refine ⟨Nat.le_refl _, by simp, fun k hk => ?_⟩
  simp [List.getElem?_append, hk]

theorem Same.mono {s t : ByteArray} {r q : Nat} (h : Same s t r) (hq : q ≤ r) : Same s t q := ⟨by have := h.1; omega, by have := h.2.1; omega, fun k hk => h.2.2 k (by omega)⟩

theorem bce_more {s t : ByteArray} {i : Nat} (h : bce s i < s.size) : bce (s ++ t) i = bce s i :=
  bce_of (f := (s ++ t).size + s.size) (by rw [cls_fuel (g := (s ++ t).size + s.size) (by omega) (by omega)]; exact (by
    have e := bce_some h
    rw [cls_fuel (g := (s ++ t).size + s.size) (by omega) (by omega)] at e
    exact cls_same ((same_append s t).mono (by omega)) e)) (by omega)

end Go.Proofs.Qxb6601428a
