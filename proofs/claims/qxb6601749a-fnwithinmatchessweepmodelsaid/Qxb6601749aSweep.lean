/-
  The law's own model, the sweep over the runs: no Go in sight. And the law at inputs that it passes over.
-/
import Derived.Test.Qxb6601749aBitmap
namespace Go.Proofs.Qxb6601749a
open Go.RowKit

theorem Formed.rise {rs : List (List Int)} {n : Nat} (h : Formed rs n) (i : Nat) : ∀ d, i + d < n → r0 rs i ≤ r0 rs (i + d) := by
  intro d
  induction d with
  | zero => intro _; exact Int.le_refl _
  | succ d ih => intro hd; exact Int.le_trans (ih (by omega)) (h.2 (i + d) hd)

/-- The sweep's state at segment j: i runs are behind it, ev is the largest last segment among them. -/
def Swept (rs : List (List Int)) (j i : Nat) (hv : Bool) (ev : Int) : Prop :=
  (hv = true ↔ 0 < i) ∧ (0 < i → (∃ k, k < i ∧ r1 rs k = ev) ∧ ∀ k, k < i → r1 rs k ≤ ev) ∧ ∀ k, k < i → r0 rs k ≤ (j : Int)

theorem Swept.zero (rs : List (List Int)) (j : Nat) (ev : Int) : Swept rs j 0 false ev := ⟨by simp, fun h => by omega, fun k h => by omega⟩
theorem Swept.later {rs : List (List Int)} {j i : Nat} {hv : Bool} {ev : Int} (h : Swept rs j i hv ev) : Swept rs (j + 1) i hv ev :=
  ⟨h.1, h.2.1, fun k hk => by have := h.2.2 k hk; omega⟩
theorem Swept.take {rs : List (List Int)} {j i : Nat} {hv : Bool} {ev x y : Int} (h : Swept rs j i hv ev) (hx : r0 rs i = x) (hy : r1 rs i = y) (hj : x ≤ (j : Int)) (hup : hv = false ∨ ev < y) : Swept rs j (i + 1) true y := by
  refine ⟨by simp, fun _ => ⟨⟨i, by omega, hy⟩, fun k hk => ?_⟩, fun k hk => ?_⟩
  · by_cases e : k = i
    · subst e; omega
    · have hi : 0 < i := by omega
      rcases hup with hf | hlt
      · rw [h.1.2 hi] at hf; cases hf
      · have := (h.2.1 hi).2 k (by omega); omega
  · by_cases e : k = i
    · subst e; omega
    · exact h.2.2 k (by omega)
theorem Swept.pass {rs : List (List Int)} {j i : Nat} {ev x y : Int} (h : Swept rs j i true ev) (hx : r0 rs i = x) (hy : r1 rs i = y) (hj : x ≤ (j : Int)) (hle : y ≤ ev) : Swept rs j (i + 1) true ev := by
  have hi : 0 < i := h.1.1 rfl
  obtain ⟨⟨t, ht, he⟩, hall⟩ := h.2.1 hi
  refine ⟨by simp, fun _ => ⟨⟨t, by omega, he⟩, fun k hk => ?_⟩, fun k hk => ?_⟩
  · by_cases e : k = i
    · subst e; omega
    · exact hall k (by omega)
  · by_cases e : k = i
    · subst e; omega
    · exact h.2.2 k (by omega)

theorem anyHit_iff (rs : List (List Int)) (f nx : Int) (k j : Nat) : anyHit rs f nx k j = true ↔ ∃ t, t < k ∧ r0 rs t ≤ (j : Int) ∧ f ≤ (j : Int) ∧ (j : Int) ≤ r1 rs t ∧ (j : Int) ≤ nx - 1 := by
  unfold anyHit hitB
  simp only [List.any_eq_true, List.mem_range, decide_eq_true_eq]
  constructor
  · rintro ⟨t, ht, h1, h2⟩; exact ⟨t, ht, by omega, by omega, by omega, by omega⟩
  · rintro ⟨t, ht, h1, h2, h3, h4⟩; exact ⟨t, ht, by omega, by omega⟩

theorem anyHit_out {rs : List (List Int)} {f nx : Int} {k j : Nat} (h : ¬ (f ≤ (j : Int) ∧ (j : Int) < nx)) : anyHit rs f nx k j = false := by
  rw [Bool.eq_false_iff]
  intro ht
  obtain ⟨t, _, _, h2, _, h4⟩ := (anyHit_iff _ _ _ _ _).1 ht
  omega

/-- Where the sweep stands still it says what the list of runs says. -/
theorem sweep_in {rs : List (List Int)} {f nx ev : Int} {n k j i : Nat} {hv : Bool} (hfm : Formed rs n) (hk : k ≤ n) (hkn : k < n → nx ≤ r0 rs k) (hf : f ≤ (j : Int)) (hnx : (j : Int) < nx) (hs : Swept rs j i hv ev) (hi : i ≤ n)
    (hend : i < n → (j : Int) < r0 rs i) : anyHit rs f nx k j = (hv && decide ((j : Int) ≤ ev)) := by
  rw [Bool.eq_iff_iff, anyHit_iff]
  simp only [Bool.and_eq_true, decide_eq_true_eq]
  constructor
  · rintro ⟨t, ht, h1, _, h3, _⟩
    have hti : t < i := by
      rcases Nat.lt_or_ge t i with h | h
      · exact h
      · have := hend (by omega)
        have := hfm.rise i (t - i) (by omega)
        rw [show i + (t - i) = t by omega] at this
        omega
    have h0 : 0 < i := by omega
    have := (hs.2.1 h0).2 t hti
    exact ⟨hs.1.2 h0, by omega⟩
  · rintro ⟨h1, h2⟩
    have h0 := hs.1.1 h1
    obtain ⟨⟨t, ht, he⟩, _⟩ := hs.2.1 h0
    have h3 := hs.2.2 t ht
    have htk : t < k := by
      rcases Nat.lt_or_ge t k with h | h
      · exact h
      · have := hkn (by omega)
        have := hfm.rise k (t - k) (by omega)
        rw [show k + (t - k) = t by omega] at this
        omega
    exact ⟨t, htk, h3, hf, by omega, by omega⟩

set_option maxHeartbeats 400000 in
set_option maxRecDepth 100000 in
theorem law_long (a0 : Option Addr) (n0 c0 : Nat) (a1 : Option Addr) (n1 c1 : Nat) (rs : List (List Int)) (f l : Int) (w : World) (h1 : Runs w a1 n1 rs) (hbig : 1048576 < n0 ∨ (n0 ≤ 1048576 ∧ 65536 < n1)) :
    Calls Try.prog 8 #[.slice a0 n0 c0, .slice a1 n1 c1, .int .i64 f, .int .i64 l] w fun e w' => e = .returned (.bool true) ∧ Below w.heap.size w w' := by
  rcases hbig with hb | ⟨hb, hb'⟩
  all_goals
    go_enter Try.func8, Try.ntmps8
    go_wp2_with (go_at_call 23; refine (zz23_any _ _ _ _ _ _ rs _ _ _ h1).mono ?_; rintro e w' ⟨⟨r, rfl⟩, rfl⟩)
    all_goals
      go_ret
      exact ⟨rfl, Below.refl _ _⟩

end Go.Proofs.Qxb6601749a
