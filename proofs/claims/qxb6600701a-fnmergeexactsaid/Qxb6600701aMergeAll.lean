/-
  causal.Merge at every pair of vectors, nil or not.
-/
import Derived.Test.Qxb6600701aMerge
namespace Go.Proofs.Qxb6600701a
open Go.RowKit

set_option maxHeartbeats 1000000 in
set_option maxRecDepth 100000 in
theorem merge_none_some (g n c : Nat) (es : List D) (w : World) (hm : n ≤ 1048576) (h : Vec w (some ⟨g, 0, none⟩) n c es) :
    Calls Try.prog 12 #[.slice none 0 0, .slice (some ⟨g, 0, none⟩) n c] w fun e w' => ∃ m cap, e = .returned (.slice (some ⟨w.heap.size, 0, none⟩) m cap) ∧ Vec w' (some ⟨w.heap.size, 0, none⟩) m cap es ∧ Below w.heap.size w w' := by
  obtain ⟨i0, hi, hz0, hz1, hz2⟩ := info_parts Try.info35
  have HL : Hid (es.length = n) := h.dots.1
  have hrC := h.room
  have hcC := h.big
  go_enter Try.func12, Try.ntmps12
  go_wp2_with (at_make; refine wpList_make_own _ rfl _ _ 27 rfl w.heap.size 35 i0 _ 2 Try.underlying27 hi hz0 hz1 _ _ _ n rfl rfl (by omega) ?b2 ?b3 (Nat.le_refl _) ?_)
  case b2 => rw [hz2]; omega
  case b3 => unfold maxLen; omega
  intro w0 hown0 hgrow0
  have hb0 : Below w.heap.size w w0 := (Below.refl _ _).grown hgrow0 (Nat.le_refl _) (fun k h => by cases h)
  go_wp2_with fail
  refine wp_loop_rounds 1 ?_
  rw [rounds_succ]
  go_wp2_with (at_builtin; refine wpList_append_fits_any _ rfl (.tmp 95) (.tmp 98) 27 rfl w.heap.size 35 i0 2 Try.underlying27 hi hz1 w.heap.size 0 n _ rfl hown0 _ n _ (cellsOf es) rfl (by rw [cellsOf_length, HL.out]) (by intro h; cases h) (h.below hb0).dots.cells (cellsOf_one _) (by omega) ?_; intro w2 hown2 hgrow2)
  all_goals
    go_ret
    simp only [Nat.zero_add, List.nil_append] at hown2
    exact ⟨_, _, rfl, vec_of_owns HL.out hown2, below_own hb0 hgrow2⟩

set_option maxHeartbeats 1000000 in
set_option maxRecDepth 100000 in
theorem merge_some_none (g n c : Nat) (es : List D) (w : World) (hm : n ≤ 1048576) (h : Vec w (some ⟨g, 0, none⟩) n c es) :
    Calls Try.prog 12 #[.slice (some ⟨g, 0, none⟩) n c, .slice none 0 0] w fun e w' => ∃ m cap, e = .returned (.slice (some ⟨w.heap.size, 0, none⟩) m cap) ∧ Vec w' (some ⟨w.heap.size, 0, none⟩) m cap es ∧ Below w.heap.size w w' := by
  obtain ⟨i0, hi, hz0, hz1, hz2⟩ := info_parts Try.info35
  have HL : Hid (es.length = n) := h.dots.1
  have hrC := h.room
  have hcC := h.big
  go_enter Try.func12, Try.ntmps12
  go_wp2_with (at_make; refine wpList_make_own _ rfl _ _ 27 rfl w.heap.size 35 i0 _ 2 Try.underlying27 hi hz0 hz1 _ _ _ n rfl rfl (by omega) ?b2 ?b3 (Nat.le_refl _) ?_)
  case b2 => rw [hz2]; omega
  case b3 => unfold maxLen; omega
  intro w0 hown0 hgrow0
  have hb0 : Below w.heap.size w w0 := (Below.refl _ _).grown hgrow0 (Nat.le_refl _) (fun k h => by cases h)
  go_wp2_with fail
  refine wp_loop_rounds 1 ?_
  rw [rounds_succ]
  go_wp2_with (at_builtin; refine wpList_append_fits_any _ rfl (.tmp 90) (.tmp 93) 27 rfl w.heap.size 35 i0 2 Try.underlying27 hi hz1 w.heap.size 0 n _ rfl hown0 _ n _ (cellsOf es) rfl (by rw [cellsOf_length, HL.out]) (by intro h; cases h) (h.below hb0).dots.cells (cellsOf_one _) (by omega) ?_; intro w2 hown2 hgrow2)
  all_goals
    go_ret
    simp only [Nat.zero_add, List.nil_append] at hown2
    exact ⟨_, _, rfl, vec_of_owns HL.out hown2, below_own hb0 hgrow2⟩

set_option maxHeartbeats 1000000 in
set_option maxRecDepth 100000 in
theorem merge_none_none  (w : World)  :
    Calls Try.prog 12 #[.slice none 0 0, .slice none 0 0] w fun e w' => ∃ m cap, e = .returned (.slice (some ⟨w.heap.size, 0, none⟩) m cap) ∧ Vec w' (some ⟨w.heap.size, 0, none⟩) m cap [] ∧ Below w.heap.size w w' := by
  obtain ⟨i0, hi, hz0, hz1, hz2⟩ := info_parts Try.info35
  go_enter Try.func12, Try.ntmps12
  go_wp2_with (at_make; refine wpList_make_own _ rfl _ _ 27 rfl w.heap.size 35 i0 _ 2 Try.underlying27 hi hz0 hz1 _ _ _ 0 rfl rfl (by omega) ?b2 ?b3 (Nat.le_refl _) ?_)
  case b2 => rw [hz2]; omega
  case b3 => unfold maxLen; omega
  intro w0 hown0 hgrow0
  have hb0 : Below w.heap.size w w0 := (Below.refl _ _).grown hgrow0 (Nat.le_refl _) (fun k h => by cases h)
  go_wp2_with fail
  refine wp_loop_rounds 1 ?_
  rw [rounds_succ]
  go_wp2_with fail
  go_ret
  exact ⟨_, _, rfl, vec_of_owns rfl hown0, hb0⟩

/-- causal.Merge. -/
theorem merge_any (a : Option Addr) (n c : Nat) (ds : List D) (a' : Option Addr) (n' c' : Nat) (es : List D) (w : World) (hm : n ≤ 1048576) (hm' : n' ≤ 1048576) (h : Vec w a n c ds) (h' : Vec w a' n' c' es) :
    Calls Try.prog 12 #[.slice a n c, .slice a' n' c'] w fun e w' => ∃ m cap, e = .returned (.slice (some ⟨w.heap.size, 0, none⟩) m cap) ∧ Vec w' (some ⟨w.heap.size, 0, none⟩) m cap (mrg ds es) ∧ Below w.heap.size w w' := by
  have nil : ∀ {a : Option Addr} {n c : Nat} {ds : List D}, Vec w a n c ds → a = none → n = 0 ∧ c = 0 ∧ ds = [] := by
    intro a n c ds h e
    have h1 := h.nil e
    have h2 := h.room
    have h3 : n = 0 := by omega
    exact ⟨h3, h1, List.eq_nil_of_length_eq_zero (by have := h.dots.1; omega)⟩
  rcases h.addr with rfl | ⟨g, rfl⟩
  · obtain ⟨rfl, rfl, rfl⟩ := nil h rfl
    rcases h'.addr with rfl | ⟨g', rfl⟩
    · obtain ⟨rfl, rfl, rfl⟩ := nil h' rfl
      exact merge_none_none w
    · exact merge_none_some g' n' c' es w hm' h'
  · rcases h'.addr with rfl | ⟨g', rfl⟩
    · obtain ⟨rfl, rfl, rfl⟩ := nil h' rfl
      rw [mrg_nil_right]
      exact merge_some_none g n c ds w hm h
    · exact merge_some g n c ds g' n' c' es w hm hm' h h'

end Go.Proofs.Qxb6600701a
