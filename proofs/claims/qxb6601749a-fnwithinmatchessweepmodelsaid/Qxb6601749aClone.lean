/-
  cloneBytesB1, cloneIntsB1: a fresh copy; nil stays nil.
-/
import Derived.Test.Qxb6601749aForm
namespace Go.Proofs.Qxb6601749a
open Go.RowKit

theorem Try.info5 : (Try.prog.info? 5).map (fun i => (i.zero, i.size, i.bytes)) = some (some (.int .u8 0), 1, 1) := by kernel_rfl
theorem Try.info3 : (Try.prog.info? 3).map (fun i => (i.zero, i.size, i.bytes)) = some (some (.int .i64 0), 1, 8) := by kernel_rfl

theorem ints_of_owns {k : IntKind} {w : World} {base e g n cap : Nat} {zs : List Int} (hl : zs.length = n) (h : w.ownsRow base e 1 (.slice (some ⟨g, 0, none⟩) n cap) n (zs.map (Value.int k))) : Ints k w (some ⟨g, 0, none⟩) n zs := by
  refine ⟨hl, Or.inr ⟨g, 0, rfl, fun i hi => ?_⟩⟩
  rw [Nat.zero_add, h.cellAt i (by omega), List.getElem?_map, List.getElem?_eq_getElem (by omega)]
  rfl

/-- Where a copy lies: nil as the old one, or a new block. -/
def Copied (w : World) (a a' : Option Addr) (c' : Nat) : Prop := (a = none ∧ a' = none ∧ c' = 0) ∨ (a ≠ none ∧ a' = some ⟨w.heap.size, 0, none⟩)

/-- The first j numbers have been copied. -/
def Laid (ys zs : List Int) (j : Nat) : Prop := ys.length = zs.length ∧ ∀ i, i < j → ys[i]? = zs[i]?
theorem Laid.step {ys zs : List Int} {j : Nat} (h : Laid ys zs j) (hj : j < zs.length) : Laid (ys.set j (zs[j]?.getD 0)) zs (j + 1) := by
  refine ⟨by rw [List.length_set]; exact h.1, fun i hi => ?_⟩
  by_cases e : i = j
  · subst e
    rw [List.getElem?_set_self (by rw [h.1]; exact hj), List.getElem?_eq_getElem hj]; rfl
  · rw [List.getElem?_set_ne (by omega)]; exact h.2 i (by omega)
theorem Laid.done {ys zs : List Int} {j : Nat} (h : Laid ys zs j) (hj : zs.length ≤ j) : ys = zs := by
  apply List.ext_getElem?
  intro i
  by_cases hi : i < j
  · exact h.2 i hi
  · rw [List.getElem?_eq_none (by rw [h.1]; omega), List.getElem?_eq_none (by omega)]

set_option maxHeartbeats 400000 in
theorem cloneBytes_any (a : Option Addr) (n c : Nat) (zs : List Int) (w : World) (hm : n ≤ 1048576) (h : Ints .u8 w a n zs) :
    Calls Try.prog 16 #[.slice a n c] w fun e w' => ∃ a' c', e = .returned (.slice a' n c') ∧ Ints .u8 w' a' n zs ∧ Below w.heap.size w w' ∧ Copied w a a' c' := by
  have HL : Hid (zs.length = n) := h.1
  obtain ⟨i0, hi, hz0, hz1, hz2⟩ := info_parts Try.info5
  have hnil := fun (w : World) (a : Option Addr) (n c n' c' : Nat) => Lib.run_eql_slice_nil (P := Try.prog) w 22 5 a n c n' c' Try.underlying22
  rcases h.parts with ⟨hn, b, off, hc⟩ | ⟨b, off, rfl, hc⟩
  · obtain rfl : n = 0 := by omega
    obtain rfl : zs = [] := List.eq_nil_of_length_eq_zero HL.out
    clear h
    rcases a with _ | ad
    · go_enter Try.func16, Try.ntmps16
      go_wp2
      go_ret
      exact ⟨_, _, rfl, ⟨rfl, Or.inl rfl⟩, Below.refl _ _, Or.inl ⟨rfl, rfl, rfl⟩⟩
    · go_enter Try.func16, Try.ntmps16
      go_wp2_with (at_make; refine wpList_make_full _ rfl _ _ 22 rfl w.heap.size 5 i0 _ 1 Try.underlying22 hi hz0 hz1 _ _ _ _ 0 rfl rfl rfl rfl ?b2 ?b3 (Nat.le_refl _) ?_)
      case b2 => rw [hz2]; omega
      case b3 => unfold maxLen; omega
      intro w0 hown0 hgrow0
      go_wp2
      refine wp_loop_rounds 1 ?_
      rw [rounds_succ]
      go_wp2
      go_ret
      exact ⟨_, _, rfl, ⟨rfl, Or.inl rfl⟩, (Below.refl _ _).grown hgrow0 (Nat.le_refl _) (fun k h => by cases h), Or.inr ⟨by simp, rfl⟩⟩
  · clear h
    go_enter Try.func16, Try.ntmps16
    go_wp2_with (at_make; refine wpList_make_full _ rfl _ _ 22 rfl w.heap.size 5 i0 _ 1 Try.underlying22 hi hz0 hz1 _ _ _ _ n rfl rfl rfl rfl ?b2 ?b3 (Nat.le_refl _) ?_)
    case b2 => rw [hz2]; omega
    case b3 => unfold maxLen; omega
    intro w0 hown0 hgrow0
    have hown0' : w0.ownsRow w.heap.size 5 1 (.slice (some ⟨w.heap.size, 0, none⟩) n n) n ((List.replicate n 0).map (Value.int .u8)) := by
      have e : (madeCells #[Value.int .u8 0] n).toList = (List.replicate n 0).map (Value.int .u8) := by rw [toList_madeCells_one, List.map_replicate]
      rw [← e]; exact hown0
    clear hown0
    go_wp2
    go_loopw [4] (fun i wr => ∃ (k : Nat) (ys : List Int), k ≤ n ∧ i = .int .i64 k ∧ wr.ownsRow w.heap.size 5 1 (.slice (some ⟨w.heap.size, 0, none⟩) n n) n (ys.map (Value.int .u8)) ∧ Laid ys zs k ∧ Below w.heap.size w wr) (fun i _ => n - (intOf i).toNat)
    case atStart => exact ⟨0, _, Nat.zero_le _, rfl, hown0', ⟨by rw [List.length_replicate]; exact HL.out.symm, fun i hi => by omega⟩, (Below.refl _ _).grown hgrow0 (Nat.le_refl _) (fun k h => by cases h)⟩
    case round =>
      obtain ⟨k, ys, hk, rfl, hown, hlaid, hb⟩ := hrel
      by_cases hlt : k < n
      · have g := hc k hlt
        have c0 := (hb.cell (p := ⟨b, off + k, none⟩) (World.block_lt_of_cell? w _ g)).trans g
        obtain ⟨v0, d0⟩ : ∃ v, wr.cell? ⟨w.heap.size, k, none⟩ = some v := by
          have := hown.1
          exact ⟨_, by rw [hown.cellAt k (by omega), List.getElem?_eq_getElem (by omega)]⟩
        have f0 := hown.frozenAt k
        clear g hc
        go_wp2
        have st := (hown.stored k (.int .u8 (zs[k]?.getD 0))).1
        rw [← List.map_set] at st
        go_roundw
        case rel => exact ⟨k + 1, _, by omega, by go_num, st, hlaid.step (by have := HL.out; omega), hb.setCell (p := ⟨w.heap.size, k, none⟩) (Nat.le_refl _) _⟩
        case measure => simp [intOf]; omega
      · go_wp2
        go_ret
        have hx := hlaid.done (by have := HL.out; omega)
        rw [hx] at hown
        exact ⟨_, _, rfl, ints_of_owns HL.out hown, hb, Or.inr ⟨by simp, rfl⟩⟩

set_option maxHeartbeats 400000 in
theorem cloneInts_any (a : Option Addr) (n c : Nat) (zs : List Int) (w : World) (hm : n ≤ 1048576) (h : Ints .i64 w a n zs) :
    Calls Try.prog 35 #[.slice a n c] w fun e w' => ∃ a' c', e = .returned (.slice a' n c') ∧ Ints .i64 w' a' n zs ∧ Below w.heap.size w w' ∧ Copied w a a' c' := by
  have HL : Hid (zs.length = n) := h.1
  obtain ⟨i0, hi, hz0, hz1, hz2⟩ := info_parts Try.info3
  have hnil := fun (w : World) (a : Option Addr) (n c n' c' : Nat) => Lib.run_eql_slice_nil (P := Try.prog) w 43 3 a n c n' c' Try.underlying43
  rcases h.parts with ⟨hn, b, off, hc⟩ | ⟨b, off, rfl, hc⟩
  · obtain rfl : n = 0 := by omega
    obtain rfl : zs = [] := List.eq_nil_of_length_eq_zero HL.out
    clear h
    rcases a with _ | ad
    · go_enter Try.func35, Try.ntmps35
      go_wp2
      go_ret
      exact ⟨_, _, rfl, ⟨rfl, Or.inl rfl⟩, Below.refl _ _, Or.inl ⟨rfl, rfl, rfl⟩⟩
    · go_enter Try.func35, Try.ntmps35
      go_wp2_with (at_make; refine wpList_make_full _ rfl _ _ 43 rfl w.heap.size 3 i0 _ 1 Try.underlying43 hi hz0 hz1 _ _ _ _ 0 rfl rfl rfl rfl ?b2 ?b3 (Nat.le_refl _) ?_)
      case b2 => rw [hz2]; omega
      case b3 => unfold maxLen; omega
      intro w0 hown0 hgrow0
      go_wp2
      refine wp_loop_rounds 1 ?_
      rw [rounds_succ]
      go_wp2
      go_ret
      exact ⟨_, _, rfl, ⟨rfl, Or.inl rfl⟩, (Below.refl _ _).grown hgrow0 (Nat.le_refl _) (fun k h => by cases h), Or.inr ⟨by simp, rfl⟩⟩
  · clear h
    go_enter Try.func35, Try.ntmps35
    go_wp2_with (at_make; refine wpList_make_full _ rfl _ _ 43 rfl w.heap.size 3 i0 _ 1 Try.underlying43 hi hz0 hz1 _ _ _ _ n rfl rfl rfl rfl ?b2 ?b3 (Nat.le_refl _) ?_)
    case b2 => rw [hz2]; omega
    case b3 => unfold maxLen; omega
    intro w0 hown0 hgrow0
    have hown0' : w0.ownsRow w.heap.size 3 1 (.slice (some ⟨w.heap.size, 0, none⟩) n n) n ((List.replicate n 0).map (Value.int .i64)) := by
      have e : (madeCells #[Value.int .i64 0] n).toList = (List.replicate n 0).map (Value.int .i64) := by rw [toList_madeCells_one, List.map_replicate]
      rw [← e]; exact hown0
    clear hown0
    go_wp2
    go_loopw [4] (fun i wr => ∃ (k : Nat) (ys : List Int), k ≤ n ∧ i = .int .i64 k ∧ wr.ownsRow w.heap.size 3 1 (.slice (some ⟨w.heap.size, 0, none⟩) n n) n (ys.map (Value.int .i64)) ∧ Laid ys zs k ∧ Below w.heap.size w wr) (fun i _ => n - (intOf i).toNat)
    case atStart => exact ⟨0, _, Nat.zero_le _, rfl, hown0', ⟨by rw [List.length_replicate]; exact HL.out.symm, fun i hi => by omega⟩, (Below.refl _ _).grown hgrow0 (Nat.le_refl _) (fun k h => by cases h)⟩
    case round =>
      obtain ⟨k, ys, hk, rfl, hown, hlaid, hb⟩ := hrel
      by_cases hlt : k < n
      · have g := hc k hlt
        have c0 := (hb.cell (p := ⟨b, off + k, none⟩) (World.block_lt_of_cell? w _ g)).trans g
        obtain ⟨v0, d0⟩ : ∃ v, wr.cell? ⟨w.heap.size, k, none⟩ = some v := by
          have := hown.1
          exact ⟨_, by rw [hown.cellAt k (by omega), List.getElem?_eq_getElem (by omega)]⟩
        have f0 := hown.frozenAt k
        clear g hc
        go_wp2
        have st := (hown.stored k (.int .i64 (zs[k]?.getD 0))).1
        rw [← List.map_set] at st
        go_roundw
        case rel => exact ⟨k + 1, _, by omega, by go_num, st, hlaid.step (by have := HL.out; omega), hb.setCell (p := ⟨w.heap.size, k, none⟩) (Nat.le_refl _) _⟩
        case measure => simp [intOf]; omega
      · go_wp2
        go_ret
        have hx := hlaid.done (by have := HL.out; omega)
        rw [hx] at hown
        exact ⟨_, _, rfl, ints_of_owns HL.out hown, hb, Or.inr ⟨by simp, rfl⟩⟩

/-! ### cloneRunsB1 -/
theorem Try.info43 : (Try.prog.info? 43).map (fun i => (i.zero, i.size, i.bytes)) = some (some (.slice none 0 0), 1, 24) := by kernel_rfl

theorem below_grown {w w' : World} (h : Below w.heap.size w w') : w.grownBy w' none := ⟨h.os, h.tape, h.output, h.size, fun k hk _ => h.block k hk⟩

/-- Not in block B. -/
def Off (B : Nat) (a : Option Addr) : Prop := ∀ ad, a = some ad → ad.block ≠ B

theorem Ints.kept {k : IntKind} {w w' : World} {a : Option Addr} {n B : Nat} {zs : List Int} (h : Ints k w a n zs) (hg : w.grownBy w' (some B)) (hne : Off B a) : Ints k w' a n zs := by
  refine ⟨h.1, ?_⟩
  rcases h.2 with h2 | ⟨b, off, ha, hc⟩
  · exact Or.inl h2
  · refine Or.inr ⟨b, off, ha, fun i hi => hg.cell (hc i hi) (fun e => hne _ ha ?_)⟩
    simpa using e

/-- The first j runs have been copied into the row xs. -/
def Rows (w : World) (B : Nat) (xs : List Value) (rs : List (List Int)) (j : Nat) : Prop :=
  ∀ i, i < j → ∃ ai ni ci, xs[i]? = some (.slice ai ni ci) ∧ Ints .i64 w ai ni (rs[i]?.getD []) ∧ Off B ai

theorem Rows.zero (w : World) (B : Nat) (xs : List Value) (rs : List (List Int)) : Rows w B xs rs 0 := fun i hi => by omega

theorem Rows.next {w w1 : World} {B j n : Nat} {xs : List Value} {rs : List (List Int)} (h : Rows w B xs rs j) (hb : Below w.heap.size w w1) (hx : xs.length = n) (hj : j < n) {ai : Option Addr} {ni ci : Nat} (hI : Ints .i64 w1 ai ni (rs[j]?.getD [])) (ho : Off B ai)
    (hg : w1.grownBy (w1.setCell ⟨B, j, none⟩ (.slice ai ni ci)) (some B)) : Rows (w1.setCell ⟨B, j, none⟩ (.slice ai ni ci)) B (xs.set j (.slice ai ni ci)) rs (j + 1) := by
  intro i hi
  by_cases e : i = j
  · subst e
    exact ⟨ai, ni, ci, by rw [List.getElem?_set_self (by omega)], hI.kept hg ho, ho⟩
  · obtain ⟨a', n', c', g, hI', ho'⟩ := h i (by omega)
    exact ⟨a', n', c', by rw [List.getElem?_set_ne (by omega)]; exact g, (hI'.below hb).kept hg ho', ho'⟩

theorem Rows.done {w : World} {base B n cap : Nat} {xs : List Value} {rs : List (List Int)} (hl : rs.length = n) (h : Rows w B xs rs n) (hown : w.ownsRow base 43 1 (.slice (some ⟨B, 0, none⟩) n cap) n xs) : Runs w (some ⟨B, 0, none⟩) n rs := by
  refine ⟨hl, Or.inr ⟨B, 0, rfl, fun i hi => ?_⟩⟩
  obtain ⟨ai, ni, ci, g, hI, _⟩ := h i hi
  exact ⟨ai, ni, ci, by rw [Nat.zero_add, hown.cellAt i (by omega), g], hI⟩

theorem copied_off {w : World} {B : Nat} {a a' : Option Addr} {c' : Nat} (h : Copied w a a' c') (hB : B < w.heap.size) : Off B a' := by
  intro ad e
  rcases h with ⟨_, h, _⟩ | ⟨_, h⟩
  · rw [h] at e; cases e
  · rw [h] at e
    obtain rfl := Option.some.inj e
    show w.heap.size ≠ B
    omega

set_option maxHeartbeats 1000000 in
theorem cloneRuns_any (a : Option Addr) (n c : Nat) (rs : List (List Int)) (w : World) (hm : n ≤ 65536) (h : Runs w a n rs) (hs : Short rs n) :
    Calls Try.prog 26 #[.slice a n c] w fun e w' => ∃ a' c', e = .returned (.slice a' n c') ∧ Runs w' a' n rs ∧ Below w.heap.size w w' ∧ Copied w a a' c' := by
  have HL : Hid (rs.length = n) := h.1
  obtain ⟨i0, hi, hz0, hz1, hz2⟩ := info_parts Try.info43
  have hnil := fun (w : World) (a : Option Addr) (n c n' c' : Nat) => Lib.run_eql_slice_nil (P := Try.prog) w 34 43 a n c n' c' Try.underlying34
  rcases h.parts with ⟨hn, b, off, hc⟩ | ⟨b, off, rfl, hc⟩
  · obtain rfl : n = 0 := by omega
    obtain rfl : rs = [] := List.eq_nil_of_length_eq_zero HL.out
    clear h
    rcases a with _ | ad
    · go_enter Try.func26, Try.ntmps26
      go_wp2
      go_ret
      exact ⟨_, _, rfl, ⟨rfl, Or.inl rfl⟩, Below.refl _ _, Or.inl ⟨rfl, rfl, rfl⟩⟩
    · go_enter Try.func26, Try.ntmps26
      go_wp2_with (at_make; refine wpList_make_full _ rfl _ _ 34 rfl w.heap.size 43 i0 _ 1 Try.underlying34 hi hz0 hz1 _ _ _ _ 0 rfl rfl rfl rfl ?b2 ?b3 (Nat.le_refl _) ?_)
      case b2 => rw [hz2]; omega
      case b3 => unfold maxLen; omega
      intro w0 hown0 hgrow0
      go_wp2
      refine wp_loop_rounds 1 ?_
      rw [rounds_succ]
      go_wp2
      go_ret
      exact ⟨_, _, rfl, ⟨rfl, Or.inl rfl⟩, (Below.refl _ _).grown hgrow0 (Nat.le_refl _) (fun k h => by cases h), Or.inr ⟨by simp, rfl⟩⟩
  · clear h
    go_enter Try.func26, Try.ntmps26
    go_wp2_with (at_make; refine wpList_make_full _ rfl _ _ 34 rfl w.heap.size 43 i0 _ 1 Try.underlying34 hi hz0 hz1 _ _ _ _ n rfl rfl rfl rfl ?b2 ?b3 (Nat.le_refl _) ?_)
    case b2 => rw [hz2]; omega
    case b3 => unfold maxLen; omega
    intro w0 hown0 hgrow0
    go_wp2
    go_loopw [4] (fun i wr => ∃ (k : Nat) (xs : List Value), k ≤ n ∧ i = .int .i64 k ∧ wr.ownsRow w.heap.size 43 1 (.slice (some ⟨w.heap.size, 0, none⟩) n n) n xs ∧ Rows wr w.heap.size xs rs k ∧ Below w.heap.size w wr) (fun i _ => n - (intOf i).toNat)
    case atStart => exact ⟨0, _, Nat.zero_le _, rfl, hown0, Rows.zero _ _ _ _, (Below.refl _ _).grown hgrow0 (Nat.le_refl _) (fun k h => by cases h)⟩
    case round =>
      obtain ⟨k, xs, hk, rfl, hown, hrows, hb⟩ := hrel
      by_cases hlt : k < n
      · obtain ⟨ai, ni, ci, g, hI⟩ := hc k hlt
        have c0 := (hb.cell (p := ⟨b, off + k, none⟩) (World.block_lt_of_cell? w _ g)).trans g
        have hI' := hI.below (hb.mono (Nat.le_refl _))
        have hni : ni ≤ 131072 := by have := hs k hlt; rw [hI.1] at this; exact this
        have hB := (hown.lt w.heap.size rfl).2
        have hx : Hid (xs.length = n) := by have := hown.1; show xs.length = n; omega
        clear g hc hI
        go_wp2_with fail
        refine (cloneInts_any ai ni ci (rs[k]?.getD []) wr (by omega) hI').mono ?_
        rintro e w1 ⟨a', c', rfl, hI1, hb1, hcp⟩
        have hown1 := hown.kept (below_grown hb1) (Or.inr (by simp [Value.ownBlock]))
        obtain ⟨v0, d0⟩ : ∃ v, w1.cell? ⟨w.heap.size, k, none⟩ = some v := by
          have := hx.out
          exact ⟨_, by rw [hown1.cellAt k (by omega), List.getElem?_eq_getElem (by omega)]⟩
        have f0 := hown1.frozenAt k
        have st := hown1.stored k (.slice a' ni c')
        have R := hrows.next hb1 hx.out hlt hI1 (copied_off hcp hB) st.2
        clear hrows hI1 hcp
        go_wp2_with fail
        go_roundw
        case rel => exact ⟨k + 1, _, by omega, by go_num, st.1, R, (hb.trans (hb1.mono hb.size)).setCell (p := ⟨w.heap.size, k, none⟩) (Nat.le_refl _) _⟩
        case measure => simp [intOf]; omega
      · go_wp2_with fail
        go_ret
        obtain rfl : k = n := by omega
        exact ⟨_, _, rfl, hrows.done HL.out hown, hb, Or.inr ⟨by simp, rfl⟩⟩

end Go.Proofs.Qxb6601749a
