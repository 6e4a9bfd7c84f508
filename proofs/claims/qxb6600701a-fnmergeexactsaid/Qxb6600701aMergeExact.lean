/-
  FnMergeExact returns true.
-/
import Derived.Test.Qxb6600701aLookup
import Derived.Test.Qxb6600701aMergeAll
import Derived.Test.Qxb6600701aZ8
import Derived.Test.Qxb6600701aOpenPos
namespace Go.Proofs.Qxb6600701a
open Go.RowKit

/-! ### The plain law -/
theorem found_l {ds es : List D} {k : Nat} {x : D} (hr : Rising ds) (hr' : Rising es) (hk : k < ds.length) (hx : x = ds[k]?.getD (ByteArray.empty, 0)) : ∃ v, get x.1 (mrg ds es) = some v := by
  subst hx
  rw [get_mrg _ _ _ hr hr', get_at hr hk rfl]
  cases get (ds[k]?.getD (ByteArray.empty, 0)).1 es with
  | none => exact ⟨_, rfl⟩
  | some y => exact ⟨_, rfl⟩
theorem found_r {ds es : List D} {k : Nat} {x : D} (hr : Rising ds) (hr' : Rising es) (hk : k < es.length) (hx : x = es[k]?.getD (ByteArray.empty, 0)) : ∃ v, get x.1 (mrg ds es) = some v := by
  rw [mrg_comm hr hr']
  exact found_l hr' hr hk hx
theorem exact_at {ds es : List D} {k : Nat} {x : D} (hp : Pos ds) (hq : Pos es) (hr : Rising ds) (hr' : Rising es) (hk : k < (mrg ds es).length) (hx : x = (mrg ds es)[k]?.getD (ByteArray.empty, 0)) :
    x.2 = max ((get x.1 ds).getD 0) ((get x.1 es).getD 0) ∧ ((get x.1 ds).isSome = true ∨ (get x.1 es).isSome = true) := by
  have h := get_at (rising_mrg _ _ hr hr') hk rfl
  rw [← hx, get_mrg _ _ _ hr hr'] at h
  cases h1 : get x.1 ds with
  | none =>
    cases h2 : get x.1 es with
    | none => rw [h1, h2] at h; simp [omax] at h
    | some v =>
      rw [h1, h2] at h
      have := hq _ (get_mem h2)
      simp [omax] at h this ⊢
      omega
  | some u =>
    have hu := hp _ (get_mem h1)
    simp at hu
    cases h2 : get x.1 es with
    | none => rw [h1, h2] at h; simp [omax] at h ⊢; omega
    | some v => rw [h1, h2] at h; simp [omax] at h ⊢; omega

set_option maxHeartbeats 400000 in
theorem maxU_any (x y : Int) (w : World) : Calls Try.prog 15 #[.int .u64 x, .int .u64 y] w fun e w' => e = .returned (.int .u64 (max x y)) ∧ w' = w := by
  by_cases h : y ≤ x
  · go_enter Try.func15, Try.ntmps15
    go_wp2
    go_ret
    exact ⟨ret_int (by omega), rfl⟩
  · go_enter Try.func15, Try.ntmps15
    go_wp2
    go_ret
    exact ⟨ret_int (by omega), rfl⟩

set_option maxHeartbeats 400000 in
theorem mergeExact_long (a0 : Option Addr) (n0 c0 : Nat) (ds0 : List D) (a1 : Option Addr) (n1 c1 : Nat) (ds1 : List D) (w : World) (h0 : Dots w a0 n0 ds0) (h1 : Dots w a1 n1 ds1)
    (hbig : 65536 < n0 ∨ (n0 ≤ 65536 ∧ 65536 < n1)) :
    Calls Try.prog 3 #[.slice a0 n0 c0, .slice a1 n1 c1] w fun e w' => e = .returned (.bool true) ∧ Below w.heap.size w w' := by
  rcases hbig with hb | ⟨hb, hb'⟩
  all_goals
    go_enter Try.func3, Try.ntmps3
    go_wp2_with (go_at_call 8; refine (zz8_any _ _ _ _ _ _ _ _ _ h0 h1).mono ?_; rintro e w' ⟨⟨r, rfl⟩, rfl⟩)
    all_goals
      go_ret
      exact ⟨rfl, Below.refl _ _⟩

set_option maxHeartbeats 1000000 in
theorem mergeExact_short (a0 : Option Addr) (n0 c0 : Nat) (ds0 : List D) (a1 : Option Addr) (n1 c1 : Nat) (ds1 : List D) (w : World) (h0 : Dots w a0 n0 ds0) (h1 : Dots w a1 n1 ds1)
    (hp0 : Pos ds0) (hp1 : Pos ds1) (hb0 : n0 ≤ 65536) (hb1 : n1 ≤ 65536) :
    Calls Try.prog 3 #[.slice a0 n0 c0, .slice a1 n1 c1] w fun e w' => e = .returned (.bool true) ∧ Below w.heap.size w w' := by
  go_enter Try.func3, Try.ntmps3
  go_wp2_with fail
  refine (zz8_any _ _ _ _ _ _ _ _ _ h0 h1).mono ?_
  rintro e w' ⟨⟨r, rfl⟩, hw⟩
  subst w'
  cases r
  · go_wp2_with fail
    go_ret
    exact ⟨rfl, Below.refl _ _⟩
  go_wp2_with fail
  refine (dotBytes_any a0 n0 c0 ds0 _ (by omega) h0).mono ?_
  rintro e w' ⟨⟨x0, hx0, hx0', rfl⟩, hw⟩
  subst w'
  go_wp2_with fail
  refine (dotBytes_any a1 n1 c1 ds1 _ (by omega) h1).mono ?_
  rintro e w' ⟨⟨x1, hx1, hx1', rfl⟩, hw⟩
  subst w'
  by_cases hsum : x0 + x1 ≤ 1048576
  case neg =>
    go_wp2_with fail
    go_ret
    exact ⟨rfl, Below.refl _ _⟩
  go_wp2_with fail
  refine (strictlySorted_any a0 n0 c0 ds0 _ (by omega) h0).mono ?_
  rintro e y0 ⟨⟨r, rfl, hr0⟩, hB0⟩
  cases r
  · go_wp2_with fail
    go_ret
    exact ⟨rfl, hB0⟩
  replace hr0 := hr0.1 rfl
  go_wp2_with fail
  refine (strictlySorted_any a1 n1 c1 ds1 _ (by omega) (h1.below hB0)).mono ?_
  rintro e y1 ⟨⟨r, rfl, hr1⟩, hs1⟩
  have hB1 := hB0.trans (hs1.mono hB0.size)
  cases r
  · go_wp2_with fail
    go_ret
    exact ⟨rfl, hB1⟩
  replace hr1 := hr1.1 rfl
  go_wp2_with fail
  refine (toVector_any a0 n0 c0 ds0 _ (by omega) (h0.below hB1)).mono ?_
  rintro e y2 ⟨va, vc, rfl, V0, hs2, -⟩
  have hB2 := hB1.trans (hs2.mono hB1.size)
  go_wp2_with fail
  refine (toVector_any a1 n1 c1 ds1 _ (by omega) (h1.below hB2)).mono ?_
  rintro e y3 ⟨vb, vd, rfl, V1, hs3, -⟩
  have hB3 := hB2.trans (hs3.mono hB2.size)
  replace V0 := V0.below hs3
  go_wp2_with fail
  refine (merge_any va n0 vc ds0 vb n1 vd ds1 _ (by omega) (by omega) V0 V1).mono ?_
  rintro e y4 ⟨m, cm, rfl, VM, hs4⟩
  have hB4 := hB3.trans (hs4.mono hB3.size)
  replace V0 := V0.below hs4
  replace V1 := V1.below hs4
  have hml : m ≤ n0 + n1 := by have := mrg_length_le ds0 ds1; have := VM.dots.1; have := V0.dots.1; have := V1.dots.1; omega
  go_wp2_with fail
  refine (sortedVec_any (some ⟨y3.heap.size, 0, none⟩) m cm (mrg ds0 ds1) _ (by omega) VM.dots).mono ?_
  rintro e y5 ⟨⟨r, rfl, hrm⟩, hs5⟩
  have hB5 := hB4.trans (hs5.mono hB4.size)
  obtain rfl : r = true := hrm.2 (rising_mrg _ _ hr0 hr1)
  have D0 := (V0.below hs5).dots
  have D1 := (V1.below hs5).dots
  have DM := (VM.below hs5).dots
  have RM := rising_mrg _ _ hr0 hr1
  have HL0 : Hid (ds0.length = n0) := D0.1
  have HL1 : Hid (ds1.length = n1) := D1.1
  have HLM : Hid ((mrg ds0 ds1).length = m) := DM.1
  clear hrm V0 V1 VM h0 h1 hs1 hs2 hs3 hs4 hs5 hB0 hB1 hB2 hB3 hB4
  rcases D0.parts with ⟨hn0, b0, off0, hc0⟩ | ⟨b0, off0, rfl, hc0⟩
  all_goals rcases D1.parts with ⟨hn1, b1, off1, hc1⟩ | ⟨b1, off1, rfl, hc1⟩
  all_goals
    go_wp2_with fail
    go_loop [8] (fun i => ∃ k : Nat, k ≤ n0 ∧ i = .int .i64 k) (fun i => n0 - (intOf i).toNat)
    case atStart => exact ⟨0, Nat.zero_le _, rfl⟩
    case round =>
      obtain ⟨k, hk, rfl⟩ := hrel
      by_cases hlt : k < n0
      · first
          | (exfalso; omega)
          | (obtain ⟨x, hX, g0⟩ : ∃ x : D, Hid (x = ds0[k]?.getD (ByteArray.empty, 0)) ∧ y5.cell? ⟨b0, off0 + k * 2, none⟩ = some (.string x.1) := ⟨_, rfl, (hc0 k hlt).1⟩
             obtain ⟨v, hv⟩ := found_l hr0 hr1 (by have := HL0.out; omega) hX.out
             have hlk := lookup_any (some ⟨y3.heap.size, 0, none⟩) m cm (mrg ds0 ds1) x.1 y5 (by omega) DM RM
             rw [hv] at hlk
             have HV : Hid (get x.1 (mrg ds0 ds1) = some v) := hv
             clear hv hc0 hc1
             go_wp2_with fail
             refine hlk.mono ?_
             rintro e w' ⟨rfl, hw⟩
             subst w'
             go_wp2_with fail
             go_round
             case rel => exact ⟨k + 1, by omega, by go_num⟩
             case measure => simp [intOf]; omega)
      · go_wp2_with fail
        go_loop [11] (fun i => ∃ k : Nat, k ≤ n1 ∧ i = .int .i64 k) (fun i => n1 - (intOf i).toNat)
        case atStart => exact ⟨0, Nat.zero_le _, rfl⟩
        case round =>
          obtain ⟨k, hk, rfl⟩ := hrel
          by_cases hlt : k < n1
          · first
              | (exfalso; omega)
              | (obtain ⟨x, hX, g0⟩ : ∃ x : D, Hid (x = ds1[k]?.getD (ByteArray.empty, 0)) ∧ y5.cell? ⟨b1, off1 + k * 2, none⟩ = some (.string x.1) := ⟨_, rfl, (hc1 k hlt).1⟩
                 obtain ⟨v, hv⟩ := found_r hr0 hr1 (by have := HL1.out; omega) hX.out
                 have hlk := lookup_any (some ⟨y3.heap.size, 0, none⟩) m cm (mrg ds0 ds1) x.1 y5 (by omega) DM RM
                 rw [hv] at hlk
                 have HV : Hid (get x.1 (mrg ds0 ds1) = some v) := hv
                 clear hv hc0 hc1
                 go_wp2_with fail
                 refine hlk.mono ?_
                 rintro e w' ⟨rfl, hw⟩
                 subst w'
                 go_wp2_with fail
                 go_round
                 case rel => exact ⟨k + 1, by omega, by go_num⟩
                 case measure => simp [intOf]; omega)
          · go_wp2_with fail
            go_loopw [14] (fun i wr => ∃ k : Nat, k ≤ m ∧ i = .int .i64 k ∧ Below y5.heap.size y5 wr) (fun i _ => m - (intOf i).toNat)
            case atStart => exact ⟨0, Nat.zero_le _, rfl, Below.refl _ _⟩
            case round =>
              obtain ⟨k, hk, rfl, hb⟩ := hrel
              by_cases hlt : k < m
              · first
                  | (exfalso; omega)
                  | (obtain ⟨x, hX, g0, g1⟩ : ∃ x : D, Hid (x = (mrg ds0 ds1)[k]?.getD (ByteArray.empty, 0)) ∧ wr.cell? ⟨y3.heap.size, k * 2, none⟩ = some (.string x.1) ∧ wr.cell? ⟨y3.heap.size, k * 2 + 1, none⟩ = some (.int .u64 x.2) := ⟨_, rfl, (DM.below hb).own k hlt⟩
                     obtain ⟨hx2, hsome⟩ := exact_at hp0 hp1 hr0 hr1 (by have := HLM.out; omega) hX.out
                     have hlA := lookup_any _ n0 vc ds0 x.1 wr (by omega) (D0.below hb) hr0
                     have hlB := lookup_any _ n1 vd ds1 x.1 wr (by omega) (D1.below hb) hr1
                     rw [hx2] at g1
                     clear hx2
                     generalize (get x.1 ds0).getD 0 = u at g1 hlA
                     generalize (get x.1 ds0).isSome = p at hlA hsome
                     generalize (get x.1 ds1).getD 0 = v at g1 hlB
                     generalize (get x.1 ds1).isSome = q at hlB hsome
                     have e1 : (k : Int) < m := by omega
                     clear hc0 hc1 hX
                     cases p <;> cases q
                     · simp at hsome
                     all_goals
                       clear hsome
                       go_wp2_with fail
                       refine hlA.mono ?_
                       rintro e w' ⟨rfl, hw⟩
                       subst w'
                       go_wp2_with fail
                       refine hlB.mono ?_
                       rintro e w' ⟨rfl, hw⟩
                       subst w'
                       go_wp2_with fail
                       go_quiet ((go_at_call 15; exact Calls.quiet_of_same (maxU_any _ _ _)))
                       go_wp2_with fail
                       go_roundw
                       case rel => exact ⟨k + 1, by omega, by go_num, below_drewN hb _⟩
                       case measure => simp [intOf]; omega)
              · go_wp2_with fail
                go_ret
                exact ⟨rfl, hB5.trans (hb.mono hB5.size)⟩

theorem mergeExact_any (a0 : Option Addr) (n0 c0 : Nat) (ds0 : List D) (a1 : Option Addr) (n1 c1 : Nat) (ds1 : List D) (w : World) (h0 : Dots w a0 n0 ds0 ∧ Pos ds0) (h1 : Dots w a1 n1 ds1 ∧ Pos ds1) :
    Calls Try.prog 3 #[.slice a0 n0 c0, .slice a1 n1 c1] w fun e w' => e = .returned (.bool true) ∧ Below w.heap.size w w' := by
  by_cases hb : n0 ≤ 65536 ∧ n1 ≤ 65536
  · exact mergeExact_short a0 n0 c0 ds0 a1 n1 c1 ds1 w h0.1 h1.1 h0.2 h1.2 hb.1 hb.2
  · exact mergeExact_long a0 n0 c0 ds0 a1 n1 c1 ds1 w h0.1 h1.1 (by omega)

end Go.Proofs.Qxb6600701a
