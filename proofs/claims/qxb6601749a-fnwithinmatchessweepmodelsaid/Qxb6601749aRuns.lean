/-
  NewSet, ZZPacked; Within at a list of runs.
-/
import Derived.Test.Qxb6601749aClone
import Derived.Test.Qxb6601749aRun
import Derived.Deep.RegionHeld3
namespace Go.Proofs.Qxb6601749a
open Go.RowKit

theorem bitAt_zero (m k : Nat) : bitAt (List.replicate m 0) k = false := by
  unfold bitAt
  rw [List.getElem?_replicate]
  split <;> exact bit_zero _

set_option maxHeartbeats 400000 in
theorem newSet_any (nx : Nat) (w : World) (hn : nx ≤ 65536) :
    Calls Try.prog 36 #[.int .i64 nx] w fun e w' => e = .returned (.slice (some ⟨w.heap.size, 0, none⟩) ((nx + 7) / 8) ((nx + 7) / 8)) ∧ SetIs w' w.heap.size ((nx + 7) / 8) (List.replicate ((nx + 7) / 8) 0) ∧ Below w.heap.size w w' := by
  obtain ⟨i0, hi, hz0, hz1, hz2⟩ := info_parts Try.info5
  go_enter Try.func36, Try.ntmps36
  go_wp2_with (at_make; refine wpList_make_full _ rfl _ _ 39 rfl w.heap.size 5 i0 _ 1 Try.underlying39 hi hz0 hz1 _ _ _ _ ((nx + 7) / 8) rfl rfl (by omega) (by omega) ?b2 ?b3 (Nat.le_refl _) ?_)
  case b2 => rw [hz2]; omega
  case b3 => unfold maxLen; omega
  intro w0 hown0 hgrow0
  have hs : SetIs w0 w.heap.size ((nx + 7) / 8) (List.replicate ((nx + 7) / 8) 0) := by
    refine ⟨?_, fun v hv => by rw [List.eq_of_mem_replicate hv]; exact ⟨by omega, by omega⟩⟩
    have e : (madeCells #[Value.int .u8 0] ((nx + 7) / 8)).toList = (List.replicate ((nx + 7) / 8) 0).map (Value.int .u8) := by rw [toList_madeCells_one, List.map_replicate]
    rw [← e]
    simpa using hown0
  have hb : Below w.heap.size w w0 := (Below.refl _ _).grown hgrow0 (Nat.le_refl _) (fun k h => by cases h)
  go_wp2
  go_ret
  exact ⟨rfl, hs, hb⟩

set_option maxHeartbeats 400000 in
theorem packed_any (a0 : Option Addr) (n0 c0 : Nat) (a1 : Option Addr) (n1 c1 : Nat) (w : World) :
    Calls Try.prog 27 #[.slice a0 n0 c0, .slice a1 n1 c1] w fun e w' => e = .returned (.pointer (some ⟨w.heap.size, 0, none⟩)) ∧ w' = w.alloc (.cells #[.slice a0 n0 c0, .slice a1 n1 c1] 54) := by
  go_enter Try.func27, Try.ntmps27
  go_wp2
  go_ret
  exact ⟨rfl, rfl⟩

/-! ### The runs that reach into the set -/
/-- Segment j lies in run i, cut to first .. next. -/
def hitB (rs : List (List Int)) (f nx : Int) (i j : Nat) : Bool := decide (max (r0 rs i) f ≤ (j : Int) ∧ (j : Int) ≤ min (r1 rs i) (nx - 1))
/-- .. in one of the first k runs. -/
def anyHit (rs : List (List Int)) (f nx : Int) (k j : Nat) : Bool := (List.range k).any fun i => hitB rs f nx i j

theorem anyHit_succ (rs : List (List Int)) (f nx : Int) (k j : Nat) : anyHit rs f nx (k + 1) j = (anyHit rs f nx k j || hitB rs f nx k j) := by
  unfold anyHit; rw [List.range_succ, List.any_append]; simp

/-- What the loop over the runs has made so far. -/
def Sofar (w wr : World) (g m : Nat) (rs : List (List Int)) (f nx : Int) (k : Nat) : Prop :=
  ∃ ys, SetIs wr g m ys ∧ (∀ j, j < m * 8 → bitAt ys j = anyHit rs f nx k j) ∧ Below w.heap.size w wr

theorem below_set {w wr w' : World} {g : Nat} (hb : Below w.heap.size w wr) (hg : w.heap.size ≤ g) (h : wr.grownBy w' (some g)) : Below w.heap.size w w' :=
  hb.grown h hb.size (fun k hk => by cases hk; exact hg)

theorem Sofar.next {w wr w' : World} {g m : Nat} {ys : List Int} {rs : List (List Int)} {f nx : Int} {k : Nat} {M L : Int} (hb : Below w.heap.size w wr) (hg : w.heap.size ≤ g) (hbits : ∀ j, j < m * 8 → bitAt ys j = anyHit rs f nx k j) (hM : max (r0 rs k) f = M) (hL : min (r1 rs k) (nx - 1) = L)
    (ht : Turned wr w' g m ys (fun j => decide (M ≤ (j : Int) ∧ (j : Int) ≤ L))) : Sofar w w' g m rs f nx (k + 1) := by
  obtain ⟨ys', h1, h2, h3⟩ := ht
  refine ⟨ys', h1, fun j hj => ?_, below_set hb hg h3⟩
  rw [h2 j hj, hbits j hj, anyHit_succ]
  unfold hitB
  rw [hM, hL]

set_option maxHeartbeats 1000000 in
theorem within_runs (pb : Nat) (a0 : Option Addr) (n0 c0 : Nat) (b1 o1 n1 c1 : Nat) (rs : List (List Int)) (f : Int) (nx : Nat) (w : World) (hp0 : w.cell? ⟨pb, 0, none⟩ = some (.slice a0 n0 c0)) (hp1 : w.cell? ⟨pb, 1, none⟩ = some (.slice (some ⟨b1, o1, none⟩) n1 c1))
    (hn1 : n1 ≤ 65536) (hf0 : 0 ≤ f) (hf1 : f ≤ 9223372036854775800) (hnx : nx ≤ 65536) (hr : Runs w (some ⟨b1, o1, none⟩) n1 rs) (hfm : Formed rs n1) :
    Calls Try.prog 28 #[.pointer (some ⟨pb, 0, none⟩), .int .i64 f, .int .i64 nx] w fun e w' => ∃ g, e = .returned (.slice (some ⟨g, 0, none⟩) ((nx + 7) / 8) ((nx + 7) / 8)) ∧ ∃ k, k ≤ n1 ∧ (k < n1 → (nx : Int) ≤ r0 rs k) ∧ Sofar w w' g ((nx + 7) / 8) rs f nx k := by
  have hnil := fun (w : World) (a : Option Addr) (n c n' c' : Nat) => Lib.run_eql_slice_nil (P := Try.prog) w 34 43 a n c n' c' Try.underlying34
  have hpb := World.block_lt_of_cell? w _ hp0
  have HL : Hid (rs.length = n1) := hr.1
  go_enter Try.func28, Try.ntmps28
  go_wp2_with fail
  refine (newSet_any nx w hnx).mono ?_
  rintro e w0 ⟨rfl, hs0, hb0⟩
  have q0 := (hb0.cell (p := ⟨pb, 0, none⟩) hpb).trans hp0
  have q1 := (hb0.cell (p := ⟨pb, 1, none⟩) hpb).trans hp1
  go_wp2_with fail
  go_loopw [66] (fun i wr => ∃ k : Nat, k ≤ n1 ∧ i = .int .i64 k ∧ Sofar w wr w.heap.size ((nx + 7) / 8) rs f nx k) (fun i _ => n1 - (intOf i).toNat)
  case atStart => exact ⟨0, Nat.zero_le _, rfl, _, hs0, fun j _ => bitAt_zero _ _, hb0⟩
  case round =>
    obtain ⟨k, hk, rfl, hso⟩ := hrel
    by_cases hlt : k < n1
    · obtain ⟨ys, hs, hbits, hb⟩ := hso
      rcases hr.2 with h0 | ⟨b, o, he, hc⟩
      · omega
      · simp only [Option.some.injEq, Addr.mk.injEq, and_true] at he
        obtain ⟨rfl, rfl⟩ := he
        obtain ⟨ai, ni, ci, g0, hI⟩ := hc k hlt
        have h2 := hfm.1 k hlt
        rw [hI.1] at h2
        obtain ⟨b2, o2, rfl, x0, x1⟩ := two_cells hI h2
        have y0 := (hb.cell (p := ⟨b1, o1 + k, none⟩) (World.block_lt_of_cell? w _ g0)).trans g0
        have y1 := (hb.cell (p := ⟨b2, o2, none⟩) (World.block_lt_of_cell? w _ x0)).trans x0
        have y2 := (hb.cell (p := ⟨b2, o2 + 1, none⟩) (World.block_lt_of_cell? w _ x1)).trans x1
        have hb2 := World.block_lt_of_cell? w _ x0
        have hsz := hb.size
        have R : Hid (r0 rs k = (rs[k]?.getD [])[0]?.getD 0 ∧ r1 rs k = (rs[k]?.getD [])[1]?.getD 0) := ⟨rfl, rfl⟩
        generalize (rs[k]?.getD [])[0]?.getD 0 = x at y1 R
        generalize (rs[k]?.getD [])[1]?.getD 0 = y at y2 R
        have HB : Hid (∀ j, j < (nx + 7) / 8 * 8 → bitAt ys j = anyHit rs f nx k j) := hbits
        have e1 : (k : Int) < n1 := by omega
        have e2 : (0 : Int) < (ni : Int) := by omega
        have e3 : (1 : Int) < (ni : Int) := by omega
        clear hc hI g0 x0 x1 hbits hr
        by_cases hge : (nx : Int) ≤ x
        · go_wp2_with fail
          go_ret
          exact ⟨_, rfl, k, hk, fun _ => by rw [R.out.1]; exact hge, _, hs, HB.out, hb⟩
        · have e4 : IntKind.i64.wrap ((nx : Int) - 1) = (nx : Int) - 1 := by rw [IntKind.wrap_i64]; omega
          have e5 : 0 < ni := by omega
          have e6 : 1 < ni := by omega
          obtain ⟨M, L, hM, hL, HM, m1, m2, m3⟩ : ∃ M L : Int, (if x < f then f else x) = M ∧ (if (nx : Int) - 1 < y then (nx : Int) - 1 else y) = L ∧ Hid (max x f = M ∧ min y ((nx : Int) - 1) = L) ∧ 0 ≤ M ∧ M ≤ 9223372036854775800 ∧ L ≤ (nx : Int) - 1 := by
            refine ⟨_, _, rfl, rfl, ⟨?_, ?_⟩, ?_, ?_, ?_⟩
            all_goals split <;> omega
          go_wp2_with fail
          go_region_held3 (fun w' => w'.cell? ⟨b2, o2, none⟩ = some (.int .i64 x) ∧ w'.cell? ⟨b2, o2 + 1, none⟩ = some (.int .i64 y)) ((first | (obtain ⟨-, -, -, hgr⟩ := id hT; refine ⟨hgr.cell ?_ ?_, hgr.cell ?_ ?_⟩ <;> first | (simp; omega) | simp [*]) | go_keep)) ((go_at_call 37; refine (run_any w.heap.size ((nx + 7) / 8) ys M L _ hs.drew (by omega) (by omega) (by omega) (by omega)).mono ?_; rintro e w1 ⟨rfl, hT⟩))
          all_goals
            go_wp2_with fail
            all_goals
              go_roundw
              case rel => exact ⟨k + 1, by omega, by go_num, Sofar.next hb.drew (Nat.le_refl _) HB.out (by rw [R.out.1]; exact HM.out.1) (by rw [R.out.2]; exact HM.out.2) hT⟩
              case measure => simp [intOf]; omega
    · go_wp2_with fail
      go_ret
      exact ⟨_, rfl, k, hk, fun h => by omega, hso⟩

end Go.Proofs.Qxb6601749a
