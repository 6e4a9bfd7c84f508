/-
  The law at a bitmap (runs nil).
-/
import Derived.Test.Qxb6601749aSweep
namespace Go.Proofs.Qxb6601749a
open Go.RowKit

set_option maxHeartbeats 1000000 in
set_option maxRecDepth 100000 in
theorem law_nil (a0 : Option Addr) (n0 c0 : Nat) (zs : List Int) (c1 : Nat) (F nx m : Nat) (w : World) (hI : Ints .u8 w a0 n0 zs) (hzb : ∀ v ∈ zs, isByte v) (hn0 : n0 ≤ 1048576)
    (hF : F ≤ 9223372036854775800) (hnx : nx ≤ 65536) (hm : (nx + 7) / 8 = m) :
    Calls Try.prog 8 #[.slice a0 n0 c0, .slice none 0 c1, .int .i64 F, .int .i64 nx] w fun e w' => e = .returned (.bool true) ∧ Below w.heap.size w w' := by
  have hnil := fun (w : World) (a : Option Addr) (n c n' c' : Nat) => Lib.run_eql_slice_nil (P := Try.prog) w 34 43 a n c n' c' Try.underlying34
  have hm1 : nx ≤ m * 8 := by omega
  have hm2 : m * 8 ≤ nx + 7 := by omega
  have h1 : Runs w none 0 [] := ⟨rfl, Or.inl rfl⟩
  have c36 : ∀ w : World, Calls Try.prog 36 #[.int .i64 nx] w fun e w' => e = .returned (.slice (some ⟨w.heap.size, 0, none⟩) m m) ∧ SetIs w' w.heap.size m (List.replicate m 0) ∧ Below w.heap.size w w' := by
    intro w
    have := newSet_any nx w hnx
    rw [hm] at this
    exact this
  clear hm
  go_enter Try.func8, Try.ntmps8
  go_wp2_with fail
  refine (zz23_any _ _ _ _ _ _ [] _ _ _ h1).mono ?_
  rintro e w' ⟨⟨r, rfl⟩, hw⟩
  subst w'
  cases r
  · go_wp2_with fail
    go_ret
    exact ⟨rfl, Below.refl _ _⟩
  go_wp2_with fail
  refine (fits_any _ _ _ _ _ _ [] _ hn0 (by omega) h1).mono ?_
  rintro e w' ⟨⟨r, rfl, -⟩, hw⟩
  subst w'
  cases r
  · go_wp2_with fail
    go_ret
    exact ⟨rfl, Below.refl _ _⟩
  go_wp2_with fail
  refine (form_any _ _ _ [] _ (by omega) h1).mono ?_
  rintro e y0 ⟨⟨r, rfl, -⟩, hB0⟩
  cases r
  · go_wp2_with fail
    go_ret
    exact ⟨rfl, hB0⟩
  go_wp2_with fail
  refine (cloneBytes_any a0 n0 c0 zs _ hn0 (hI.below hB0)).mono ?_
  rintro e y1 ⟨b0, d0, rfl, hI1, hs1, -⟩
  have hB1 := hB0.trans (hs1.mono hB0.size)
  go_wp2_with fail
  refine (cloneRuns_any none 0 c1 [] _ (by omega) ⟨rfl, Or.inl rfl⟩ (Short.zero _)).mono ?_
  rintro e y2 ⟨b1, d1, rfl, -, hs2, hcp⟩
  have hB2 := hB1.trans (hs2.mono hB1.size)
  replace hI1 := hI1.below hs2
  obtain ⟨rfl, rfl⟩ : b1 = none ∧ d1 = 0 := by
    rcases hcp with ⟨_, h, h'⟩ | ⟨h, _⟩
    · exact ⟨h, h'⟩
    · simp at h
  clear hcp
  go_wp2_with fail
  refine (packed_any _ _ _ _ _ _ _).mono ?_
  rintro e y3 ⟨rfl, hy3⟩
  have hs3 : Below y2.heap.size y2 y3 := by rw [hy3]; exact (Below.refl _ _).alloc (Nat.le_refl _) _
  have hB3 := hB2.trans (hs3.mono hB2.size)
  have q0 : y3.cell? ⟨y2.heap.size, 0, none⟩ = some (.slice b0 n0 d0) := by rw [hy3]; simp
  have q1 : y3.cell? ⟨y2.heap.size, 1, none⟩ = some (.slice none 0 0) := by rw [hy3]; simp
  replace hI1 := hI1.below hs3
  clear hy3
  go_wp2_with fail
  refine (within_bitmap_m _ b0 n0 d0 zs 0 F nx m _ q0 q1 hF hnx hm1 hm2 hI1 hzb (c36 _)).mono ?_
  rintro e y4 ⟨g, ys, rfl, hset, hs4, hbits⟩
  have hB4 := hB3.trans (hs4.mono hB3.size)
  replace hI1 := hI1.below hs4
  clear c36 h1 hs1 hs2 hs3 hs4 hB0 hB1 hB2 hB3 q0 q1 hI
  have HB : Hid (∀ j, j < m * 8 → bitAt ys j = (decide (F ≤ j ∧ j < nx) && (decide (j / 8 < n0) && bitAt zs j))) := hbits
  clear hbits
  go_wp2_with fail
  go_loop [13] (fun j => ∃ k : Nat, k ≤ m * 8 ∧ j = .int .i64 k) (fun j => m * 8 - (intOf j).toNat)
  case atStart => exact ⟨0, Nat.zero_le _, rfl⟩
  case round =>
    obtain ⟨j, hj, rfl⟩ := hrel
    by_cases hlt : j < m * 8
    · have s0 := hset.cell (j / 8) (by omega)
      have e1 : (0 : Int) ≤ (j : Int) / 8 := by omega
      have e2 : ((j : Int) / 8).toNat = j / 8 := by omega
      have e3 : (j : Int) / 8 < m := by omega
      have hb := HB.out j hlt
      have tv := bit_test (byte_get hset.2 (j / 8)) (j % 8)
      have tu := bit_test (byte_get hzb (j / 8)) (j % 8)
      rw [show bit (ys[j / 8]?.getD 0) (j % 8) = bitAt ys j from rfl, hb] at tv
      rw [show bit (zs[j / 8]?.getD 0) (j % 8) = bitAt zs j from rfl] at tu
      clear hb
      generalize ys[j / 8]?.getD 0 = v at s0 tv
      by_cases hin : F ≤ j ∧ j < nx
      · by_cases hz : j / 8 < n0
        · rw [decide_eq_true hin, decide_eq_true hz, Bool.true_and, Bool.true_and] at tv
          obtain ⟨i1, i2⟩ := hin
          rcases hI1.2 with h0 | ⟨bb, oo, rfl, hc⟩
          · omega
          have z0 := hc (j / 8) hz
          generalize zs[j / 8]?.getD 0 = u at z0 tu
          generalize bitAt zs j = B at tu tv
          have e4 : (j : Int) / 8 < n0 := by omega
          clear hc hI1 hset hz
          go_wp2_with fail
          exact ⟨⟨j + 1, by omega, by go_num⟩, by simp [intOf]; omega⟩
        · rw [decide_eq_false hz, Bool.false_and, Bool.and_false] at tv
          obtain ⟨i1, i2⟩ := hin
          have e4 : ¬ (j : Int) / 8 < n0 := by omega
          clear tu hI1 hset hz
          go_wp2_with fail
          exact ⟨⟨j + 1, by omega, by go_num⟩, by simp [intOf]; omega⟩
      · rw [decide_eq_false hin, Bool.false_and] at tv
        clear tu hI1 hset
        rcases (show j < F ∨ (F ≤ j ∧ nx ≤ j) from by omega) with i1 | ⟨i1, i2⟩
        all_goals
          clear hin
          go_wp2_with fail
          exact ⟨⟨j + 1, by omega, by go_num⟩, by simp [intOf]; omega⟩
    · go_wp2_with fail
      go_ret
      exact ⟨rfl, hB4⟩

end Go.Proofs.Qxb6601749a
