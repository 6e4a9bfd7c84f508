/-
  The law at a list of runs (not nil).
-/
import Derived.Test.Qxb6601749aSweep
namespace Go.Proofs.Qxb6601749a
open Go.RowKit

set_option maxHeartbeats 2000000 in
set_option maxRecDepth 100000 in
theorem law_runs (a0 : Option Addr) (n0 c0 : Nat) (zs : List Int) (ad : Addr) (n1 c1 : Nat) (rs : List (List Int)) (f : Int) (nx m : Nat) (w : World) (hI : Ints .u8 w a0 n0 zs) (h1 : Runs w (some ad) n1 rs) (hn0 : n0 ≤ 1048576) (hn1 : n1 ≤ 65536)
    (hf0 : 0 ≤ f) (hf1 : f ≤ 9223372036854775800) (hnx : nx ≤ 65536) (hm : (nx + 7) / 8 = m) :
    Calls Try.prog 8 #[.slice a0 n0 c0, .slice (some ad) n1 c1, .int .i64 f, .int .i64 nx] w fun e w' => e = .returned (.bool true) ∧ Below w.heap.size w w' := by
  have hnil := fun (w : World) (a : Option Addr) (n c n' c' : Nat) => Lib.run_eql_slice_nil (P := Try.prog) w 34 43 a n c n' c' Try.underlying34
  have hm1 : nx ≤ m * 8 := by omega
  have hm2 : m * 8 ≤ nx + 7 := by omega
  have HM : Hid ((nx + 7) / 8 = m) := hm
  clear hm
  go_enter Try.func8, Try.ntmps8
  go_wp2_with fail
  refine (zz23_any _ _ _ _ _ _ rs _ _ _ h1).mono ?_
  rintro e w' ⟨⟨r, rfl⟩, hw⟩
  subst w'
  cases r
  · go_wp2_with fail
    go_ret
    exact ⟨rfl, Below.refl _ _⟩
  go_wp2_with fail
  refine (fits_any _ _ _ _ _ _ rs _ hn0 hn1 h1).mono ?_
  rintro e w' ⟨⟨r, rfl, hsh⟩, hw⟩
  subst w'
  cases r
  · clear hsh
    go_wp2_with fail
    go_ret
    exact ⟨rfl, Below.refl _ _⟩
  replace hsh := hsh rfl
  go_wp2_with fail
  refine (form_any _ _ _ rs _ hn1 h1).mono ?_
  rintro e y0 ⟨⟨r, rfl, hfm⟩, hB0⟩
  cases r
  · clear hfm
    go_wp2_with fail
    go_ret
    exact ⟨rfl, hB0⟩
  replace hfm := hfm rfl
  go_wp2_with fail
  refine (cloneBytes_any a0 n0 c0 zs _ hn0 (hI.below hB0)).mono ?_
  rintro e y1 ⟨b0, d0, rfl, -, hs1, -⟩
  have hB1 := hB0.trans (hs1.mono hB0.size)
  go_wp2_with fail
  refine (cloneRuns_any (some ad) n1 c1 rs _ hn1 (h1.below hB1) hsh).mono ?_
  rintro e y2 ⟨b1, d1, rfl, hR, hs2, hcp⟩
  have hB2 := hB1.trans (hs2.mono hB1.size)
  obtain ⟨bb, hbb⟩ : ∃ bb : Nat, b1 = some ⟨bb, 0, none⟩ := by
    rcases hcp with ⟨h, _⟩ | ⟨_, h⟩
    · simp at h
    · exact ⟨_, h⟩
  subst b1
  clear hcp
  go_wp2_with fail
  refine (packed_any _ _ _ _ _ _ _).mono ?_
  rintro e y3 ⟨rfl, hy3⟩
  have hs3 : Below y2.heap.size y2 y3 := by rw [hy3]; exact (Below.refl _ _).alloc (Nat.le_refl _) _
  have hB3 := hB2.trans (hs3.mono hB2.size)
  have q0 : y3.cell? ⟨y2.heap.size, 0, none⟩ = some (.slice b0 n0 d0) := by rw [hy3]; simp
  have q1 : y3.cell? ⟨y2.heap.size, 1, none⟩ = some (.slice (some ⟨bb, 0, none⟩) n1 d1) := by rw [hy3]; simp
  replace hR := hR.below hs3
  clear hy3
  have cW := within_runs _ b0 n0 d0 bb 0 n1 d1 rs f nx _ q0 q1 hn1 hf0 hf1 hnx hR hfm
  rw [HM.out] at cW
  go_wp2_with fail
  refine cW.mono ?_
  rintro e y4 ⟨g, rfl, k, hk, hkn, ys, hset, hbits, hs4⟩
  have hB4 := hB3.trans (hs4.mono hB3.size)
  replace hR := hR.below hs4
  clear cW h1 hs1 hs2 hs3 hs4 hB0 hB1 hB2 hB3 q0 q1 hI hsh
  have HB : Hid (k ≤ n1 ∧ (k < n1 → (nx : Int) ≤ r0 rs k) ∧ ∀ j, j < m * 8 → bitAt ys j = anyHit rs f nx k j) := ⟨hk, hkn, hbits⟩
  have HF : Hid (Formed rs n1) := hfm
  have hcs : Hid (∀ i, i < n1 → ∃ ai ni ci, y4.cell? ⟨bb, 0 + i, none⟩ = some (.slice ai ni ci) ∧ Ints .i64 y4 ai ni (rs[i]?.getD [])) := by
    rcases hR.2 with h | ⟨b, o, he, hc⟩
    · intro i hi; omega
    · simp only [Option.some.injEq, Addr.mk.injEq, and_true] at he
      obtain ⟨rfl, rfl⟩ := he
      exact hc
  clear hbits hk hkn hR hfm
  go_wp2_with fail
  go_loop [10, 11, 12, 13] (fun i h e j => ∃ (i' j' : Nat) (h' : Bool) (e' : Int), i' ≤ n1 ∧ j' ≤ m * 8 ∧ i = .int .i64 i' ∧ h = .bool h' ∧ e = .int .i64 e' ∧ j = .int .i64 j' ∧ Swept rs j' i' h' e') (fun _ _ _ j => m * 8 - (intOf j).toNat)
  case atStart => exact ⟨0, 0, false, 0, Nat.zero_le _, Nat.zero_le _, rfl, rfl, rfl, rfl, Swept.zero _ _ _⟩
  case round =>
    obtain ⟨i, j, hv, ev, hi, hj, rfl, rfl, rfl, rfl, hsw⟩ := hrel
    by_cases hlt : j < m * 8
    · have s0 := hset.cell (j / 8) (by omega)
      have e1 : (0 : Int) ≤ (j : Int) / 8 := by omega
      have e2 : ((j : Int) / 8).toNat = j / 8 := by omega
      have e3 : (j : Int) / 8 < m := by omega
      have hb := HB.out.2.2 j hlt
      have tv := bit_test (byte_get hset.2 (j / 8)) (j % 8)
      rw [show bit (ys[j / 8]?.getD 0) (j % 8) = bitAt ys j from rfl, hb] at tv
      clear hb
      generalize ys[j / 8]?.getD 0 = v at s0 tv
      by_cases hin : f ≤ (j : Int) ∧ (j : Int) < nx
      · obtain ⟨i1, i2⟩ := hin
        have TV : Hid ((bits .and .u8 (v / 2 ^ (7 - j % 8)) 1 == 1) = anyHit rs f nx k j) := tv
        clear tv hset
        go_wp2_with fail
        go_loop [10, 11, 12] (fun i h e => ∃ (i' : Nat) (h' : Bool) (e' : Int), i' ≤ n1 ∧ i = .int .i64 i' ∧ h = .bool h' ∧ e = .int .i64 e' ∧ Swept rs j i' h' e') (fun i _ _ => n1 - (intOf i).toNat)
        case atStart => exact ⟨i, hv, ev, hi, rfl, rfl, rfl, hsw⟩
        case round =>
          clear hsw hi
          obtain ⟨i, hv, ev, hi, rfl, rfl, rfl, hsw⟩ := hrel
          by_cases hlt2 : i < n1
          · obtain ⟨ai, ni, ci, g0, hIi⟩ := hcs.out i hlt2
            have hn2 := HF.out.1 i hlt2
            rw [hIi.1] at hn2
            obtain ⟨b2, o2, rfl, x0, x1⟩ := two_cells hIi hn2
            rw [Nat.zero_add] at g0
            have R : Hid (r0 rs i = (rs[i]?.getD [])[0]?.getD 0 ∧ r1 rs i = (rs[i]?.getD [])[1]?.getD 0) := ⟨rfl, rfl⟩
            generalize (rs[i]?.getD [])[0]?.getD 0 = x at x0 R
            generalize (rs[i]?.getD [])[1]?.getD 0 = y at x1 R
            have e4 : (i : Int) < n1 := by omega
            have e5 : (0 : Int) < (ni : Int) := by omega
            have e6 : (1 : Int) < (ni : Int) := by omega
            have e7 : 0 < ni := by omega
            have e8 : 1 < ni := by omega
            clear hIi
            by_cases hxj : x ≤ (j : Int)
            · cases hv
              · go_wp2_with fail
                exact ⟨⟨i + 1, true, y, by omega, by go_num, rfl, rfl, hsw.take R.out.1 R.out.2 hxj (Or.inl rfl)⟩, by simp [intOf]; omega⟩
              · by_cases hy : ev < y
                · go_wp2_with fail
                  exact ⟨⟨i + 1, true, y, by omega, by go_num, rfl, rfl, hsw.take R.out.1 R.out.2 hxj (Or.inr hy)⟩, by simp [intOf]; omega⟩
                · go_wp2_with fail
                  exact ⟨⟨i + 1, true, ev, by omega, by go_num, rfl, rfl, hsw.pass R.out.1 R.out.2 hxj (by omega)⟩, by simp [intOf]; omega⟩
            · have hS := sweep_in (f := f) (nx := nx) HF.out HB.out.1 HB.out.2.1 i1 i2 hsw hi (fun _ => by rw [R.out.1]; omega)
              have tv := TV.out
              rw [hS] at tv
              clear hS
              cases hv
              · rw [Bool.false_and] at tv
                go_wp2_with fail
                exact ⟨⟨i, j + 1, _, ev, hi, by omega, rfl, rfl, rfl, by go_num, hsw.later⟩, by simp [intOf]; omega⟩
              · rw [Bool.true_and] at tv
                by_cases hje : (j : Int) ≤ ev
                · rw [decide_eq_true hje] at tv
                  go_wp2_with fail
                  exact ⟨⟨i, j + 1, _, ev, hi, by omega, rfl, rfl, rfl, by go_num, hsw.later⟩, by simp [intOf]; omega⟩
                · rw [decide_eq_false hje] at tv
                  go_wp2_with fail
                  exact ⟨⟨i, j + 1, _, ev, hi, by omega, rfl, rfl, rfl, by go_num, hsw.later⟩, by simp [intOf]; omega⟩
          · have hS := sweep_in (f := f) (nx := nx) HF.out HB.out.1 HB.out.2.1 i1 i2 hsw hi (fun h => by omega)
            have tv := TV.out
            rw [hS] at tv
            clear hS
            cases hv
            · rw [Bool.false_and] at tv
              go_wp2_with fail
              exact ⟨⟨i, j + 1, _, ev, hi, by omega, rfl, rfl, rfl, by go_num, hsw.later⟩, by simp [intOf]; omega⟩
            · rw [Bool.true_and] at tv
              by_cases hje : (j : Int) ≤ ev
              · rw [decide_eq_true hje] at tv
                go_wp2_with fail
                exact ⟨⟨i, j + 1, _, ev, hi, by omega, rfl, rfl, rfl, by go_num, hsw.later⟩, by simp [intOf]; omega⟩
              · rw [decide_eq_false hje] at tv
                go_wp2_with fail
                exact ⟨⟨i, j + 1, _, ev, hi, by omega, rfl, rfl, rfl, by go_num, hsw.later⟩, by simp [intOf]; omega⟩
      · rw [anyHit_out hin] at tv
        clear hset
        rcases (show (j : Int) < f ∨ (f ≤ (j : Int) ∧ (nx : Int) ≤ (j : Int)) from by omega) with i1 | ⟨i1, i2⟩
        all_goals
          clear hin
          go_wp2_with fail
          exact ⟨⟨i, j + 1, _, ev, hi, by omega, rfl, rfl, rfl, by go_num, hsw.later⟩, by simp [intOf]; omega⟩
    · go_wp2_with fail
      go_ret
      exact ⟨rfl, hB4⟩

end Go.Proofs.Qxb6601749a
