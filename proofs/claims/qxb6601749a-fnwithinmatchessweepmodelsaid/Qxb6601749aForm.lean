/-
  packedBytesFitB1, runsFormB1: what their 'true' says.
-/
import Derived.Test.Qxb6601749aMem
import Derived.Deep.QuietTactic
import Derived.BigQuiet
import Derived.WalkSmall
namespace Go.Proofs.Qxb6601749a
open Go.RowKit

/-- The first and the last segment of run i. -/
def r0 (rs : List (List Int)) (i : Nat) : Int := (rs[i]?.getD [])[0]?.getD 0
def r1 (rs : List (List Int)) (i : Nat) : Int := (rs[i]?.getD [])[1]?.getD 0

theorem two_cells {w : World} {a : Option Addr} {n : Nat} {zs : List Int} (h : Ints .i64 w a n zs) (hn : 2 ≤ n) :
    ∃ b o, a = some ⟨b, o, none⟩ ∧ w.cell? ⟨b, o, none⟩ = some (.int .i64 (zs[0]?.getD 0)) ∧ w.cell? ⟨b, o + 1, none⟩ = some (.int .i64 (zs[1]?.getD 0)) := by
  rcases h.2 with h0 | ⟨b, o, ha, hc⟩
  · omega
  · exact ⟨b, o, ha, by simpa using hc 0 (by omega), hc 1 (by omega)⟩

/-- No run is longer than 1<<17. -/
def Short (rs : List (List Int)) (k : Nat) : Prop := ∀ i, i < k → (rs[i]?.getD []).length ≤ 131072
def FitsSays (rs : List (List Int)) (n : Nat) (e : Ending) : Prop := ∃ r : Bool, e = .returned (.bool r) ∧ (r = true → Short rs n)
theorem FitsSays.no {rs : List (List Int)} {n : Nat} : FitsSays rs n (.returned (.bool false)) := ⟨false, rfl, fun h => by cases h⟩
theorem FitsSays.yes {rs : List (List Int)} {n : Nat} (h : Short rs n) : FitsSays rs n (.returned (.bool true)) := ⟨true, rfl, fun _ => h⟩
theorem Short.zero (rs : List (List Int)) : Short rs 0 := fun i hi => by omega
theorem Short.next {rs : List (List Int)} {k : Nat} (h : Short rs k) (hk : (rs[k]?.getD []).length ≤ 131072) : Short rs (k + 1) := by
  intro i hi
  by_cases e : i = k
  · subst e; exact hk
  · exact h i (by omega)

set_option maxHeartbeats 1000000 in
theorem fits_any (a0 : Option Addr) (n0 c0 : Nat) (a1 : Option Addr) (n1 c1 : Nat) (rs : List (List Int)) (w : World) (hn0 : n0 ≤ 1048576) (hn1 : n1 ≤ 65536) (h1 : Runs w a1 n1 rs) :
    Calls Try.prog 24 #[.slice a0 n0 c0, .slice a1 n1 c1] w fun e w' => FitsSays rs n1 e ∧ w' = w := by
  rcases h1.parts with ⟨hn, b, off, hc⟩ | ⟨b, off, rfl, hc⟩
  all_goals
    clear h1
    go_enter Try.func24, Try.ntmps24
    go_wp2
    all_goals first
      | (go_ret; exact ⟨FitsSays.no, rfl⟩)
      | skip
    go_loop [5, 6] (fun z i => ∃ k : Nat, k ≤ n1 ∧ i = .int .i64 k ∧ Short rs k ∧ ∃ d : Int, z = .int .i64 d) (fun _ i => n1 - (intOf i).toNat)
    case atStart => exact ⟨0, Nat.zero_le _, rfl, Short.zero _, _, rfl⟩
    case round =>
      obtain ⟨k, hk, rfl, hsh, d, rfl⟩ := hrel
      by_cases hlt : k < n1
      · first
          | (exfalso; omega)
          | (obtain ⟨ai, ni, ci, hcell, hI⟩ := hc k hlt
             have hl : Hid ((rs[k]?.getD []).length = ni) := hI.1
             clear hc hI
             go_wp2
             all_goals first
               | (go_ret; exact ⟨FitsSays.no, rfl⟩)
               | (have hle : (ni : Int) ≤ 131072 := by assumption
                  go_round
                  case rel => exact ⟨k + 1, by omega, by go_num, hsh.next (by rw [hl.out]; omega), _, rfl⟩
                  case measure => simp [intOf]; omega))
      · go_wp2
        go_ret
        obtain rfl : k = n1 := by omega
        exact ⟨FitsSays.yes hsh, rfl⟩

/-- The runs up to k have two segments each, and their first segments rise. -/
def Formed (rs : List (List Int)) (k : Nat) : Prop := (∀ i, i < k → 2 ≤ (rs[i]?.getD []).length) ∧ ∀ i, i + 1 < k → r0 rs i ≤ r0 rs (i + 1)
def FormSays (rs : List (List Int)) (n : Nat) (e : Ending) : Prop := ∃ r : Bool, e = .returned (.bool r) ∧ (r = true → Formed rs n)
theorem FormSays.no {rs : List (List Int)} {n : Nat} : FormSays rs n (.returned (.bool false)) := ⟨false, rfl, fun h => by cases h⟩
theorem FormSays.yes {rs : List (List Int)} {n : Nat} (h : Formed rs n) : FormSays rs n (.returned (.bool true)) := ⟨true, rfl, fun _ => h⟩
theorem Formed.zero (rs : List (List Int)) : Formed rs 0 := ⟨fun i hi => by omega, fun i hi => by omega⟩
theorem Formed.next {rs : List (List Int)} {k : Nat} (h : Formed rs k) (h2 : 2 ≤ (rs[k]?.getD []).length) (hle : 0 < k → r0 rs (k - 1) ≤ r0 rs k) : Formed rs (k + 1) := by
  refine ⟨fun i hi => ?_, fun i hi => ?_⟩
  · by_cases e : i = k
    · subst e; exact h2
    · exact h.1 i (by omega)
  · by_cases e : i + 1 = k
    · subst e; exact hle (by omega)
    · exact h.2 i (by omega)

set_option maxHeartbeats 1000000 in
theorem form_any (a1 : Option Addr) (n1 c1 : Nat) (rs : List (List Int)) (w : World) (hn1 : n1 ≤ 65536) (h1 : Runs w a1 n1 rs) :
    Calls Try.prog 25 #[.slice a1 n1 c1] w fun e w' => FormSays rs n1 e ∧ Below w.heap.size w w' := by
  rcases h1.parts with ⟨hn, b, off, hc⟩ | ⟨b, off, rfl, hc⟩
  · obtain rfl : n1 = 0 := by omega
    go_enter Try.func25, Try.ntmps25
    go_wp2
    refine wp_loop_rounds 1 ?_
    rw [rounds_succ]
    go_wp2
    go_ret
    exact ⟨FormSays.yes (Formed.zero _), Below.refl _ _⟩
  · clear h1
    go_enter Try.func25, Try.ntmps25
    go_wp2
    go_loopw [3] (fun i wr => ∃ k : Nat, k ≤ n1 ∧ i = .int .i64 k ∧ Formed rs k ∧ Below w.heap.size w wr) (fun i _ => n1 - (intOf i).toNat)
    case atStart => exact ⟨0, Nat.zero_le _, rfl, Formed.zero _, Below.refl _ _⟩
    case round =>
      obtain ⟨k, hk, rfl, hfm, hb⟩ := hrel
      by_cases hlt : k < n1
      · obtain ⟨ai, ni, ci, hcell, hI⟩ := hc k hlt
        have hl : Hid ((rs[k]?.getD []).length = ni) := hI.1
        have g0 := (hb.cell (p := ⟨b, off + k, none⟩) (World.block_lt_of_cell? w _ hcell)).trans hcell
        have hI' := hI.below (hb.mono (Nat.le_refl _))
        by_cases h2 : ni < 2
        · clear hc hI hI' hcell
          go_wp2
          go_ret
          exact ⟨FormSays.no, hb⟩
        · obtain ⟨b1, o1, rfl, c0, -⟩ := two_cells hI' (by omega)
          by_cases hk0 : 0 < k
          · obtain ⟨aj, nj, cj, hcell', hJ⟩ := hc (k - 1) (by omega)
            have hlj := hfm.1 (k - 1) (by omega)
            rw [hJ.1] at hlj
            have g1 := (hb.cell (p := ⟨b, off + (k - 1), none⟩) (World.block_lt_of_cell? w _ hcell')).trans hcell'
            obtain ⟨b2, o2, rfl, c1, -⟩ := two_cells (hJ.below (hb.mono (Nat.le_refl _))) hlj
            have R0 : Hid (r0 rs (k - 1) = (rs[k - 1]?.getD [])[0]?.getD 0 ∧ r0 rs k = (rs[k]?.getD [])[0]?.getD 0) := ⟨rfl, rfl⟩
            generalize (rs[k - 1]?.getD [])[0]?.getD 0 = x at c1 R0
            generalize (rs[k]?.getD [])[0]?.getD 0 = y at c0 R0
            clear hc hI hI' hcell hJ hcell'
            have e1 : IntKind.i64.wrap ((k : Int) - 1) = (k : Int) - 1 := by rw [IntKind.wrap_i64]; omega
            have e2 : (0 : Int) ≤ (k : Int) - 1 := by omega
            have e3 : (k : Int) - 1 < n1 := by omega
            have e4 : ((k : Int) - 1).toNat = k - 1 := by omega
            have e5 : (k : Int) < n1 := by omega
            have e6 : (0 : Int) < (k : Int) := by omega
            have e7 : (0 : Int) < (ni : Int) := by omega
            have e8 : (0 : Int) < (nj : Int) := by omega
            go_wp2
            go_quiet (fail)
            go_wp2
            · go_ret
              exact ⟨FormSays.no, below_drewN hb _⟩
            · have hxy : x ≤ y := by first | assumption | omega
              go_roundw
              case rel => exact ⟨k + 1, by omega, by go_num, hfm.next (by rw [hl.out]; omega) (fun _ => by rw [R0.out.1, R0.out.2]; exact hxy), below_drewN hb _⟩
              case measure => simp [intOf]; omega
          · have hd : decide ((0 : Int) < (k : Int)) = false := decide_eq_false (by omega)
            clear hc hI hI' hcell
            go_wp2
            go_quiet (fail)
            go_wp2
            go_roundw
            case rel => exact ⟨k + 1, by omega, by go_num, hfm.next (by rw [hl.out]; omega) (fun h => by omega), below_drewN hb _⟩
            case measure => simp [intOf]; omega
      · go_wp2
        go_ret
        obtain rfl : k = n1 := by omega
        exact ⟨FormSays.yes hfm, hb⟩

end Go.Proofs.Qxb6601749a
