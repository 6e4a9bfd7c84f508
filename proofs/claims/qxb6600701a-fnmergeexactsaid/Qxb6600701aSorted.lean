/-
  strictlySorted, sortedVec (whether the dots rise); sameVector (equal vectors).
-/
import Derived.Test.Qxb6600701aPlain
import Derived.Test.Qxb6600701aVec
import Derived.Deep.QuietTactic
import Derived.BigQuiet
namespace Go.Proofs.Qxb6600701a
open Go.RowKit

/-- The call answers whether the dots rise. -/
def SortedSays (ds : List D) (e : Ending) : Prop := ∃ r : Bool, e = .returned (.bool r) ∧ (r = true ↔ Rising ds)
theorem SortedSays.no {ds : List D} (h : ¬ Rising ds) : SortedSays ds (.returned (.bool false)) := ⟨false, rfl, (fun e => by cases e), (fun e => absurd e h)⟩
theorem SortedSays.yes {ds : List D} (h : Rising ds) : SortedSays ds (.returned (.bool true)) := ⟨true, rfl, fun _ => h, fun _ => rfl⟩

/-- The first m steps rise. -/
def Steps (ds : List D) (m : Nat) : Prop := ∀ k, k < m → k + 1 < ds.length → ltA (ds[k]?.getD (ByteArray.empty, 0)).1 (ds[k + 1]?.getD (ByteArray.empty, 0)).1 = true
theorem Steps.zero (ds : List D) : Steps ds 0 := fun k hk => by omega
theorem Steps.next {ds : List D} {m : Nat} (h : Steps ds m) (e : (!Op.bytesLess (ds[m]?.getD (ByteArray.empty, 0)).1.toList (ds[m + 1]?.getD (ByteArray.empty, 0)).1.toList) = false) : Steps ds (m + 1) := by
  intro k hk hl
  by_cases hkm : k = m
  · subst hkm; simpa [ltA] using e
  · exact h k (by omega) hl
theorem Steps.done {ds : List D} {m : Nat} (h : Steps ds m) (hm : ds.length ≤ m + 1) : Rising ds := Rising.of_next fun k hk => h k (by omega) hk
theorem not_rising {ds : List D} {m : Nat} (hm : m + 1 < ds.length) (e : (!Op.bytesLess (ds[m]?.getD (ByteArray.empty, 0)).1.toList (ds[m + 1]?.getD (ByteArray.empty, 0)).1.toList) = true) : ¬ Rising ds := fun h => by
  have := h.lt m (m + 1) (by omega) hm
  simp [ltA] at this
  simp [this] at e

set_option maxHeartbeats 400000 in
theorem strictlySorted_any (a : Option Addr) (n c : Nat) (ds : List D) (w : World) (hm : n ≤ 1048576) (h : Dots w a n ds) :
    Calls Try.prog 10 #[.slice a n c] w fun e w' => SortedSays ds e ∧ Below w.heap.size w w' := by
  have HL : Hid (ds.length = n) := h.1
  rcases h.parts with ⟨hn, b, off, hc⟩ | ⟨b, off, rfl, hc⟩
  all_goals
    clear h
    go_enter Try.func10, Try.ntmps10
    go_wp2
    go_loopw [3] (fun i wr => ∃ m : Nat, m ≤ n ∧ i = .int .i64 ((m : Int) + 1) ∧ Steps ds m ∧ Below w.heap.size w wr) (fun i _ => n + 1 - (intOf i).toNat)
    case atStart => exact ⟨0, Nat.zero_le _, rfl, Steps.zero _, Below.refl _ _⟩
    case round =>
      obtain ⟨k, hk, rfl, hst, hb⟩ := hrel
      by_cases hlt : k + 1 < n
      · first
          | (exfalso; omega)
          | (have g0 := (hc k (by omega)).1
             have g1 := (hc (k + 1) (by omega)).1
             have c0 := (hb.cell (p := ⟨b, off + k * 2, none⟩) (World.block_lt_of_cell? w _ g0)).trans g0
             have c1 := (hb.cell (p := ⟨b, off + (k + 1) * 2, none⟩) (World.block_lt_of_cell? w _ g1)).trans g1
             have e1 : ((k : Int) + 1 - 1) = k := by omega
             have e2 : ((k : Int) + 1).toNat = k + 1 := by omega
             have e3 : (k : Int) + 1 < n := by omega
             have e4 : (k : Int) < n := by omega
             have e5 : IntKind.i64.wrap ((k : Int) + 1 - 1) = k := by rw [IntKind.wrap_i64]; omega
             clear g0 g1 hc
             go_wp2
             go_region
             go_wp2
             · have e : (!Op.bytesLess (ds[k]?.getD (ByteArray.empty, 0)).1.toList (ds[k + 1]?.getD (ByteArray.empty, 0)).1.toList) = true := by assumption
               go_ret
               exact ⟨SortedSays.no (not_rising (by have := HL.out; omega) e), hb.drew⟩
             · have e : (!Op.bytesLess (ds[k]?.getD (ByteArray.empty, 0)).1.toList (ds[k + 1]?.getD (ByteArray.empty, 0)).1.toList) = false := by assumption
               go_roundw
               case rel => exact ⟨k + 1, by omega, by go_num, hst.next e, hb.drew⟩
               case measure => simp [intOf]; omega)
      · go_wp2
        go_ret
        exact ⟨SortedSays.yes (hst.done (by have := HL.out; omega)), hb⟩

set_option maxHeartbeats 400000 in
theorem sortedVec_any (a : Option Addr) (n c : Nat) (ds : List D) (w : World) (hm : n ≤ 1048576) (h : Dots w a n ds) :
    Calls Try.prog 13 #[.slice a n c] w fun e w' => SortedSays ds e ∧ Below w.heap.size w w' := by
  have HL : Hid (ds.length = n) := h.1
  rcases h.parts with ⟨hn, b, off, hc⟩ | ⟨b, off, rfl, hc⟩
  all_goals
    clear h
    go_enter Try.func13, Try.ntmps13
    go_wp2
    go_loopw [3] (fun i wr => ∃ m : Nat, m ≤ n ∧ i = .int .i64 ((m : Int) + 1) ∧ Steps ds m ∧ Below w.heap.size w wr) (fun i _ => n + 1 - (intOf i).toNat)
    case atStart => exact ⟨0, Nat.zero_le _, rfl, Steps.zero _, Below.refl _ _⟩
    case round =>
      obtain ⟨k, hk, rfl, hst, hb⟩ := hrel
      by_cases hlt : k + 1 < n
      · first
          | (exfalso; omega)
          | (have g0 := (hc k (by omega)).1
             have g1 := (hc (k + 1) (by omega)).1
             have c0 := (hb.cell (p := ⟨b, off + k * 2, none⟩) (World.block_lt_of_cell? w _ g0)).trans g0
             have c1 := (hb.cell (p := ⟨b, off + (k + 1) * 2, none⟩) (World.block_lt_of_cell? w _ g1)).trans g1
             have e1 : ((k : Int) + 1 - 1) = k := by omega
             have e2 : ((k : Int) + 1).toNat = k + 1 := by omega
             have e3 : (k : Int) + 1 < n := by omega
             have e4 : (k : Int) < n := by omega
             have e5 : IntKind.i64.wrap ((k : Int) + 1 - 1) = k := by rw [IntKind.wrap_i64]; omega
             clear g0 g1 hc
             go_wp2
             go_region
             go_wp2
             · have e : (!Op.bytesLess (ds[k]?.getD (ByteArray.empty, 0)).1.toList (ds[k + 1]?.getD (ByteArray.empty, 0)).1.toList) = true := by assumption
               go_ret
               exact ⟨SortedSays.no (not_rising (by have := HL.out; omega) e), hb.drew⟩
             · have e : (!Op.bytesLess (ds[k]?.getD (ByteArray.empty, 0)).1.toList (ds[k + 1]?.getD (ByteArray.empty, 0)).1.toList) = false := by assumption
               go_roundw
               case rel => exact ⟨k + 1, by omega, by go_num, hst.next e, hb.drew⟩
               case measure => simp [intOf]; omega)
      · go_wp2
        go_ret
        exact ⟨SortedSays.yes (hst.done (by have := HL.out; omega)), hb⟩

set_option maxHeartbeats 400000 in
/-- Two vectors of the same dots. -/
theorem same_any (a : Option Addr) (n c : Nat) (a' : Option Addr) (n' c' : Nat) (ds : List D) (w : World) (hm : n ≤ 1048576) (h : Dots w a n ds) (h' : Dots w a' n' ds) :
    Calls Try.prog 19 #[.slice a n c, .slice a' n' c'] w fun e w' => e = .returned (.bool true) ∧ Below w.heap.size w w' := by
  obtain rfl : n = n' := by have := h.1; have := h'.1; omega
  rcases h.parts with ⟨hn, b, off, hc⟩ | ⟨b, off, rfl, hc⟩
  · clear h h'
    go_enter Try.func19, Try.ntmps19
    go_wp2
    go_loopw [5] (fun i wr => ∃ m : Nat, m ≤ n ∧ i = .int .i64 m ∧ Below w.heap.size w wr) (fun i _ => n - (intOf i).toNat)
    case atStart => exact ⟨0, Nat.zero_le _, rfl, Below.refl _ _⟩
    case round =>
      obtain ⟨k, hk, rfl, hb⟩ := hrel
      go_wp2
      go_ret
      exact ⟨rfl, hb⟩
  · rcases h'.parts with ⟨hn, b', off', hc'⟩ | ⟨b', off', rfl, hc'⟩
    · clear h h'
      go_enter Try.func19, Try.ntmps19
      go_wp2
      go_loopw [5] (fun i wr => ∃ m : Nat, m ≤ n ∧ i = .int .i64 m ∧ Below w.heap.size w wr) (fun i _ => n - (intOf i).toNat)
      case atStart => exact ⟨0, Nat.zero_le _, rfl, Below.refl _ _⟩
      case round =>
        obtain ⟨k, hk, rfl, hb⟩ := hrel
        go_wp2
        go_ret
        exact ⟨rfl, hb⟩
    · clear h h'
      go_enter Try.func19, Try.ntmps19
      go_wp2
      go_loopw [5] (fun i wr => ∃ m : Nat, m ≤ n ∧ i = .int .i64 m ∧ Below w.heap.size w wr) (fun i _ => n - (intOf i).toNat)
      case atStart => exact ⟨0, Nat.zero_le _, rfl, Below.refl _ _⟩
      case round =>
        obtain ⟨k, hk, rfl, hb⟩ := hrel
        by_cases hlt : k < n
        · obtain ⟨s, z, c0, c1, d0, d1⟩ : ∃ (s : ByteArray) (z : Int), wr.cell? ⟨b, off + k * 2, none⟩ = some (.string s) ∧ wr.cell? ⟨b, off + k * 2 + 1, none⟩ = some (.int .u64 z) ∧ wr.cell? ⟨b', off' + k * 2, none⟩ = some (.string s) ∧ wr.cell? ⟨b', off' + k * 2 + 1, none⟩ = some (.int .u64 z) := by
            have g := hc k hlt
            have g' := hc' k hlt
            exact ⟨_, _, (hb.cell (p := ⟨b, off + k * 2, none⟩) (World.block_lt_of_cell? w _ g.1)).trans g.1, (hb.cell (p := ⟨b, off + k * 2 + 1, none⟩) (World.block_lt_of_cell? w _ g.2)).trans g.2, (hb.cell (p := ⟨b', off' + k * 2, none⟩) (World.block_lt_of_cell? w _ g'.1)).trans g'.1, (hb.cell (p := ⟨b', off' + k * 2 + 1, none⟩) (World.block_lt_of_cell? w _ g'.2)).trans g'.2⟩
          have hd : (!(s.toList == s.toList)) = false := by simp
          have e3 : (k : Int) < n := by omega
          clear hc hc'
          go_wp2
          go_quiet (fail)
          go_wp2
          go_roundw
          case rel => exact ⟨k + 1, by omega, by go_num, below_drewN hb _⟩
          case measure => simp [intOf]; omega
        · go_wp2
          go_ret
          exact ⟨rfl, hb⟩

end Go.Proofs.Qxb6600701a
