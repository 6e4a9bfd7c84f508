/-
  (Vector).Counter computes 'cnt': the counter of the first dot of that actor, 0 where there is none.
-/
import Derived.Test.Qxb6600701aSizes
namespace Go.Proofs.Qxb6600701a
open Go.RowKit

def cnt (s : ByteArray) : List (ByteArray × Int) → Int
  | [] => 0
  | d :: ds => if (d.1.toList == s.toList) = true then d.2 else cnt s ds

theorem cnt_end {s : ByteArray} {ds : List (ByteArray × Int)} {k : Nat} (h : cnt s (ds.drop k) = cnt s ds) (hk : ds.length ≤ k) : 0 = cnt s ds := by
  rw [← h, List.drop_eq_nil_of_le hk]; rfl

theorem drop_dots (ds : List (ByteArray × Int)) (k : Nat) (hk : k < ds.length) : ds.drop k = ds[k]?.getD (ByteArray.empty, 0) :: ds.drop (k + 1) := by
  rw [List.drop_eq_getElem_cons hk]; simp [List.getElem?_eq_getElem hk]

theorem cnt_hit {s : ByteArray} {ds : List (ByteArray × Int)} {k : Nat} (h : cnt s (ds.drop k) = cnt s ds) (hk : k < ds.length) (e : ((ds[k]?.getD (ByteArray.empty, 0)).1.toList == s.toList) = true) : (ds[k]?.getD (ByteArray.empty, 0)).2 = cnt s ds := by
  rw [← h, drop_dots ds k hk, cnt, if_pos e]

theorem cnt_miss {s : ByteArray} {ds : List (ByteArray × Int)} {k : Nat} (h : cnt s (ds.drop k) = cnt s ds) (hk : k < ds.length) (e : ((ds[k]?.getD (ByteArray.empty, 0)).1.toList == s.toList) = false) : cnt s (ds.drop (k + 1)) = cnt s ds := by
  rw [← h, drop_dots ds k hk, cnt, if_neg (by simp [e])]

theorem ret_int {k : IntKind} {a b : Int} (h : a = b) : Ending.returned (.int k a) = .returned (.int k b) := by rw [h]

set_option maxHeartbeats 400000 in
theorem counter_any (a : Option Addr) (n c : Nat) (ds : List (ByteArray × Int)) (s : ByteArray) (w : World) (hm : n ≤ 9223372036854775807) (h : Dots w a n ds) :
    Calls Try.prog 21 #[.slice a n c, .string s] w fun e w' => e = .returned (.int .u64 (cnt s ds)) ∧ Below w.heap.size w w' := by
  have HL : Hid (ds.length = n) := h.1
  rcases h.parts with ⟨hn, b, off, hc⟩ | ⟨b, off, rfl, hc⟩
  all_goals
    clear h
    go_enter Try.func21, Try.ntmps21
    go_wp2
    go_loopw [9] (fun i wr => ∃ k : Nat, k ≤ n ∧ i = .int .i64 k ∧ Hid (cnt s (ds.drop k) = cnt s ds) ∧ Below w.heap.size w wr) (fun i _ => n - (intOf i).toNat)
    case atStart => exact ⟨0, Nat.zero_le _, rfl, rfl, Below.refl _ _⟩
    case round =>
      obtain ⟨k, hk, rfl, hcn, hb⟩ := hrel
      have c0 := fun h => (hb.cell (p := ⟨b, off + k * 2, none⟩) (World.block_lt_of_cell? w _ (hc k h).1)).trans (hc k h).1
      have c1 := fun h => (hb.cell (p := ⟨b, off + k * 2 + 1, none⟩) (World.block_lt_of_cell? w _ (hc k h).2)).trans (hc k h).2
      go_wp2
      all_goals first
        | (have e : ((ds[k]?.getD (ByteArray.empty, 0)).1.toList == s.toList) = true := by assumption
           have hlt : k < n := by assumption
           go_ret
           exact ⟨ret_int (cnt_hit hcn.out (by have := HL.out; omega) e), hb.alloc hb.size _⟩)
        | (have e : ((ds[k]?.getD (ByteArray.empty, 0)).1.toList == s.toList) = false := by assumption
           have hlt : k < n := by assumption
           go_roundw
           case rel => exact ⟨k + 1, by omega, by go_num, cnt_miss hcn.out (by have := HL.out; omega) e, hb.alloc hb.size _⟩
           case measure => simp [intOf]; omega)
        | (have hge : ¬ k < n := by assumption
           go_ret
           exact ⟨ret_int (cnt_end hcn.out (by have := HL.out; omega)), hb⟩)

end Go.Proofs.Qxb6600701a
