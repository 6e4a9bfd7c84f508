/-
  blockCommentEnd computes 'bce'.
-/
import Derived.Test.Qxb6601428aText
import Derived.Test.Qxb6601428aPlain
namespace Go.Proofs.Qxb6601428a
open Go.RowKit

theorem two_prefix (s : ByteArray) (i : Nat) (a b : UInt8) :
    (decide ((⟨#[a, b]⟩ : ByteArray).size ≤ (s.extract i s.size).size) && (((s.extract i s.size).extract 0 (⟨#[a, b]⟩ : ByteArray).size).toList == (⟨#[a, b]⟩ : ByteArray).toList)) = two s i a b := by
  have e1 : (⟨#[a, b]⟩ : ByteArray).size = 2 := rfl
  have e2 : (⟨#[a, b]⟩ : ByteArray).toList = [a, b] := by rw [ByteArray.toList_eq]
  rw [e1, e2, ByteArray.toList_eq, Lib.extract_data, Lib.extract_data]
  unfold two
  rw [Bool.eq_iff_iff]
  simp only [Bool.and_eq_true, decide_eq_true_eq, beq_iff_eq, List.drop_zero, Nat.sub_zero]
  have hsz : s.data.toList.length = s.size := by simp
  have hes : (s.extract i s.size).size = s.size - i := by simp
  rw [hes, List.take_of_length_le (l := s.data.toList.drop i) (by simp)]
  constructor
  · rintro ⟨h1, h2⟩
    have h3 : ∀ k, k < 2 → s.data.toList[i + k]? = [a, b][k]? := by
      intro k hk
      rw [← h2, List.getElem?_take, if_pos hk, List.getElem?_drop]
    exact ⟨by simpa using h3 0 (by omega), by simpa using h3 1 (by omega)⟩
  · rintro ⟨h1, h2⟩
    have := (List.getElem?_eq_some_iff.1 h2).1
    refine ⟨by omega, ?_⟩
    apply List.ext_getElem?
    intro k
    rw [List.getElem?_take, List.getElem?_drop]
    match k with
    | 0 => simpa using h1
    | 1 => simpa using h2
    | k + 2 => rw [if_neg (by omega)]; rfl

theorem at_any (s : ByteArray) (i : Nat) (a b : UInt8) (w : World) :
    Calls Try.prog 24 #[.string (s.extract i s.size), .string ⟨#[a, b]⟩] w fun e w' => e = .returned (.bool (two s i a b)) ∧ w' = w := by
  have := prefix_any (s.extract i s.size) ⟨#[a, b]⟩ w
  rwa [two_prefix] at this

/-! ### What a round does -/
theorem cls_open {s : ByteArray} {f i : Nat} {d : Int} {x : Option Nat} (h : cls s (f + 1) i d = x) (hi : i < s.size) (ho : two s i 47 42 = true) : cls s f (i + 2) (d + 1) = x := by
  rw [cls, if_pos hi, if_pos ho] at h; exact h
theorem cls_close {s : ByteArray} {f i : Nat} {d : Int} {x : Option Nat} (h : cls s (f + 1) i d = x) (hi : i < s.size) (ho : two s i 47 42 = false) (hc : two s i 42 47 = true) (hd : ¬ d - 1 = 0) : cls s f (i + 2) (d - 1) = x := by
  rw [cls, if_pos hi, if_neg (by simp [ho]), if_pos hc, if_neg hd] at h; exact h
theorem cls_end {s : ByteArray} {f i : Nat} {d : Int} {x : Option Nat} (h : cls s (f + 1) i d = x) (hi : i < s.size) (ho : two s i 47 42 = false) (hc : two s i 42 47 = true) (hd : d - 1 = 0) : x = some (i + 2) := by
  rw [cls, if_pos hi, if_neg (by simp [ho]), if_pos hc, if_pos hd] at h; exact h.symm
theorem cls_step {s : ByteArray} {f i : Nat} {d : Int} {x : Option Nat} (h : cls s (f + 1) i d = x) (hi : i < s.size) (ho : two s i 47 42 = false) (hc : two s i 42 47 = false) : cls s f (i + 1) d = x := by
  rw [cls, if_pos hi, if_neg (by simp [ho]), if_neg (by simp [hc])] at h; exact h

theorem ret_int {k : IntKind} {a b : Int} (h : a = b) : Ending.returned (.int k a) = .returned (.int k b) := by rw [h]

set_option maxHeartbeats 400000 in
theorem scan_in (s : ByteArray) (i : Nat) (w : World) (hs : s.size ≤ 4194304) (hi : i ≤ s.size) :
    Calls Try.prog 22 #[.string s, .int .i64 i] w fun e w' => e = .returned (.int .i64 (bce s i)) ∧ w' = w := by
  go_enter Try.func22, Try.ntmps22
  go_wp2
  go_loop [1, 5] (fun p q => ∃ (f k : Nat) (d : Int), k ≤ s.size ∧ p = .int .i64 k ∧ q = .int .i64 d ∧ -(k : Int) ≤ d ∧ d ≤ k ∧ s.size ≤ k + f ∧ Hid (cls s f k d = cls s s.size i 0)) (fun p _ => s.size - (intOf p).toNat)
  case atStart => exact ⟨s.size, i, 0, hi, rfl, rfl, by omega, by omega, by omega, rfl⟩
  case round =>
    obtain ⟨f, k, d, hk, rfl, rfl, hd0, hd1, hf, hx⟩ := hrel
    by_cases hlt : k < s.size
    · cases f with
      | zero => omega
      | succ f =>
        have hA := at_any s k 47 42 w
        have hB := at_any s k 42 47 w
        cases ho : two s k 47 42 with
        | true =>
          have h2 := two_lt ho
          rw [ho] at hA
          go_wp2_with fail
          refine hA.mono ?_
          rintro e w' ⟨rfl, hw⟩
          subst w'
          go_wp2_with fail
          go_round
          case rel => exact ⟨f, k + 2, d + 1, by omega, by go_num, rfl, by omega, by omega, by omega, cls_open hx.out hlt ho⟩
          case measure => simp [intOf]; omega
        | false =>
          rw [ho] at hA
          cases hc : two s k 42 47 with
          | true =>
            have h2 := two_lt hc
            rw [hc] at hB
            by_cases hd : d - 1 = 0
            · have hd' : (d - 1 == 0) = true := by simp [hd]
              clear hd
              go_wp2_with fail
              refine hA.mono ?_
              rintro e w' ⟨rfl, hw⟩
              subst w'
              go_wp2_with fail
              refine hB.mono ?_
              rintro e w' ⟨rfl, hw⟩
              subst w'
              go_wp2_with fail
              go_ret
              exact ⟨ret_int (by unfold bce; rw [cls_end hx.out hlt ho hc (by simpa using hd')]; simp), rfl⟩
            · have hd' : (d - 1 == 0) = false := by simp [hd]
              go_wp2_with fail
              refine hA.mono ?_
              rintro e w' ⟨rfl, hw⟩
              subst w'
              go_wp2_with fail
              refine hB.mono ?_
              rintro e w' ⟨rfl, hw⟩
              subst w'
              go_wp2_with fail
              go_round
              case rel => exact ⟨f, k + 2, d - 1, by omega, by go_num, rfl, by omega, by omega, by omega, cls_close hx.out hlt ho hc hd⟩
              case measure => simp [intOf]; omega
          | false =>
            rw [hc] at hB
            go_wp2_with fail
            refine hA.mono ?_
            rintro e w' ⟨rfl, hw⟩
            subst w'
            go_wp2_with fail
            refine hB.mono ?_
            rintro e w' ⟨rfl, hw⟩
            subst w'
            go_wp2_with fail
            go_round
            case rel => exact ⟨f, k + 1, d, by omega, by go_num, rfl, by omega, by omega, by omega, cls_step hx.out hlt ho hc⟩
            case measure => simp [intOf]; omega
    · go_wp2_with fail
      go_ret
      exact ⟨ret_int (by unfold bce; rw [← hx.out, cls_past (by omega)]; rfl), rfl⟩

set_option maxHeartbeats 400000 in
theorem scan_out (s : ByteArray) (i : Int) (w : World) (hi : (s.size : Int) ≤ i) :
    Calls Try.prog 22 #[.string s, .int .i64 i] w fun e w' => e = .returned (.int .i64 (bce s i.toNat)) ∧ w' = w := by
  go_enter Try.func22, Try.ntmps22
  go_wp2
  refine wp_loop_rounds 1 ?_
  rw [rounds_succ]
  go_wp2_with fail
  go_ret
  exact ⟨ret_int (by unfold bce; rw [cls_past (by omega)]; rfl), rfl⟩

theorem scan_any (s : ByteArray) (i : Int) (w : World) (hs : s.size ≤ 4194304) (hi : 0 ≤ i) :
    Calls Try.prog 22 #[.string s, .int .i64 i] w fun e w' => e = .returned (.int .i64 (bce s i.toNat)) ∧ w' = w := by
  by_cases h : i ≤ s.size
  · have := scan_in s i.toNat w hs (by omega)
    rwa [show ((i.toNat : Nat) : Int) = i by omega] at this
  · exact scan_out s i w (by omega)

set_option maxHeartbeats 400000 in
/-- ZZblockCommentEnd: the same. -/
theorem end_any (s : ByteArray) (i : Int) (w : World) (hs : s.size ≤ 4194304) (hi : 0 ≤ i) :
    Calls Try.prog 12 #[.string s, .int .i64 i] w fun e w' => e = .returned (.int .i64 (bce s i.toNat)) ∧ w' = w := by
  go_enter Try.func12, Try.ntmps12
  go_wp2_with (go_at_call 22; refine (scan_any s i _ hs hi).mono ?_; rintro e w' ⟨rfl, rfl⟩)
  go_ret
  exact ⟨rfl, rfl⟩

end Go.Proofs.Qxb6601428a
