/-
  FnBlockCommentEndMatchesNestedGrammar returns true.
-/
import Derived.Test.Qxb6601428aScan
namespace Go.Proofs.Qxb6601428a
open Go.RowKit

/-! ### The grammar, and that the scanner agrees -/
def ca (s : ByteArray) : Nat → Nat → Option Nat
  | 0, _ => none
  | f + 1, j =>
    if j < s.size then
      if two s j 47 42 = true then (ca s f (j + 2)).bind (fun e => ca s f e)
      else if two s j 42 47 = true then some (j + 2)
      else ca s f (j + 1)
    else none

theorem ca_past {s : ByteArray} {f j : Nat} (h : s.size ≤ j) : ca s f j = none := by
  cases f with
  | zero => rfl
  | succ f => rw [ca, if_neg (by omega)]

theorem ca_some {s : ByteArray} : ∀ {f j e : Nat}, ca s f j = some e → j + 2 ≤ e ∧ e ≤ s.size := by
  intro f
  induction f with
  | zero => intro j e h; simp [ca] at h
  | succ f ih =>
    intro j e h
    rw [ca] at h
    by_cases hj : j < s.size
    · rw [if_pos hj] at h
      by_cases ho : two s j 47 42 = true
      · rw [if_pos ho] at h
        obtain ⟨x, h1, h2⟩ := Option.bind_eq_some_iff.1 h
        have := ih h1
        have := ih h2
        omega
      · rw [if_neg ho] at h
        by_cases hc : two s j 42 47 = true
        · rw [if_pos hc] at h
          obtain rfl := Option.some.inj h
          exact ⟨by omega, two_lt hc⟩
        · rw [if_neg hc] at h
          have := ih h
          omega
    · rw [if_neg hj] at h; cases h

theorem bind_congr' {α β : Type} {o : Option α} {f g : α → Option β} (h : ∀ x, o = some x → f x = g x) : o.bind f = o.bind g := by
  cases o with
  | none => rfl
  | some x => exact h x rfl

theorem ca_fuel {s : ByteArray} : ∀ {f g j : Nat}, s.size ≤ j + f → s.size ≤ j + g → ca s f j = ca s g j := by
  intro f
  induction f with
  | zero => intro g j h _; rw [ca_past (by omega), ca_past (by omega)]
  | succ f ih =>
    intro g j h hg
    by_cases hj : s.size ≤ j
    · rw [ca_past hj, ca_past hj]
    · cases g with
      | zero => omega
      | succ g =>
        rw [ca, ca, ih (g := g) (j := j + 2) (by omega) (by omega), ih (g := g) (j := j + 1) (by omega) (by omega)]
        rw [bind_congr' (fun e he => ih (g := g) (j := e) (by have := ca_some he; omega) (by have := ca_some he; omega))]

theorem cls_ca {s : ByteArray} : ∀ {f j : Nat} {d : Int}, s.size ≤ j + f → 1 ≤ d → cls s f j d = (ca s f j).bind (fun e => if d = 1 then some e else cls s f e (d - 1)) := by
  intro f
  induction f with
  | zero => intro j d h _; rw [cls_past (by omega), ca_past (by omega)]; rfl
  | succ f ih =>
    intro j d h hd
    by_cases hj : s.size ≤ j
    · rw [cls_past hj, ca_past hj]; rfl
    · have hjs : j < s.size := by omega
      rw [cls, ca, if_pos hjs, if_pos hjs]
      by_cases ho : two s j 47 42 = true
      · rw [if_pos ho, if_pos ho, ih (by omega) (by omega), Option.bind_assoc]
        refine bind_congr' fun e he => ?_
        have hb := ca_some he
        rw [if_neg (by omega), show d + 1 - 1 = d by omega, ih (by omega) hd]
        refine bind_congr' fun e' he' => ?_
        have hb' := ca_some he'
        rw [cls_fuel (f := f) (g := f + 1) (by omega) (by omega)]
      · rw [if_neg ho, if_neg ho]
        by_cases hc : two s j 42 47 = true
        · rw [if_pos hc, if_pos hc]
          show _ = if d = 1 then some (j + 2) else cls s (f + 1) (j + 2) (d - 1)
          by_cases h1 : d = 1
          · rw [if_pos (by omega), if_pos h1]
          · rw [if_neg (by omega), if_neg h1, cls_fuel (f := f) (g := f + 1) (by omega) (by omega)]
        · rw [if_neg hc, if_neg hc, ih (by omega) hd]
          refine bind_congr' fun e he => ?_
          have hb := ca_some he
          rw [cls_fuel (f := f) (g := f + 1) (by omega) (by omega)]

/-- The comment's end, by the grammar. -/
theorem bce_ca {s : ByteArray} {i : Nat} (h : two s i 47 42 = true) : bce s i = (ca s s.size (i + 2)).getD s.size := by
  have hl := two_lt h
  unfold bce
  obtain ⟨f, hf⟩ : ∃ f, s.size = f + 1 := ⟨s.size - 1, by omega⟩
  have e : cls s s.size i 0 = ca s s.size (i + 2) := by
    rw [cls_fuel (f := s.size) (g := s.size + 1) (by omega) (by omega), cls, if_pos (show i < s.size by omega), if_pos h, show (0 : Int) + 1 = 1 by rfl, cls_ca (by omega) (by omega)]
    simp
  rw [e]

/-- What zzB1CloseAfter hands back. -/
def oI : Option Nat → Int
  | none => -1
  | some e => e

theorem ca_more {s : ByteArray} {p : Nat} : ca s s.size p = ca s (s.size + 1) p := ca_fuel (by omega) (by omega)
theorem ca_open {s : ByteArray} {p : Nat} (ho : two s p 47 42 = true) : ca s s.size p = (ca s s.size (p + 2)).bind (fun e => ca s s.size e) := by
  have := two_lt ho
  rw [ca_more, ca, if_pos (show p < s.size by omega), if_pos ho]
theorem ca_close {s : ByteArray} {p : Nat} (ho : two s p 47 42 = false) (hc : two s p 42 47 = true) : ca s s.size p = some (p + 2) := by
  have := two_lt hc
  rw [ca_more, ca, if_pos (show p < s.size by omega), if_neg (by simp [ho]), if_pos hc]
theorem ca_next {s : ByteArray} {p : Nat} (hp : p < s.size) (ho : two s p 47 42 = false) (hc : two s p 42 47 = false) : ca s s.size p = ca s s.size (p + 1) := by
  rw [ca_more, ca, if_pos hp, if_neg (by simp [ho]), if_neg (by simp [hc])]

theorem two_of {s : ByteArray} {p : Nat} (h : p + 1 < s.size) (a b : UInt8) : two s p a b = (((s[p]'(by omega)).toNat == a.toNat) && ((s[p + 1]'h).toNat == b.toNat)) := by
  have e0 : s.data.toList[p]? = some (s[p]'(by omega)) := by
    rw [List.getElem?_eq_getElem (by simp; omega)]; rfl
  have e1 : s.data.toList[p + 1]? = some (s[p + 1]'h) := by
    rw [List.getElem?_eq_getElem (by simpa using h)]; rfl
  unfold two
  rw [e0, e1, Bool.eq_iff_iff]
  simp [UInt8.toNat_inj]

theorem two_out {s : ByteArray} {p : Nat} (h : ¬ p + 1 < s.size) (a b : UInt8) : two s p a b = false := by
  cases e : two s p a b with
  | false => rfl
  | true => have := two_lt e; omega

/-! ### zzB1CloseAfter -/
set_option maxHeartbeats 400000 in
theorem close_any (s : ByteArray) (hs : s.size ≤ 1048576) (k : Nat) : ∀ (j : Nat) (w : World), j ≤ s.size → s.size ≤ j + k →
    Calls Try.prog 19 #[.string s, .int .i64 j] w fun e w' => e = .returned (.int .i64 (oI (ca s s.size j))) ∧ w' = w := by
  induction k with
  | zero =>
    intro j w hj hk
    go_enter Try.func19, Try.ntmps19
    go_wp2_with fail
    refine wp_loop_rounds 1 ?_
    rw [rounds_succ]
    go_wp2_with fail
    go_ret
    exact ⟨ret_int (by rw [ca_past (by omega)]; rfl), rfl⟩
  | succ k ih =>
    intro j w hj hk
    go_enter Try.func19, Try.ntmps19
    go_wp2_with fail
    go_loop [1] (fun q => ∃ p : Nat, j ≤ p ∧ p ≤ s.size ∧ q = .int .i64 p ∧ Hid (ca s s.size p = ca s s.size j)) (fun q => s.size - (intOf q).toNat)
    case atStart => exact ⟨j, Nat.le_refl _, hj, rfl, rfl⟩
    case round =>
      obtain ⟨p, hjp, hp, rfl, hx⟩ := hrel
      by_cases hlt : p < s.size
      · by_cases hl2 : p + 1 < s.size
        · have IH := ih (p + 2) w (by omega) (by omega)
          rw [show ((p + 2 : Nat) : Int) = (p : Int) + 2 by omega] at IH
          have T1 := two_of hl2 47 42
          have T2 := two_of hl2 42 47
          have HT : Hid ((two s p 47 42 = (((s[p]'(by omega)).toNat == 47) && ((s[p + 1]'hl2).toNat == 42))) ∧ two s p 42 47 = (((s[p]'(by omega)).toNat == 42) && ((s[p + 1]'hl2).toNat == 47))) := ⟨T1, T2⟩
          clear T1 T2 ih
          cases ha : ca s s.size (p + 2) with
          | none =>
            rw [ha] at IH
            have HA : Hid (ca s s.size (p + 2) = none) := ha
            clear ha
            go_wp2_with fail
            · have b1 : ((s[p]'(by omega)).toNat : Int) = 47 := by assumption
              have b2 : (((s[p + 1]'hl2).toNat : Int) == 42) = true := by assumption
              have ho : two s p 47 42 = true := by rw [HT.out.1]; simp at b2 ⊢; omega
              refine IH.mono ?_
              rintro e w' ⟨rfl, hw⟩
              subst w'
              go_wp2_with fail
              go_ret
              exact ⟨ret_int (by rw [← hx.out, ca_open ho, HA.out]; rfl), rfl⟩
            all_goals first
              | (have b1 : ((s[p]'(by omega)).toNat : Int) = 47 := by assumption
                 have b2 : (((s[p + 1]'hl2).toNat : Int) == 42) = false := by assumption
                 have ho : two s p 47 42 = false := by rw [HT.out.1]; simp at b2 ⊢; omega
                 have hc : two s p 42 47 = false := by rw [HT.out.2]; simp; omega
                 go_round
                 case rel => exact ⟨p + 1, by omega, by omega, by go_num, (ca_next hlt ho hc).symm.trans hx.out⟩
                 case measure => simp [intOf]; omega)
              | (have b1 : ((s[p]'(by omega)).toNat : Int) = 42 := by assumption
                 have b2 : (((s[p + 1]'hl2).toNat : Int) == 47) = true := by assumption
                 have ho : two s p 47 42 = false := by rw [HT.out.1]; simp; omega
                 have hc : two s p 42 47 = true := by rw [HT.out.2]; simp at b2 ⊢; omega
                 go_ret
                 exact ⟨ret_int (by rw [← hx.out, ca_close ho hc]; simp [oI]), rfl⟩)
              | (have b1 : ((s[p]'(by omega)).toNat : Int) = 42 := by assumption
                 have b2 : (((s[p + 1]'hl2).toNat : Int) == 47) = false := by assumption
                 have ho : two s p 47 42 = false := by rw [HT.out.1]; simp; omega
                 have hc : two s p 42 47 = false := by rw [HT.out.2]; simp at b2 ⊢; omega
                 go_round
                 case rel => exact ⟨p + 1, by omega, by omega, by go_num, (ca_next hlt ho hc).symm.trans hx.out⟩
                 case measure => simp [intOf]; omega)
              | (have b1 : ¬ ((s[p]'(by omega)).toNat : Int) = 47 := by assumption
                 have b2 : ¬ ((s[p]'(by omega)).toNat : Int) = 42 := by assumption
                 have ho : two s p 47 42 = false := by rw [HT.out.1]; simp; omega
                 have hc : two s p 42 47 = false := by rw [HT.out.2]; simp; omega
                 go_round
                 case rel => exact ⟨p + 1, by omega, by omega, by go_num, (ca_next hlt ho hc).symm.trans hx.out⟩
                 case measure => simp [intOf]; omega)
          | some e =>
            rw [ha] at IH
            have hb := ca_some ha
            have HA : Hid (ca s s.size (p + 2) = some e) := ha
            clear ha
            go_wp2_with fail
            · have b1 : ((s[p]'(by omega)).toNat : Int) = 47 := by assumption
              have b2 : (((s[p + 1]'hl2).toNat : Int) == 42) = true := by assumption
              have ho : two s p 47 42 = true := by rw [HT.out.1]; simp at b2 ⊢; omega
              have IH2 : Calls Try.prog 19 #[.string s, .int .i64 ((p : Int) + 2)] w fun e' w' => e' = .returned (.int .i64 (e : Int)) ∧ w' = w := IH
              refine IH2.mono ?_
              rintro e w' ⟨rfl, hw⟩
              subst w'
              go_wp2_with fail
              go_round
              case rel => exact ⟨_, by omega, by omega, rfl, by have h := hx.out; rw [ca_open ho, HA.out] at h; exact h⟩
              case measure => simp [intOf]; omega
            all_goals first
              | (have b1 : ((s[p]'(by omega)).toNat : Int) = 47 := by assumption
                 have b2 : (((s[p + 1]'hl2).toNat : Int) == 42) = false := by assumption
                 have ho : two s p 47 42 = false := by rw [HT.out.1]; simp at b2 ⊢; omega
                 have hc : two s p 42 47 = false := by rw [HT.out.2]; simp; omega
                 go_round
                 case rel => exact ⟨p + 1, by omega, by omega, by go_num, (ca_next hlt ho hc).symm.trans hx.out⟩
                 case measure => simp [intOf]; omega)
              | (have b1 : ((s[p]'(by omega)).toNat : Int) = 42 := by assumption
                 have b2 : (((s[p + 1]'hl2).toNat : Int) == 47) = true := by assumption
                 have ho : two s p 47 42 = false := by rw [HT.out.1]; simp; omega
                 have hc : two s p 42 47 = true := by rw [HT.out.2]; simp at b2 ⊢; omega
                 go_ret
                 exact ⟨ret_int (by rw [← hx.out, ca_close ho hc]; simp [oI]), rfl⟩)
              | (have b1 : ((s[p]'(by omega)).toNat : Int) = 42 := by assumption
                 have b2 : (((s[p + 1]'hl2).toNat : Int) == 47) = false := by assumption
                 have ho : two s p 47 42 = false := by rw [HT.out.1]; simp; omega
                 have hc : two s p 42 47 = false := by rw [HT.out.2]; simp at b2 ⊢; omega
                 go_round
                 case rel => exact ⟨p + 1, by omega, by omega, by go_num, (ca_next hlt ho hc).symm.trans hx.out⟩
                 case measure => simp [intOf]; omega)
              | (have b1 : ¬ ((s[p]'(by omega)).toNat : Int) = 47 := by assumption
                 have b2 : ¬ ((s[p]'(by omega)).toNat : Int) = 42 := by assumption
                 have ho : two s p 47 42 = false := by rw [HT.out.1]; simp; omega
                 have hc : two s p 42 47 = false := by rw [HT.out.2]; simp; omega
                 go_round
                 case rel => exact ⟨p + 1, by omega, by omega, by go_num, (ca_next hlt ho hc).symm.trans hx.out⟩
                 case measure => simp [intOf]; omega)
        · go_wp2_with fail
          go_round
          case rel => exact ⟨p + 1, by omega, by omega, by go_num, (ca_next hlt (two_out hl2 _ _) (two_out hl2 _ _)).symm.trans hx.out⟩
          case measure => simp [intOf]; omega
      · go_wp2_with fail
        go_ret
        exact ⟨ret_int (by rw [← hx.out, ca_past (by omega)]; rfl), rfl⟩

/-! ### The law -/
/-- The call answers true or false. -/
def SomeBool (e : Ending) : Prop := ∃ r : Bool, e = .returned (.bool r)
theorem SomeBool.mk (r : Bool) : SomeBool (.returned (.bool r)) := ⟨r, rfl⟩

set_option maxHeartbeats 400000 in
theorem zz18_any (s : ByteArray) (i : Int) (w : World) : Calls Try.prog 18 #[.string s, .int .i64 i] w fun e w' => SomeBool e ∧ w' = w := by
  go_enter Try.func18, Try.ntmps18
  go_wp2
  all_goals
    go_ret
    exact ⟨SomeBool.mk _, rfl⟩

set_option maxHeartbeats 400000 in
theorem grammar_early (s : ByteArray) (i : Int) (w : World) (h : 1048576 < s.size ∨ (s.size ≤ 1048576 ∧ i < 0) ∨ (s.size ≤ 1048576 ∧ 0 ≤ i ∧ (s.size : Int) - 2 < i)) :
    Calls Try.prog 7 #[.string s, .int .i64 i] w fun e w' => e = .returned (.bool true) ∧ w' = w := by
  rcases h with h | ⟨h, h'⟩ | ⟨h, h', h''⟩
  all_goals
    go_enter Try.func7, Try.ntmps7
    go_wp2_with (go_at_call 18; refine (zz18_any _ _ _).mono ?_; rintro e w' ⟨⟨r, rfl⟩, rfl⟩)
    all_goals
      go_ret
      exact ⟨rfl, rfl⟩

set_option maxHeartbeats 400000 in
theorem grammar_late (s : ByteArray) (p : Nat) (w : World) (hs : s.size ≤ 1048576) (hp : p + 2 ≤ s.size) :
    Calls Try.prog 7 #[.string s, .int .i64 p] w fun e w' => e = .returned (.bool true) ∧ w' = w := by
  have hl2 : p + 1 < s.size := by omega
  have HT : Hid (two s p 47 42 = (((s[p]'(by omega)).toNat == 47) && ((s[p + 1]'hl2).toNat == 42))) := two_of hl2 47 42
  have c1 := close_any s hs s.size (p + 2) w (by omega) (by omega)
  rw [show ((p + 2 : Nat) : Int) = (p : Int) + 2 by omega] at c1
  have c2 := end_any s p w (by omega) (by omega)
  rw [show ((p : Int)).toNat = p by omega] at c2
  have HB : Hid (two s p 47 42 = true → bce s p = (ca s s.size (p + 2)).getD s.size) := bce_ca
  cases ha : ca s s.size (p + 2) with
  | none =>
    rw [ha] at HB
    have c1 : Calls Try.prog 19 #[.string s, .int .i64 ((p : Int) + 2)] w fun e w' => e = .returned (.int .i64 (-1)) ∧ w' = w := by
      rw [ha] at c1; exact c1
    clear ha
    go_enter Try.func7, Try.ntmps7
    go_wp2_with fail
    refine (zz18_any _ _ _).mono ?_
    rintro e w' ⟨⟨b, rfl⟩, hw⟩
    subst w'
    cases b
    · go_wp2_with fail
      go_ret
      exact ⟨rfl, rfl⟩
    go_wp2_with fail
    · go_ret
      exact ⟨rfl, rfl⟩
    · have b1 : ((s[p]'(by omega)).toNat : Int) = 47 := by assumption
      have b2 : (((s[p + 1]'hl2).toNat : Int) != 42) = false := by assumption
      have ho : two s p 47 42 = true := by rw [HT.out]; simp at b2 ⊢; omega
      have c3 : Calls Try.prog 12 #[.string s, .int .i64 (p : Int)] w fun e w' => e = .returned (.int .i64 (s.size : Nat)) ∧ w' = w := by
        rw [HB.out ho] at c2; exact c2
      refine c1.mono ?_
      rintro e w' ⟨rfl, hw⟩
      subst w'
      go_wp2_with fail
      refine c3.mono ?_
      rintro e w' ⟨rfl, hw⟩
      subst w'
      go_wp2_with fail
      go_ret
      exact ⟨by simp, rfl⟩
    · go_ret
      exact ⟨rfl, rfl⟩
  | some x =>
    rw [ha] at HB
    have c1 : Calls Try.prog 19 #[.string s, .int .i64 ((p : Int) + 2)] w fun e w' => e = .returned (.int .i64 (x : Int)) ∧ w' = w := by
      rw [ha] at c1; exact c1
    clear ha
    go_enter Try.func7, Try.ntmps7
    go_wp2_with fail
    refine (zz18_any _ _ _).mono ?_
    rintro e w' ⟨⟨b, rfl⟩, hw⟩
    subst w'
    cases b
    · go_wp2_with fail
      go_ret
      exact ⟨rfl, rfl⟩
    go_wp2_with fail
    · go_ret
      exact ⟨rfl, rfl⟩
    · have b1 : ((s[p]'(by omega)).toNat : Int) = 47 := by assumption
      have b2 : (((s[p + 1]'hl2).toNat : Int) != 42) = false := by assumption
      have ho : two s p 47 42 = true := by rw [HT.out]; simp at b2 ⊢; omega
      have c3 : Calls Try.prog 12 #[.string s, .int .i64 (p : Int)] w fun e w' => e = .returned (.int .i64 (x : Nat)) ∧ w' = w := by
        rw [HB.out ho] at c2; exact c2
      refine c1.mono ?_
      rintro e w' ⟨rfl, hw⟩
      subst w'
      go_wp2_with fail
      refine c3.mono ?_
      rintro e w' ⟨rfl, hw⟩
      subst w'
      go_wp2_with fail
      go_ret
      exact ⟨by simp, rfl⟩
    · go_ret
      exact ⟨rfl, rfl⟩

theorem grammar_any (s : ByteArray) (i : Int) (w : World) :
    Calls Try.prog 7 #[.string s, .int .i64 i] w fun e w' => e = .returned (.bool true) ∧ w' = w := by
  by_cases h : s.size ≤ 1048576 ∧ 0 ≤ i ∧ i ≤ (s.size : Int) - 2
  · have := grammar_late s i.toNat w h.1 (by omega)
    rwa [show ((i.toNat : Nat) : Int) = i by omega] at this
  · exact grammar_early s i w (by omega)

end Go.Proofs.Qxb6601428a
