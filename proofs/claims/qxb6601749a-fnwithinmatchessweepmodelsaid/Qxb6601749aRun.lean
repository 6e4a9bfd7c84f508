/-
  addRun: the segments first to last are put into the set.
-/
import Derived.Test.Qxb6601749aSet
namespace Go.Proofs.Qxb6601749a
open Go.RowKit

/-- The segments a up to p have been put in. -/
def Filled (w w' : World) (g n : Nat) (ys : List Int) (a p : Nat) : Prop :=
  ∃ ys', SetIs w' g n ys' ∧ (∀ k, k < n * 8 → bitAt ys' k = (bitAt ys k || decide (a ≤ k ∧ k < p))) ∧ w.grownBy w' (some g)

theorem Filled.start {w : World} {g n : Nat} {ys : List Int} (h : SetIs w g n ys) (a : Nat) : Filled w w g n ys a a :=
  ⟨ys, h, fun k _ => by rw [decide_eq_false (by omega), Bool.or_false], grown_refl _ _⟩

theorem Filled.add {w wr w' : World} {g n : Nat} {ys ys' : List Int} {a p : Nat} (hap : a ≤ p) (hb : ∀ k, k < n * 8 → bitAt ys' k = (bitAt ys k || decide (a ≤ k ∧ k < p))) (hg : w.grownBy wr (some g)) (ht : Turned wr w' g n ys' (fun k => decide (k = p))) :
    Filled w w' g n ys a (p + 1) := by
  obtain ⟨ys2, h2, hb2, hg2⟩ := ht
  refine ⟨ys2, h2, fun k hk => ?_, grown_trans hg hg2⟩
  rw [hb2 k hk, hb k hk, Bool.or_assoc, ← Bool.decide_or]
  congr 1
  apply decide_eq_decide.2
  omega

theorem Filled.full {w wr : World} {g n : Nat} {ys ys' : List Int} {a p : Nat} (hap : a ≤ p) (h : SetIs wr g n ys') (hb : ∀ k, k < n * 8 → bitAt ys' k = (bitAt ys k || decide (a ≤ k ∧ k < p))) (hg : w.grownBy wr (some g)) (h8 : p % 8 = 0) (hp : p + 7 < n * 8) :
    Filled w (wr.setCell ⟨g, p / 8, none⟩ (.int .u8 255)) g n ys a (p + 8) := by
  have st := h.stored (p / 8) full_byte.1
  refine ⟨_, st.1, fun k hk => ?_, grown_trans hg st.2⟩
  rw [bitAt_set (by rw [h.length]; omega)]
  by_cases hq : k / 8 = p / 8
  · rw [if_pos hq, full_byte.2 _ (by omega), decide_eq_true (by omega), Bool.or_true]
  · rw [if_neg hq, hb k hk]
    congr 1
    apply decide_eq_decide.2
    omega

theorem turned_none {w : World} {g n : Nat} {ys : List Int} {p : Nat → Bool} (h : SetIs w g n ys) (hp : ∀ k, p k = false) : Turned w w g n ys p :=
  ⟨ys, h, fun k _ => by rw [hp, Bool.or_false], grown_refl _ _⟩

set_option maxHeartbeats 400000 in
theorem run_none (g n : Nat) (ys : List Int) (f l : Int) (w : World) (h : SetIs w g n ys) (hf : 0 ≤ f) (hf2 : f ≤ 9223372036854775800) (hl : l < f) :
    Calls Try.prog 37 #[.slice (some ⟨g, 0, none⟩) n n, .int .i64 f, .int .i64 l] w fun e w' => e = .returned (.tuple #[]) ∧ Turned w w' g n ys (fun k => decide (f ≤ (k : Int) ∧ (k : Int) ≤ l)) := by
  go_enter Try.func37, Try.ntmps37
  go_wp2_with fail
  refine wp_loop_rounds 1 ?_
  rw [rounds_succ]
  go_wp2_with fail
  refine wp_loop_rounds 1 ?_
  rw [rounds_succ]
  go_wp2_with fail
  refine wp_loop_rounds 1 ?_
  rw [rounds_succ]
  go_wp2_with fail
  go_end0
  exact ⟨rfl, turned_none h (fun k => decide_eq_false (by omega))⟩

set_option maxHeartbeats 1000000 in
theorem run_some (g n : Nat) (ys : List Int) (a b : Nat) (w : World) (h : SetIs w g n ys) (hab : a ≤ b) (hb : b < n * 8) (hn : n ≤ 1048576) :
    Calls Try.prog 37 #[.slice (some ⟨g, 0, none⟩) n n, .int .i64 a, .int .i64 b] w fun e w' => e = .returned (.tuple #[]) ∧ Filled w w' g n ys a (b + 1) := by
  go_enter Try.func37, Try.ntmps37
  go_wp2_with fail
  go_loopw [1] (fun q wr => ∃ p : Nat, a ≤ p ∧ p ≤ b + 1 ∧ q = .int .i64 p ∧ Filled w wr g n ys a p) (fun q _ => b + 1 - (intOf q).toNat)
  case atStart => exact ⟨a, Nat.le_refl _, by omega, rfl, Filled.start h a⟩
  case round =>
    obtain ⟨p, hap, hpb, rfl, hfil⟩ := hrel
    obtain ⟨ys', hs, hbits, hg⟩ := hfil
    have HB : Hid (∀ k, k < n * 8 → bitAt ys' k = (bitAt ys k || decide (a ≤ k ∧ k < p))) := hbits
    clear hbits
    by_cases hp : p ≤ b ∧ p % 8 ≠ 0
    · obtain ⟨h1, h2⟩ := hp
      have h3 : ((p : Int) % 8 != 0) = true := by simp; omega
      go_wp2_with (go_at_call 38; refine (add_any g n ys' p _ hs (by omega) hn).mono ?_; rintro e w' ⟨rfl, hT⟩)
      go_roundw
      case rel => exact ⟨p + 1, by omega, by omega, by go_num, Filled.add hap HB.out hg hT⟩
      case measure => simp [intOf]; omega
    · have hal : p ≤ b → p % 8 = 0 := fun h => by omega
      have h3 : p ≤ b → ((p : Int) % 8 != 0) = false := fun h => by simp; omega
      have hfil : Filled w wr g n ys a p := ⟨ys', hs, HB.out, hg⟩
      clear HB hs hg
      rcases (show (p ≤ b ∧ p % 8 = 0) ∨ b < p from by omega) with ⟨h4, h5⟩ | h4
      all_goals
        first
          | (have h6 : ((p : Int) % 8 != 0) = false := h3 h4)
          | skip
        clear h3 hp
        go_wp2_with fail
        go_loopw [1] (fun q wr => ∃ p : Nat, a ≤ p ∧ p ≤ b + 1 ∧ q = .int .i64 p ∧ (p ≤ b → p % 8 = 0) ∧ Filled w wr g n ys a p) (fun q _ => b + 1 - (intOf q).toNat)
        case atStart => exact ⟨p, hap, hpb, rfl, hal, hfil⟩
        case round =>
          clear hfil hal
          obtain ⟨p, hap, hpb, rfl, hal, hfil⟩ := hrel
          by_cases hp : p + 7 ≤ b
          · obtain ⟨ys', hs, hbits, hg⟩ := hfil
            have hc := hs.cell (p / 8) (by omega)
            have hf := hs.frozen (p / 8)
            have HF : Hid (Filled w (wr.setCell ⟨g, p / 8, none⟩ (.int .u8 255)) g n ys a (p + 8)) := Filled.full hap hs hbits hg (hal (by omega)) (by omega)
            have h8 : Hid (p % 8 = 0) := hal (by omega)
            clear hbits hs hg hal
            go_wp2_with fail
            go_roundw
            case rel => exact ⟨p + 8, by omega, by omega, by go_num, fun _ => by have := h8.out; omega, HF.out⟩
            case measure => simp [intOf]; omega
          · clear hal
            go_wp2_with fail
            go_loopw [1] (fun q wr => ∃ p : Nat, a ≤ p ∧ p ≤ b + 1 ∧ q = .int .i64 p ∧ Filled w wr g n ys a p) (fun q _ => b + 1 - (intOf q).toNat)
            case atStart => exact ⟨p, hap, hpb, rfl, hfil⟩
            case round =>
              clear hfil
              obtain ⟨p, hap, hpb, rfl, hfil⟩ := hrel
              by_cases hp : p ≤ b
              · obtain ⟨ys', hs, hbits, hg⟩ := hfil
                have HB : Hid (∀ k, k < n * 8 → bitAt ys' k = (bitAt ys k || decide (a ≤ k ∧ k < p))) := hbits
                clear hbits
                go_wp2_with (go_at_call 38; refine (add_any g n ys' p _ hs (by omega) hn).mono ?_; rintro e w' ⟨rfl, hT⟩)
                go_roundw
                case rel => exact ⟨p + 1, by omega, by omega, by go_num, Filled.add hap HB.out hg hT⟩
                case measure => simp [intOf]; omega
              · obtain rfl : p = b + 1 := by omega
                go_wp2_with fail
                go_end0
                exact ⟨rfl, hfil⟩

theorem run_any (g n : Nat) (ys : List Int) (f l : Int) (w : World) (h : SetIs w g n ys) (hf : 0 ≤ f) (hf2 : f ≤ 9223372036854775800) (hl : l < (n : Int) * 8) (hn : n ≤ 1048576) :
    Calls Try.prog 37 #[.slice (some ⟨g, 0, none⟩) n n, .int .i64 f, .int .i64 l] w fun e w' => e = .returned (.tuple #[]) ∧ Turned w w' g n ys (fun k => decide (f ≤ (k : Int) ∧ (k : Int) ≤ l)) := by
  by_cases hfl : l < f
  · exact run_none g n ys f l w h hf hf2 hfl
  · have := run_some g n ys f.toNat l.toNat w h (by omega) (by omega) hn
    rw [show ((f.toNat : Nat) : Int) = f by omega, show ((l.toNat : Nat) : Int) = l by omega] at this
    refine this.mono ?_
    rintro e w' ⟨rfl, ys', h1, h2, h3⟩
    refine ⟨rfl, ys', h1, fun k hk => ?_, h3⟩
    rw [h2 k hk]
    congr 1
    apply decide_eq_decide.2
    omega

end Go.Proofs.Qxb6601749a
