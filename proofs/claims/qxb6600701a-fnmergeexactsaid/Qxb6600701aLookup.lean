/-
  lookup: a binary search in a rising vector finds what 'get' says.
-/
import Derived.Test.Qxb6600701aSorted
namespace Go.Proofs.Qxb6600701a
open Go.RowKit

/-! ### The plain law -/
theorem get_at {s : ByteArray} : ∀ {ds : List D} {k : Nat}, Rising ds → k < ds.length → (ds[k]?.getD (ByteArray.empty, 0)).1 = s → get s ds = some (ds[k]?.getD (ByteArray.empty, 0)).2 := by
  intro ds
  induction ds with
  | nil => intro k _ hk; simp at hk
  | cons d ds ih =>
    intro k hr hk e
    match k with
    | 0 => simp at e ⊢; rw [get, if_pos e]
    | k + 1 =>
      have hk' : k < ds.length := by simpa using hk
      have hlt := hr.lt 0 (k + 1) (by omega) hk
      simp only [List.getElem?_cons_zero, Option.getD_some, List.getElem?_cons_succ] at hlt e ⊢
      rw [get, if_neg (fun h => by rw [h, e, ltA_irrefl] at hlt; cases hlt)]
      exact ih hr.2 hk' e

theorem get_none {s : ByteArray} : ∀ {ds : List D}, (∀ k, k < ds.length → (ds[k]?.getD (ByteArray.empty, 0)).1 ≠ s) → get s ds = none := by
  intro ds
  induction ds with
  | nil => intro _; rfl
  | cons d ds ih =>
    intro h
    rw [get, if_neg (by simpa using h 0 (by simp))]
    exact ih fun k hk => by simpa using h (k + 1) (by simpa using hk)

/-- Ahead of l every actor lies below s. -/
def Low (ds : List D) (s : ByteArray) (l : Nat) : Prop := ∀ k, k < l → k < ds.length → ltA (ds[k]?.getD (ByteArray.empty, 0)).1 s = true
/-- From h on none lies below s. -/
def High (ds : List D) (s : ByteArray) (h : Nat) : Prop := ∀ k, h ≤ k → k < ds.length → ltA (ds[k]?.getD (ByteArray.empty, 0)).1 s = false

theorem Low.next {ds : List D} {s : ByteArray} {m : Nat} {x : D} (hr : Rising ds) (hm : m < ds.length) (hx : x = ds[m]?.getD (ByteArray.empty, 0)) (e : Op.bytesLess x.1.toList s.toList = true) : Low ds s (m + 1) := by
  intro k hk hl
  subst hx
  by_cases hkm : k = m
  · subst hkm; exact e
  · exact ltA_trans (hr.lt k m (by omega) hm) e

theorem High.next {ds : List D} {s : ByteArray} {m : Nat} {x : D} (hr : Rising ds) (hm : m < ds.length) (hx : x = ds[m]?.getD (ByteArray.empty, 0)) (e : Op.bytesLess x.1.toList s.toList = false) : High ds s m := by
  intro k hk hl
  subst hx
  by_cases hkm : k = m
  · subst hkm; exact e
  · cases hlt : ltA (ds[k]?.getD (ByteArray.empty, 0)).1 s with
    | false => rfl
    | true =>
      have := ltA_trans (hr.lt m k (by omega) hl) hlt
      unfold ltA at this
      rw [e] at this; cases this

theorem found {ds : List D} {s : ByteArray} {l : Nat} {x : D} (hr : Rising ds) (hl : l < ds.length) (hx : x = ds[l]?.getD (ByteArray.empty, 0)) (e : (x.1.toList == s.toList) = true) : get s ds = some x.2 := by
  subst hx
  exact get_at hr hl (toList_inj (by simpa using e))

theorem missing {ds : List D} {s : ByteArray} {l h : Nat} (hlow : Low ds s l) (hhigh : High ds s h) (hlh : h ≤ l) (hr : Rising ds) (hne : l < ds.length → ((ds[l]?.getD (ByteArray.empty, 0)).1.toList == s.toList) = false) : get s ds = none := by
  apply get_none
  intro k hk e
  by_cases h1 : k < l
  · have := hlow k h1 hk
    rw [e, ltA_irrefl] at this; cases this
  · by_cases h2 : k = l
    · subst h2
      have h3 := hne hk
      rw [e] at h3; simp at h3
    · have hkl := hhigh l (by omega) (by omega)
      have hlt := hr.lt l k (by omega) hk
      rw [e] at hlt
      rw [hlt] at hkl; cases hkl

theorem said {s : ByteArray} {ds : List D} {o : Option Int} (h : get s ds = o) : Ending.returned (.tuple #[.int .u64 (o.getD 0), .bool o.isSome]) = .returned (.tuple #[.int .u64 ((get s ds).getD 0), .bool (get s ds).isSome]) := by rw [h]

set_option maxHeartbeats 400000 in
theorem lookup_any (a : Option Addr) (n c : Nat) (ds : List D) (s : ByteArray) (w : World) (hm : n ≤ 1048576) (h : Dots w a n ds) (hr : Rising ds) :
    Calls Try.prog 14 #[.slice a n c, .string s] w fun e w' => e = .returned (.tuple #[.int .u64 ((get s ds).getD 0), .bool (get s ds).isSome]) ∧ w' = w := by
  have HL : Hid (ds.length = n) := h.1
  rcases h.parts with ⟨hn, b, off, hc⟩ | ⟨b, off, rfl, hc⟩
  all_goals
    clear h
    go_enter Try.func14, Try.ntmps14
    go_wp2
    go_loop [6, 7] (fun lo hi => ∃ l h : Nat, l ≤ h ∧ h ≤ n ∧ lo = .int .i64 l ∧ hi = .int .i64 h ∧ Low ds s l ∧ High ds s h) (fun lo hi => (intOf hi).toNat - (intOf lo).toNat)
    case atStart => exact ⟨0, n, by omega, Nat.le_refl _, rfl, rfl, fun k hk => by omega, fun k hk hl => by have := HL.out; omega⟩
    case round =>
      obtain ⟨l, h, hlh, hhn, rfl, rfl, hlow, hhigh⟩ := hrel
      by_cases hlt : l < h
      · first
          | (exfalso; omega)
          | (obtain ⟨x, hX, c0⟩ : ∃ x : D, Hid (x = ds[l + (h - l) / 2]?.getD (ByteArray.empty, 0)) ∧ w.cell? ⟨b, off + (l + (h - l) / 2) * 2, none⟩ = some (.string x.1) := ⟨_, rfl, (hc (l + (h - l) / 2) (by omega)).1⟩
             cases hxy : Op.bytesLess x.1.toList s.toList with
             | true =>
               go_wp2
               go_round
               case rel => exact ⟨l + (h - l) / 2 + 1, h, by omega, hhn, by go_num, rfl, Low.next hr (by have := HL.out; omega) hX.out hxy, hhigh⟩
               case measure => simp [intOf]; omega
             | false =>
               go_wp2
               go_round
               case rel => exact ⟨l, l + (h - l) / 2, by omega, by omega, rfl, by go_num, hlow, High.next hr (by have := HL.out; omega) hX.out hxy⟩
               case measure => simp [intOf]; omega)
      · have c0 := fun h => (hc l h).1
        have c1 := fun h => (hc l h).2
        go_wp2
        all_goals first
          | (have e : ((ds[l]?.getD (ByteArray.empty, 0)).1.toList == s.toList) = true := by assumption
             have hln : l < n := by assumption
             go_ret2
             exact ⟨said (found hr (by have := HL.out; omega) rfl e), rfl⟩)
          | (have e : ((ds[l]?.getD (ByteArray.empty, 0)).1.toList == s.toList) = false := by assumption
             go_ret2
             exact ⟨said (missing hlow hhigh (by omega) hr (fun _ => e)), rfl⟩)
          | (have hln : ¬ l < n := by assumption
             go_ret2
             exact ⟨said (missing hlow hhigh (by omega) hr (fun h => by have := HL.out; omega)), rfl⟩)

end Go.Proofs.Qxb6600701a
