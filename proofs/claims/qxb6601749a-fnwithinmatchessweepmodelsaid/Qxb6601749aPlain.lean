/-
  THE PLAIN LAWS on bytes and bits. No Go in sight.
-/
import Derived.Laws.BitsAllLaws
namespace Go.Proofs.Qxb6601749a

/-- Bit i of a byte, the highest first. -/
def bit (v : Int) (i : Nat) : Bool := v.toNat.testBit (7 - i)
/-- Bit k of a row of bytes. -/
def bitAt (ys : List Int) (k : Nat) : Bool := bit (ys[k / 8]?.getD 0) (k % 8)
/-- A byte. -/
def isByte (v : Int) : Prop := 0 ≤ v ∧ v ≤ 255

theorem toNat_div (v : Int) (hv : 0 ≤ v) (k : Nat) : (v / 2 ^ k).toNat = v.toNat / 2 ^ k := by
  obtain ⟨n, rfl⟩ := Int.eq_ofNat_of_zero_le hv
  show ((n : Int) / 2 ^ k).toNat = n / 2 ^ k
  rw [show ((2 : Int) ^ k) = ((2 ^ k : Nat) : Int) by simp]
  rw [← Int.natCast_ediv]
  rfl

theorem bit_test {v : Int} (hv : isByte v) (i : Nat) : (bits .and .u8 (v / 2 ^ (7 - i)) 1 == 1) = bit v i := by
  have h0 : 0 ≤ v / 2 ^ (7 - i) := Int.ediv_nonneg hv.1 (by exact Int.le_of_lt (Int.pow_pos (by omega)))
  have h1 : v / 2 ^ (7 - i) ≤ v := Int.ediv_le_self _ hv.1
  rw [u8_and _ _ h0 (by have := hv.2; omega) (by omega) (by omega), toNat_div v hv.1]
  unfold bit
  rw [Nat.testBit_eq_decide_div_mod_eq, show (1 : Int).toNat = 1 from rfl, Nat.and_one_is_mod, Bool.eq_iff_iff]
  simp only [beq_iff_eq, decide_eq_true_eq]
  omega

theorem or_byte {a b : Int} (ha : isByte a) (hb : isByte b) : isByte (bits .or .u8 a b) ∧ ∀ i, bit (bits .or .u8 a b) i = (bit a i || bit b i) := by
  obtain ⟨a0, a1⟩ := ha
  obtain ⟨b0, b1⟩ := hb
  rw [u8_or a b a0 (by omega) b0 (by omega)]
  have hlt : a.toNat ||| b.toNat < 2 ^ 8 := Nat.or_lt_two_pow (by omega) (by omega)
  refine ⟨⟨by omega, by omega⟩, fun i => ?_⟩
  unfold bit
  rw [Int.toNat_natCast, Nat.testBit_or]

theorem and_byte {a b : Int} (ha : isByte a) (hb : isByte b) : isByte (bits .and .u8 a b) ∧ ∀ i, bit (bits .and .u8 a b) i = (bit a i && bit b i) := by
  obtain ⟨a0, a1⟩ := ha
  obtain ⟨b0, b1⟩ := hb
  rw [u8_and a b a0 (by omega) b0 (by omega)]
  have hlt : a.toNat &&& b.toNat < 2 ^ 8 := Nat.and_lt_two_pow _ (by omega)
  refine ⟨⟨by omega, by omega⟩, fun i => ?_⟩
  unfold bit
  rw [Int.toNat_natCast, Nat.testBit_and]

/-- 0x80 >> m. -/
theorem one_byte : ∀ m : Nat, m < 8 → isByte (128 / 2 ^ m) ∧ ∀ i, i < 8 → bit (128 / 2 ^ m) i = decide (i = m) := by
  intro m hm
  match m, hm with
  | 0, _ => exact ⟨⟨by decide, by decide⟩, by decide⟩
  | 1, _ => exact ⟨⟨by decide, by decide⟩, by decide⟩
  | 2, _ => exact ⟨⟨by decide, by decide⟩, by decide⟩
  | 3, _ => exact ⟨⟨by decide, by decide⟩, by decide⟩
  | 4, _ => exact ⟨⟨by decide, by decide⟩, by decide⟩
  | 5, _ => exact ⟨⟨by decide, by decide⟩, by decide⟩
  | 6, _ => exact ⟨⟨by decide, by decide⟩, by decide⟩
  | 7, _ => exact ⟨⟨by decide, by decide⟩, by decide⟩

/-- 0xff >> m. -/
theorem from_byte : ∀ m : Nat, m < 8 → isByte (255 / 2 ^ m) ∧ ∀ i, i < 8 → bit (255 / 2 ^ m) i = decide (m ≤ i) := by
  intro m hm
  match m, hm with
  | 0, _ => exact ⟨⟨by decide, by decide⟩, by decide⟩
  | 1, _ => exact ⟨⟨by decide, by decide⟩, by decide⟩
  | 2, _ => exact ⟨⟨by decide, by decide⟩, by decide⟩
  | 3, _ => exact ⟨⟨by decide, by decide⟩, by decide⟩
  | 4, _ => exact ⟨⟨by decide, by decide⟩, by decide⟩
  | 5, _ => exact ⟨⟨by decide, by decide⟩, by decide⟩
  | 6, _ => exact ⟨⟨by decide, by decide⟩, by decide⟩
  | 7, _ => exact ⟨⟨by decide, by decide⟩, by decide⟩

theorem full_byte : isByte 255 ∧ ∀ i, i < 8 → bit 255 i = true := ⟨⟨by decide, by decide⟩, by decide⟩
theorem bit_zero (i : Nat) : bit 0 i = false := by unfold bit; simp

/-- A row after one byte of it has turned. -/
theorem bitAt_set {ys : List Int} {q k : Nat} {v : Int} (hq : q < ys.length) : bitAt (ys.set q v) k = if k / 8 = q then bit v (k % 8) else bitAt ys k := by
  unfold bitAt
  by_cases h : k / 8 = q
  · rw [if_pos h, h, List.getElem?_set_self hq]; rfl
  · rw [if_neg h, List.getElem?_set_ne (by omega)]

theorem byte_get {ys : List Int} (h : ∀ v ∈ ys, isByte v) (i : Nat) : isByte (ys[i]?.getD 0) := by
  by_cases hi : i < ys.length
  · rw [List.getElem?_eq_getElem hi]; exact h _ (List.getElem_mem hi)
  · rw [List.getElem?_eq_none (by omega)]; exact ⟨by simp, by simp⟩

theorem byte_set {ys : List Int} {q : Nat} {v : Int} (h : ∀ u ∈ ys, isByte u) (hv : isByte v) : ∀ u ∈ ys.set q v, isByte u := by
  intro u hu
  rcases List.mem_or_eq_of_mem_set hu with hu | rfl
  · exact h u hu
  · exact hv

/-- Add. -/
theorem bitAt_add {ys : List Int} {j : Nat} (hb : ∀ v ∈ ys, isByte v) (hj : j / 8 < ys.length) :
    (∀ v ∈ ys.set (j / 8) (bits .or .u8 (ys[j / 8]?.getD 0) (128 / 2 ^ (j % 8))), isByte v) ∧ ∀ k, bitAt (ys.set (j / 8) (bits .or .u8 (ys[j / 8]?.getD 0) (128 / 2 ^ (j % 8)))) k = (bitAt ys k || decide (k = j)) := by
  have h1 := one_byte (j % 8) (by omega)
  have h2 := or_byte (byte_get hb (j / 8)) h1.1
  refine ⟨byte_set hb h2.1, fun k => ?_⟩
  rw [bitAt_set hj]
  by_cases h : k / 8 = j / 8
  · rw [if_pos h, h2.2, h1.2 _ (by omega)]
    unfold bitAt
    rw [h]
    congr 1
    apply decide_eq_decide.2
    omega
  · rw [if_neg h, show decide (k = j) = false from decide_eq_false (by omega), Bool.or_false]

end Go.Proofs.Qxb6601749a
