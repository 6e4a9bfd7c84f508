/-
  toVector makes a fresh slice of the same dots.
-/
import Derived.Test.Qxb6600701aCounter
import Derived.RegionTactic
import Derived.BigRegion
namespace Go.Proofs.Qxb6600701a
open Go.RowKit

theorem Try.info35 : (Try.prog.info? 35).map (fun i => (i.zero, i.size, i.bytes)) = some (some (.agg #[.string ByteArray.empty, .int .u64 0]), 2, 24) := by kernel_rfl

/-- The cells of a list of dots. -/
def cellsOf (ds : List (ByteArray × Int)) : List Value := ds.flatMap fun d => [.string d.1, .int .u64 d.2]

theorem cellsOf_length (ds : List (ByteArray × Int)) : (cellsOf ds).length = ds.length * 2 := by
  induction ds with
  | nil => rfl
  | cons d ds ih => simp only [cellsOf, List.flatMap_cons, List.length_append, List.length_cons, List.length_nil] at ih ⊢; omega

theorem cellsOf_append (ds es : List (ByteArray × Int)) : cellsOf (ds ++ es) = cellsOf ds ++ cellsOf es := by simp [cellsOf]

theorem cellsOf_at0 (ds : List (ByteArray × Int)) : ∀ (k : Nat), k < ds.length → (cellsOf ds)[k * 2]? = some (.string (ds[k]?.getD (ByteArray.empty, 0)).1) ∧ (cellsOf ds)[k * 2 + 1]? = some (.int .u64 (ds[k]?.getD (ByteArray.empty, 0)).2) := by
  induction ds with
  | nil => intro k hk; simp at hk
  | cons d ds ih =>
    intro k hk
    match k with
    | 0 => simp [cellsOf]
    | k + 1 =>
      have := ih k (by simpa using hk)
      have e1 : (k + 1) * 2 = k * 2 + 2 := by omega
      simp only [cellsOf, List.flatMap_cons, e1] at this ⊢
      simpa using this

theorem dots_of_owns {w : World} {base g n cap : Nat} {ds : List (ByteArray × Int)} (hl : ds.length = n) (h : w.ownsRow base 35 2 (.slice (some ⟨g, 0, none⟩) n cap) n (cellsOf ds)) : Dots w (some ⟨g, 0, none⟩) n ds := by
  refine ⟨hl, Or.inr ⟨g, 0, rfl, fun k hk => ?_⟩⟩
  have c := cellsOf_at0 ds k (by omega)
  have e0 := h.cellAt (k * 2) (by omega)
  have e1 := h.cellAt (k * 2 + 1) (by omega)
  rw [c.1] at e0
  rw [c.2] at e1
  simpa [List.getD] using ⟨e0, e1⟩

/-- The cells at a known address. -/
theorem Dots.own {w : World} {g n : Nat} {ds : List (ByteArray × Int)} (h : Dots w (some ⟨g, 0, none⟩) n ds) (k : Nat) (hk : k < n) :
    w.cell? ⟨g, k * 2, none⟩ = some (.string (ds[k]?.getD (ByteArray.empty, 0)).1) ∧ w.cell? ⟨g, k * 2 + 1, none⟩ = some (.int .u64 (ds[k]?.getD (ByteArray.empty, 0)).2) := by
  rcases h.2 with h0 | ⟨b, off, ha, hc⟩
  · omega
  · simp only [Option.some.injEq, Addr.mk.injEq, and_true] at ha
    obtain ⟨rfl, rfl⟩ := ha
    simpa [List.getD] using hc k hk

/-- A new block of one dot. -/
theorem Dots.one (w : World) (s : ByteArray) (c : Int) : Dots (w.alloc (.cells #[.string s, .int .u64 c] 35)) (some ⟨w.heap.size, 0, none⟩) 1 [(s, c)] := by
  refine ⟨rfl, Or.inr ⟨w.heap.size, 0, rfl, fun k hk => ?_⟩⟩
  obtain rfl : k = 0 := by omega
  simp

/-- A vector as the law's own text holds it: its dots, its capacity. -/
structure Vec (w : World) (a : Option Addr) (n c : Nat) (ds : List (ByteArray × Int)) : Prop where
  dots : Dots w a n ds
  room : n ≤ c
  nil : a = none → c = 0
  big : c ≤ 9223372036854775807
  addr : a = none ∨ ∃ g, a = some ⟨g, 0, none⟩

theorem Vec.below {w w' : World} {a : Option Addr} {n c : Nat} {ds : List (ByteArray × Int)} (h : Vec w a n c ds) (hb : Below w.heap.size w w') : Vec w' a n c ds := ⟨h.dots.below hb, h.room, h.nil, h.big, h.addr⟩

theorem Vec.none {w : World} : Vec w Option.none 0 0 [] := ⟨Dots.nil _ _, Nat.le_refl _, fun _ => rfl, by omega, Or.inl rfl⟩

theorem vec_of_owns {w : World} {base g n cap : Nat} {ds : List (ByteArray × Int)} (hl : ds.length = n) (h : w.ownsRow base 35 2 (.slice (some ⟨g, 0, Option.none⟩) n cap) n (cellsOf ds)) : Vec w (some ⟨g, 0, Option.none⟩) n cap ds := by
  refine ⟨dots_of_owns hl h, ?_, (fun e => by simp at e), ?_, Or.inr ⟨g, rfl⟩⟩
  all_goals
    rcases h.2 with ⟨h', _⟩ | ⟨g', cap', cur, h', _, _, hnc, hcm, _, _⟩
    · simp at h'
    · simp only [Value.slice.injEq, true_and] at h'
      obtain ⟨_, rfl⟩ := h'
      first | exact hnc | (simpa [maxLen] using hcm)

/-- The cells behind the address, for an append of the whole vector. -/
theorem Dots.cells {w : World} {a : Option Addr} {n : Nat} {ds : List (ByteArray × Int)} (h : Dots w a n ds) : ∀ ad, a = some ad → ∀ j u, (cellsOf ds)[j]? = some u → w.cell? (ad.add j) = some u := by
  intro ad had j u hu
  obtain ⟨hl, h2⟩ := h
  have hj := (List.getElem?_eq_some_iff.1 hu).1
  rw [cellsOf_length, hl] at hj
  rcases h2 with h0 | ⟨b, off, ha, hc⟩
  · omega
  · rw [ha] at had
    obtain rfl := Option.some.inj had
    have ck := cellsOf_at0 ds (j / 2) (by omega)
    have g := hc (j / 2) (by omega)
    simp only [List.getD] at g
    rw [Addr.add_lit]
    rcases Nat.mod_two_eq_zero_or_one j with e | e
    · have ej : j / 2 * 2 = j := by omega
      rw [ej] at ck g
      rw [ck.1] at hu
      rw [g.1]; exact hu
    · have ej : j / 2 * 2 + 1 = j := by omega
      rw [ej] at ck
      rw [Nat.add_assoc, ej] at g
      rw [ck.2] at hu
      rw [g.2]; exact hu

theorem cellsOf_one (ds : List (ByteArray × Int)) : ∀ u ∈ cellsOf ds, u.oneCell' = true := by
  intro u hu
  simp only [cellsOf, List.mem_flatMap] at hu
  obtain ⟨d, _, hd⟩ := hu
  simp at hd
  rcases hd with rfl | rfl <;> rfl

/-- What the loop has laid so far: the first k dots' cells. -/
def Laid (xs : List Value) (ds : List (ByteArray × Int)) (k : Nat) : Prop := ∀ i, i < k * 2 → xs[i]? = (cellsOf ds)[i]?

theorem Laid.start (xs : List Value) (ds : List (ByteArray × Int)) : Laid xs ds 0 := fun i hi => by omega

theorem Laid.step {xs : List Value} {ds : List (ByteArray × Int)} {k : Nat} (h : Laid xs ds k) (hx : xs.length = ds.length * 2) (hk : k < ds.length) :
    Laid ((xs.set (k * 2) (.string (ds[k]?.getD (ByteArray.empty, 0)).1)).set (k * 2 + 1) (.int .u64 (ds[k]?.getD (ByteArray.empty, 0)).2)) ds (k + 1) := by
  intro i hi
  have c := cellsOf_at0 ds k hk
  by_cases h3 : i = k * 2 + 1
  · subst h3
    rw [c.2, List.getElem?_set_self (by simp; omega)]
  · rw [List.getElem?_set_ne (by omega)]
    by_cases h2 : i = k * 2
    · subst h2
      rw [c.1, List.getElem?_set_self (by omega)]
    · rw [List.getElem?_set_ne (by omega)]
      exact h i (by omega)

theorem Laid.done {xs : List Value} {ds : List (ByteArray × Int)} {k : Nat} (h : Laid xs ds k) (hx : xs.length = ds.length * 2) (hk : ds.length ≤ k) : xs = cellsOf ds := by
  apply List.ext_getElem?
  intro i
  by_cases hi : i < k * 2
  · exact h i hi
  · rw [List.getElem?_eq_none (by omega), List.getElem?_eq_none (by rw [cellsOf_length]; omega)]

set_option maxHeartbeats 400000 in
theorem toVector_any (a : Option Addr) (n c : Nat) (ds : List (ByteArray × Int)) (w : World) (hm : n ≤ 1048576) (h : Dots w a n ds) :
    Calls Try.prog 11 #[.slice a n c] w fun e w' => ∃ a' c', e = .returned (.slice a' n c') ∧ Vec w' a' n c' ds ∧ Below w.heap.size w w' ∧ (0 < n → a' = some ⟨w.heap.size, 0, none⟩ ∧ c' = n) := by
  have HL : Hid (ds.length = n) := h.1
  obtain ⟨i0, hi, hz0, hz1, hz2⟩ := info_parts Try.info35
  have hnil := fun (w : World) (a : Option Addr) (n c n' c' : Nat) => Lib.run_eql_slice_nil (P := Try.prog) w 22 44 a n c n' c' Try.underlying22
  rcases h.parts with ⟨hn, b, off, hc⟩ | ⟨b, off, rfl, hc⟩
  · obtain rfl : n = 0 := by omega
    obtain rfl : ds = [] := List.eq_nil_of_length_eq_zero HL.out
    clear h
    rcases a with _ | ad
    · go_enter Try.func11, Try.ntmps11
      go_wp2
      go_ret
      exact ⟨_, _, rfl, Vec.none, Below.refl _ _, fun h => by omega⟩
    · go_enter Try.func11, Try.ntmps11
      go_wp2_with (at_make; refine wpList_make_full _ rfl _ _ 27 rfl w.heap.size 35 i0 _ 2 Try.underlying27 hi hz0 hz1 _ _ _ _ 0 rfl rfl rfl rfl ?b2 ?b3 (Nat.le_refl _) ?_)
      case b2 => rw [hz2]; omega
      case b3 => unfold maxLen; omega
      intro w0 hown0 hgrow0
      go_wp2
      refine wp_loop_rounds 1 ?_
      rw [rounds_succ]
      go_wp2
      go_ret
      exact ⟨_, _, rfl, ⟨Dots.nil _ _, Nat.le_refl _, fun _ => rfl, by omega, Or.inr ⟨_, rfl⟩⟩, (Below.refl _ _).grown hgrow0 (Nat.le_refl _) (fun k h => by cases h), fun h => by omega⟩
  · clear h
    go_enter Try.func11, Try.ntmps11
    go_wp2_with (at_make; refine wpList_make_full _ rfl _ _ 27 rfl w.heap.size 35 i0 _ 2 Try.underlying27 hi hz0 hz1 _ _ _ _ n rfl rfl rfl rfl ?b2 ?b3 (Nat.le_refl _) ?_)
    case b2 => rw [hz2]; omega
    case b3 => unfold maxLen; omega
    intro w0 hown0 hgrow0
    go_wp2
    go_loopw [4] (fun i wr => ∃ (k : Nat) (xs : List Value), k ≤ n ∧ i = .int .i64 k ∧ wr.ownsRow w.heap.size 35 2 (.slice (some ⟨w.heap.size, 0, none⟩) n n) n xs ∧ Laid xs ds k ∧ Below w.heap.size w wr) (fun i _ => n - (intOf i).toNat)
    case atStart => exact ⟨0, _, Nat.zero_le _, rfl, hown0, Laid.start _ _, (Below.refl _ _).grown hgrow0 (Nat.le_refl _) (fun k h => by cases h)⟩
    case round =>
      obtain ⟨k, xs, hk, rfl, hown, hlaid, hb⟩ := hrel
      have HX : Hid (xs.length = n * 2) := hown.1
      by_cases hlt : k < n
      · have g := hc k hlt
        have c0 := (hb.cell (p := ⟨b, off + k * 2, none⟩) (World.block_lt_of_cell? w _ g.1)).trans g.1
        have c1 := (hb.cell (p := ⟨b, off + k * 2 + 1, none⟩) (World.block_lt_of_cell? w _ g.2)).trans g.2
        obtain ⟨v0, d0⟩ : ∃ v, wr.cell? ⟨w.heap.size, k * 2, none⟩ = some v := by
          have := HX.out
          exact ⟨xs[k * 2]'(by omega), by rw [hown.cellAt (k * 2) (by omega), List.getElem?_eq_getElem]⟩
        obtain ⟨v1, d1⟩ : ∃ v, wr.cell? ⟨w.heap.size, k * 2 + 1, none⟩ = some v := by
          have := HX.out
          exact ⟨xs[k * 2 + 1]'(by omega), by rw [hown.cellAt (k * 2 + 1) (by omega), List.getElem?_eq_getElem]⟩
        have f0 := hown.frozenAt (k * 2)
        have f1 := hown.frozenAt (k * 2 + 1)
        clear g hc
        go_wp2
        go_region
        go_wp2
        have st := ((hown.stored (k * 2) (.string (ds[k]?.getD (ByteArray.empty, 0)).1)).1.stored (k * 2 + 1) (.int .u64 (ds[k]?.getD (ByteArray.empty, 0)).2)).1
        go_roundw
        case rel => exact ⟨k + 1, _, by omega, by go_num, st, hlaid.step (by have := HX.out; have := HL.out; omega) (by have := HL.out; omega), ((hb.setCell (p := ⟨w.heap.size, k * 2, none⟩) (Nat.le_refl _) _).setCell (p := ⟨w.heap.size, k * 2 + 1, none⟩) (Nat.le_refl _) _).drew⟩
        case measure => simp [intOf]; omega
      · go_wp2
        go_ret
        have hx : xs = cellsOf ds := hlaid.done (by have := HX.out; have := HL.out; omega) (by have := HL.out; omega)
        rw [hx] at hown
        exact ⟨_, _, rfl, vec_of_owns HL.out hown, hb, fun _ => ⟨rfl, rfl⟩⟩

end Go.Proofs.Qxb6600701a
