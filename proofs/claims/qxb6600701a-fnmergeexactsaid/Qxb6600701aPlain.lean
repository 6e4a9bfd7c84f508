/-
  THE PLAIN LAWS: lists of dots (actor, counter), the merge of two of them, and what a strictly rising list is told by. No Go in sight.
-/
import Derived.Test.Qxb6600701aCounter
import Derived.WideShapes
namespace Go.Proofs.Qxb6600701a

/-- Go's '<' on strings. -/
def ltA (s t : ByteArray) : Bool := Op.bytesLess s.toList t.toList

theorem bytesLess_lt : ∀ (x y : List UInt8), Op.bytesLess x y = decide (x < y)
  | [], [] => by simp [Op.bytesLess]
  | _ :: _, [] => by simp [Op.bytesLess]
  | [], _ :: _ => by simp [Op.bytesLess]
  | a :: x, b :: y => by
    rw [Op.bytesLess, bytesLess_lt x y]
    simp only [List.cons_lt_cons_iff]
    by_cases h1 : a < b <;> by_cases h2 : a = b <;> by_cases h3 : x < y <;> simp [h1, h2, h3]

theorem ltA_iff (s t : ByteArray) : ltA s t = true ↔ s.toList < t.toList := by unfold ltA; rw [bytesLess_lt]; simp

theorem ltA_irrefl (s : ByteArray) : ltA s s = false := by
  have : ¬ ltA s s = true := by rw [ltA_iff]; exact List.lt_irrefl _
  simpa using this

theorem ltA_trans {s t u : ByteArray} (h : ltA s t = true) (k : ltA t u = true) : ltA s u = true := by
  rw [ltA_iff] at *; exact List.lt_trans h k

theorem ltA_asymm {s t : ByteArray} (h : ltA s t = true) : ltA t s = false := by
  have : ¬ ltA t s = true := fun k => by have := ltA_trans h k; rw [ltA_irrefl] at this; cases this
  simpa using this

theorem toList_inj {s t : ByteArray} (h : s.toList = t.toList) : s = t := by
  rw [ByteArray.toList_eq, ByteArray.toList_eq] at h; exact WideShapes.bytes_inj h

theorem ltA_total {s t : ByteArray} (h : ltA s t = false) (k : ltA t s = false) : s = t := by
  apply toList_inj
  have h' : ¬ s.toList < t.toList := fun e => by rw [← ltA_iff, h] at e; cases e
  have k' : ¬ t.toList < s.toList := fun e => by rw [← ltA_iff, k] at e; cases e
  exact List.le_antisymm (List.not_lt.1 k') (List.not_lt.1 h')

abbrev D := ByteArray × Int

/-- The counter of the first dot of that actor. -/
def get (s : ByteArray) : List D → Option Int
  | [] => none
  | d :: ds => if d.1 = s then some d.2 else get s ds

/-- Every actor of the list lies above s. -/
def Above (s : ByteArray) (ds : List D) : Prop := ∀ d ∈ ds, ltA s d.1 = true

/-- The actors rise strictly. -/
def Rising : List D → Prop
  | [] => True
  | d :: ds => Above d.1 ds ∧ Rising ds

theorem get_above {s t : ByteArray} {ds : List D} (h : Above t ds) (hs : s = t ∨ ltA s t = true) : get s ds = none := by
  induction ds with
  | nil => rfl
  | cons d ds ih =>
    have hd : ltA t d.1 = true := h d (by simp)
    have hsd : ltA s d.1 = true := by
      rcases hs with rfl | hs
      · exact hd
      · exact ltA_trans hs hd
    rw [get, if_neg (fun e => by rw [e, ltA_irrefl] at hsd; cases hsd)]
    exact ih (fun e he => h e (by simp [he]))

theorem get_mem {s : ByteArray} {ds : List D} {c : Int} (h : get s ds = some c) : (s, c) ∈ ds := by
  induction ds with
  | nil => simp [get] at h
  | cons d ds ih =>
    rw [get] at h
    split at h
    · rename_i e
      simp only [Option.some.injEq] at h
      subst h; subst e
      simp
    · simp [ih h]

/-- A rising list is told by what it gives for each actor. -/
theorem Rising.ext {ds : List D} : ∀ {es : List D}, Rising ds → Rising es → (∀ s, get s ds = get s es) → ds = es := by
  induction ds with
  | nil =>
    intro es _ _ h
    cases es with
    | nil => rfl
    | cons e es => have := h e.1; simp [get] at this
  | cons d ds ih =>
    intro es hd he h
    cases es with
    | nil => have := h d.1; simp [get] at this
    | cons e es =>
      have key : d.1 = e.1 := by
        apply ltA_total
        · cases hlt : ltA d.1 e.1 with
          | false => rfl
          | true =>
            have h1 := h d.1
            rw [get, if_pos rfl, get, if_neg (fun e' => by rw [e', ltA_irrefl] at hlt; cases hlt), get_above he.1 (Or.inr hlt)] at h1
            cases h1
        · cases hlt : ltA e.1 d.1 with
          | false => rfl
          | true =>
            have h1 := h e.1
            rw [get, get, if_pos rfl, if_neg (fun e' => by rw [e', ltA_irrefl] at hlt; cases hlt), get_above hd.1 (Or.inr hlt)] at h1
            cases h1
      have val : d.2 = e.2 := by
        have h1 := h d.1
        rw [get, if_pos rfl, get, if_pos key.symm] at h1
        exact Option.some.inj h1
      have rest : ds = es := by
        apply ih hd.2 he.2
        intro s
        by_cases hs : d.1 = s
        · subst hs
          rw [get_above hd.1 (Or.inl rfl), get_above he.1 (Or.inl key)]
        · have h1 := h s
          rwa [get, if_neg hs, get, if_neg (by rwa [← key])] at h1
      rw [rest, show d = e from Prod.ext key val]

/-! ### The merge -/

def mrgIn (x : D) (xs : List D) (f : List D → List D) : List D → List D
  | [] => x :: xs
  | y :: ys => if ltA x.1 y.1 = true then x :: f (y :: ys) else if ltA y.1 x.1 = true then y :: mrgIn x xs f ys else (x.1, max x.2 y.2) :: f ys

def mrg : List D → List D → List D
  | [] => fun ys => ys
  | x :: xs => mrgIn x xs (mrg xs)

theorem mrg_nil_left (ys : List D) : mrg [] ys = ys := rfl
theorem mrg_nil_right (xs : List D) : mrg xs [] = xs := by cases xs <;> rfl
theorem mrg_cons (x y : D) (xs ys : List D) : mrg (x :: xs) (y :: ys) = if ltA x.1 y.1 = true then x :: mrg xs (y :: ys) else if ltA y.1 x.1 = true then y :: mrg (x :: xs) ys else (x.1, max x.2 y.2) :: mrg xs ys := rfl

/-- The larger of two counters, where there are any. -/
def omax : Option Int → Option Int → Option Int
  | none, y => y
  | some x, none => some x
  | some x, some y => some (max x y)

theorem omax_none (x : Option Int) : omax x none = x := by cases x <;> rfl
theorem omax_comm (x y : Option Int) : omax x y = omax y x := by cases x <;> cases y <;> simp [omax, Int.max_comm]
theorem omax_assoc (x y z : Option Int) : omax (omax x y) z = omax x (omax y z) := by cases x <;> cases y <;> cases z <;> simp [omax, Int.max_assoc]
theorem omax_self (x : Option Int) : omax x x = x := by cases x <;> simp [omax]

theorem above_mrg {s : ByteArray} : ∀ (xs ys : List D), Above s xs → Above s ys → Above s (mrg xs ys) := by
  intro xs
  induction xs with
  | nil => intro ys _ h; exact h
  | cons x xs ih =>
    intro ys
    induction ys with
    | nil => intro h _; exact h
    | cons y ys ih2 =>
      intro hx hy
      have hx' : Above s xs := fun d hd => hx d (by simp [hd])
      have hy' : Above s ys := fun d hd => hy d (by simp [hd])
      rw [mrg_cons]
      split
      · intro d hd
        rcases List.mem_cons.1 hd with rfl | hd
        · exact hx d (by simp)
        · exact ih (y :: ys) hx' hy d hd
      · split
        · intro d hd
          rcases List.mem_cons.1 hd with rfl | hd
          · exact hy d (by simp)
          · exact ih2 hx hy' d hd
        · intro d hd
          rcases List.mem_cons.1 hd with rfl | hd
          · exact hx x (by simp)
          · exact ih ys hx' hy' d hd

theorem Above.trans {s t : ByteArray} {ds : List D} (h : ltA s t = true) (k : Above t ds) : Above s ds := fun d hd => ltA_trans h (k d hd)

theorem rising_mrg : ∀ (xs ys : List D), Rising xs → Rising ys → Rising (mrg xs ys) := by
  intro xs
  induction xs with
  | nil => intro ys _ h; exact h
  | cons x xs ih =>
    intro ys
    induction ys with
    | nil => intro h _; exact h
    | cons y ys ih2 =>
      intro hx hy
      rw [mrg_cons]
      split
      · rename_i h1
        refine ⟨above_mrg _ _ hx.1 ?_, ih (y :: ys) hx.2 hy⟩
        intro d hd
        rcases List.mem_cons.1 hd with rfl | hd
        · exact h1
        · exact ltA_trans h1 (hy.1 d hd)
      · split
        · rename_i h1
          refine ⟨above_mrg _ _ ?_ hy.1, ih2 hx hy.2⟩
          intro d hd
          rcases List.mem_cons.1 hd with rfl | hd
          · exact h1
          · exact ltA_trans h1 (hx.1 d hd)
        · rename_i h1 h2
          have e : x.1 = y.1 := ltA_total (by simpa using h1) (by simpa using h2)
          refine ⟨above_mrg _ _ hx.1 ?_, ih ys hx.2 hy.2⟩
          rw [show ((x.1, max x.2 y.2) : D).1 = y.1 from e]
          exact hy.1

theorem get_mrg (s : ByteArray) : ∀ (xs ys : List D), Rising xs → Rising ys → get s (mrg xs ys) = omax (get s xs) (get s ys) := by
  intro xs
  induction xs with
  | nil => intro ys _ _; rfl
  | cons x xs ih =>
    intro ys
    induction ys with
    | nil => intro _ _; rw [mrg_nil_right]; simp [get, omax_none]
    | cons y ys ih2 =>
      intro hx hy
      rw [mrg_cons]
      split
      · rename_i h1
        rw [get]
        by_cases e : x.1 = s
        · subst e
          have hz : get x.1 (y :: ys) = none := by
            rw [get, if_neg (fun e' => by rw [e', ltA_irrefl] at h1; cases h1)]
            exact get_above hy.1 (Or.inr h1)
          rw [if_pos rfl, hz, omax_none, get, if_pos rfl]
        · rw [if_neg e, ih (y :: ys) hx.2 hy]
          congr 1
          rw [get, if_neg e]
      · split
        · rename_i h1
          rw [get]
          by_cases e : y.1 = s
          · subst e
            have hz : get y.1 (x :: xs) = none := by
              rw [get, if_neg (fun e' => by rw [e', ltA_irrefl] at h1; cases h1)]
              exact get_above hx.1 (Or.inr h1)
            rw [if_pos rfl, hz, get, if_pos rfl]
            rfl
          · rw [if_neg e, ih2 hx hy.2]
            congr 1
            rw [get, if_neg e]
        · rename_i h1 h2
          have e : x.1 = y.1 := ltA_total (by simpa using h1) (by simpa using h2)
          rw [get]
          by_cases es : x.1 = s
          · rw [if_pos es, get, if_pos es, get, if_pos (by rw [← e]; exact es)]
            rfl
          · rw [if_neg es, ih ys hx.2 hy.2, get, if_neg es, get, if_neg (by rw [← e]; exact es)]

/-! ### The laws of the merge -/

theorem mrg_comm {xs ys : List D} (hx : Rising xs) (hy : Rising ys) : mrg xs ys = mrg ys xs :=
  Rising.ext (rising_mrg _ _ hx hy) (rising_mrg _ _ hy hx) fun s => by rw [get_mrg s _ _ hx hy, get_mrg s _ _ hy hx, omax_comm]

theorem mrg_self {xs : List D} (hx : Rising xs) : mrg xs xs = xs :=
  Rising.ext (rising_mrg _ _ hx hx) hx fun s => by rw [get_mrg s _ _ hx hx, omax_self]

theorem mrg_assoc {xs ys zs : List D} (hx : Rising xs) (hy : Rising ys) (hz : Rising zs) : mrg (mrg xs ys) zs = mrg xs (mrg ys zs) :=
  Rising.ext (rising_mrg _ _ (rising_mrg _ _ hx hy) hz) (rising_mrg _ _ hx (rising_mrg _ _ hy hz)) fun s => by
    rw [get_mrg s _ _ (rising_mrg _ _ hx hy) hz, get_mrg s _ _ hx hy, get_mrg s _ _ hx (rising_mrg _ _ hy hz), get_mrg s _ _ hy hz, omax_assoc]

theorem mrg_length_le : ∀ (xs ys : List D), (mrg xs ys).length ≤ xs.length + ys.length := by
  intro xs
  induction xs with
  | nil => intro ys; simp [mrg_nil_left]
  | cons x xs ih =>
    intro ys
    induction ys with
    | nil => rw [mrg_nil_right]; simp
    | cons y ys ih2 =>
      rw [mrg_cons]
      split
      · have := ih (y :: ys); simp at this ⊢; omega
      · split
        · simp at ih2 ⊢; omega
        · have := ih ys; simp at this ⊢; omega

/-- (Vector).Counter, by 'get'. -/
theorem cnt_get (s : ByteArray) (ds : List D) : cnt s ds = (get s ds).getD 0 := by
  induction ds with
  | nil => rfl
  | cons d ds ih =>
    rw [cnt, get]
    by_cases e : d.1 = s
    · rw [if_pos (by rw [e]; simp), if_pos e]; rfl
    · rw [if_neg (fun h => e (toList_inj (by simpa using h))), if_neg e]; exact ih

/-- Neighbours rise: the list rises. -/
theorem Rising.of_next {ds : List D} (h : ∀ k, k + 1 < ds.length → ltA (ds[k]?.getD (ByteArray.empty, 0)).1 (ds[k + 1]?.getD (ByteArray.empty, 0)).1 = true) : Rising ds := by
  induction ds with
  | nil => trivial
  | cons d ds ih =>
    have hr : Rising ds := ih fun k hk => by simpa using h (k + 1) (by simpa using hk)
    refine ⟨?_, hr⟩
    cases ds with
    | nil => intro e he; simp at he
    | cons e es =>
      have h0 : ltA d.1 e.1 = true := by simpa using h 0 (by simp)
      intro x hx
      rcases List.mem_cons.1 hx with rfl | hx
      · exact h0
      · exact ltA_trans h0 (hr.1 x hx)

theorem Rising.lt {ds : List D} (h : Rising ds) : ∀ i j, i < j → j < ds.length → ltA (ds[i]?.getD (ByteArray.empty, 0)).1 (ds[j]?.getD (ByteArray.empty, 0)).1 = true := by
  induction ds with
  | nil => intro i j _ hj; simp at hj
  | cons d ds ih =>
    intro i j hij hj
    match i, j with
    | _, 0 => omega
    | 0, j + 1 =>
      have hj' : j < ds.length := by simpa using hj
      simp only [List.getElem?_cons_zero, List.getElem?_cons_succ, Option.getD_some, List.getElem?_eq_getElem hj']
      exact h.1 _ (List.getElem_mem hj')
    | i + 1, j + 1 => simpa using ih h.2 i j (by omega) (by simpa using hj)

end Go.Proofs.Qxb6600701a
