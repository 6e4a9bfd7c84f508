/-
  FnMergeSemilattice returns true.
-/
import Derived.Test.Qxb6600701aMergeAll
import Derived.Test.Qxb6600701aZ18
namespace Go.Proofs.Qxb6600701a
open Go.RowKit

theorem mrg_le {ds es : List D} {n n' m : Nat} (h : ds.length = n) (h' : es.length = n') (hm : (mrg ds es).length = m) : m ≤ n + n' := by
  have := mrg_length_le ds es; omega

set_option maxHeartbeats 400000 in
theorem semi_long (a0 : Option Addr) (n0 c0 : Nat) (ds0 : List D) (a1 : Option Addr) (n1 c1 : Nat) (ds1 : List D) (a2 : Option Addr) (n2 c2 : Nat) (ds2 : List D) (w : World) (h0 : Dots w a0 n0 ds0) (h1 : Dots w a1 n1 ds1) (h2 : Dots w a2 n2 ds2)
    (hbig : 65536 < n0 ∨ (n0 ≤ 65536 ∧ 65536 < n1) ∨ (n0 ≤ 65536 ∧ n1 ≤ 65536 ∧ 65536 < n2)) :
    Calls Try.prog 5 #[.slice a0 n0 c0, .slice a1 n1 c1, .slice a2 n2 c2] w fun e w' => e = .returned (.bool true) ∧ Below w.heap.size w w' := by
  rcases hbig with hb | ⟨hb, hb'⟩ | ⟨hb, hb', hb''⟩
  all_goals
    go_enter Try.func5, Try.ntmps5
    go_wp2_with (go_at_call 18; refine (zz18_any _ _ _ _ _ _ _ _ _ _ _ _ _ h0 h1 h2).mono ?_; rintro e w' ⟨⟨r, rfl⟩, rfl⟩)
    all_goals
      go_ret
      exact ⟨rfl, Below.refl _ _⟩

set_option maxHeartbeats 2000000 in
theorem semi_short (a0 : Option Addr) (n0 c0 : Nat) (ds0 : List D) (a1 : Option Addr) (n1 c1 : Nat) (ds1 : List D) (a2 : Option Addr) (n2 c2 : Nat) (ds2 : List D) (w : World) (h0 : Dots w a0 n0 ds0) (h1 : Dots w a1 n1 ds1) (h2 : Dots w a2 n2 ds2)
    (hb0 : n0 ≤ 65536) (hb1 : n1 ≤ 65536) (hb2 : n2 ≤ 65536) :
    Calls Try.prog 5 #[.slice a0 n0 c0, .slice a1 n1 c1, .slice a2 n2 c2] w fun e w' => e = .returned (.bool true) ∧ Below w.heap.size w w' := by
  go_enter Try.func5, Try.ntmps5
  go_wp2_with fail
  refine (zz18_any _ _ _ _ _ _ _ _ _ _ _ _ _ h0 h1 h2).mono ?_
  rintro e w' ⟨⟨r, rfl⟩, hw⟩
  subst w'
  cases r
  · go_wp2_with fail
    go_ret
    exact ⟨rfl, Below.refl _ _⟩
  go_wp2_with fail
  refine (dotBytes_any a0 n0 c0 ds0 _ (by omega) h0).mono ?_
  rintro e w' ⟨⟨x0, hx0, hx0', rfl⟩, hw⟩
  subst w'
  go_wp2_with fail
  refine (dotBytes_any a1 n1 c1 ds1 _ (by omega) h1).mono ?_
  rintro e w' ⟨⟨x1, hx1, hx1', rfl⟩, hw⟩
  subst w'
  go_wp2_with fail
  refine (dotBytes_any a2 n2 c2 ds2 _ (by omega) h2).mono ?_
  rintro e w' ⟨⟨x2, hx2, hx2', rfl⟩, hw⟩
  subst w'
  by_cases hsum : x0 + x1 + x2 ≤ 1048576
  case neg =>
    go_wp2_with fail
    go_ret
    exact ⟨rfl, Below.refl _ _⟩
  go_wp2_with fail
  refine (strictlySorted_any a0 n0 c0 ds0 _ (by omega) h0).mono ?_
  rintro e y0 ⟨⟨r, rfl, hr0⟩, hs0⟩
  have hB0 := hs0
  cases r
  · go_wp2_with fail
    go_ret
    exact ⟨rfl, hB0⟩
  replace hr0 := hr0.1 rfl
  go_wp2_with fail
  refine (strictlySorted_any a1 n1 c1 ds1 _ (by omega) (h1.below hB0)).mono ?_
  rintro e y1 ⟨⟨r, rfl, hr1⟩, hs1⟩
  have hB1 := hB0.trans (hs1.mono hB0.size)
  cases r
  · go_wp2_with fail
    go_ret
    exact ⟨rfl, hB1⟩
  replace hr1 := hr1.1 rfl
  go_wp2_with fail
  refine (strictlySorted_any a2 n2 c2 ds2 _ (by omega) (h2.below hB1)).mono ?_
  rintro e y2 ⟨⟨r, rfl, hr2⟩, hs2⟩
  have hB2 := hB1.trans (hs2.mono hB1.size)
  cases r
  · go_wp2_with fail
    go_ret
    exact ⟨rfl, hB2⟩
  replace hr2 := hr2.1 rfl
  go_wp2_with fail
  refine (toVector_any a0 n0 c0 ds0 _ (by omega) (h0.below hB2)).mono ?_
  rintro e y3 ⟨va0, vc0, rfl, V0_3, hs3, -⟩
  have hB3 := hB2.trans (hs3.mono hB2.size)
  go_wp2_with fail
  refine (toVector_any a1 n1 c1 ds1 _ (by omega) (h1.below hB3)).mono ?_
  rintro e y4 ⟨va1, vc1, rfl, V1_4, hs4, -⟩
  have hB4 := hB3.trans (hs4.mono hB3.size)
  have V0_4 := V0_3.below hs4
  clear V0_3
  go_wp2_with fail
  refine (toVector_any a2 n2 c2 ds2 _ (by omega) (h2.below hB4)).mono ?_
  rintro e y5 ⟨va2, vc2, rfl, V2_5, hs5, -⟩
  have hB5 := hB4.trans (hs5.mono hB4.size)
  have V0_5 := V0_4.below hs5
  have V1_5 := V1_4.below hs5
  clear V0_4 V1_4
  clear h0 h1 h2
  go_wp2_with fail
  refine (merge_any va0 n0 vc0 ds0 va1 n1 vc1 ds1 _ (by omega) (by omega) V0_5 V1_5).mono ?_
  rintro e y6 ⟨mA, cA, rfl, A_6, hs6⟩
  have hB6 := hB5.trans (hs6.mono hB5.size)
  have hlA := mrg_le V0_5.dots.1 V1_5.dots.1 A_6.dots.1
  have V0_6 := V0_5.below hs6
  have V1_6 := V1_5.below hs6
  have V2_6 := V2_5.below hs6
  clear V0_5 V1_5 V2_5
  go_wp2_with fail
  refine (merge_any va1 n1 vc1 ds1 va0 n0 vc0 ds0 _ (by omega) (by omega) V1_6 V0_6).mono ?_
  rintro e y7 ⟨mB, cB, rfl, B_7, hs7⟩
  have hB7 := hB6.trans (hs7.mono hB6.size)
  have hlB := mrg_le V1_6.dots.1 V0_6.dots.1 B_7.dots.1
  have V0_7 := V0_6.below hs7
  have V1_7 := V1_6.below hs7
  have V2_7 := V2_6.below hs7
  have A_7 := A_6.below hs7
  clear V0_6 V1_6 V2_6 A_6
  go_wp2_with fail
  refine (same_any (some ⟨y5.heap.size, 0, none⟩) mA cA (some ⟨y6.heap.size, 0, none⟩) mB cB (mrg ds1 ds0) _ (by omega) (by have e := A_7.dots; rwa [mrg_comm hr0 hr1] at e) B_7.dots).mono ?_
  rintro e y8 ⟨rfl, hs8⟩
  have hB8 := hB7.trans (hs8.mono hB7.size)
  have V0_8 := V0_7.below hs8
  have V1_8 := V1_7.below hs8
  have V2_8 := V2_7.below hs8
  clear V0_7 V1_7 V2_7
  go_wp2_with fail
  refine (merge_any va0 n0 vc0 ds0 va0 n0 vc0 ds0 _ (by omega) (by omega) V0_8 V0_8).mono ?_
  rintro e y9 ⟨mC, cC, rfl, C_9, hs9⟩
  have hB9 := hB8.trans (hs9.mono hB8.size)
  have hlC := mrg_le V0_8.dots.1 V0_8.dots.1 C_9.dots.1
  have V0_9 := V0_8.below hs9
  have V1_9 := V1_8.below hs9
  have V2_9 := V2_8.below hs9
  clear V0_8 V1_8 V2_8
  go_wp2_with fail
  refine (same_any (some ⟨y8.heap.size, 0, none⟩) mC cC va0 n0 vc0 ds0 _ (by omega) (by have e := C_9.dots; rwa [mrg_self hr0] at e) V0_9.dots).mono ?_
  rintro e y10 ⟨rfl, hs10⟩
  have hB10 := hB9.trans (hs10.mono hB9.size)
  have V0_10 := V0_9.below hs10
  have V1_10 := V1_9.below hs10
  have V2_10 := V2_9.below hs10
  clear V0_9 V1_9 V2_9
  go_wp2_with fail
  refine (merge_any va0 n0 vc0 ds0 none 0 0 [] _ (by omega) (by omega) V0_10 Vec.none).mono ?_
  rintro e y11 ⟨mE, cE, rfl, E_11, hs11⟩
  have hB11 := hB10.trans (hs11.mono hB10.size)
  have hlE := mrg_le V0_10.dots.1 (List.length_nil) E_11.dots.1
  have V0_11 := V0_10.below hs11
  have V1_11 := V1_10.below hs11
  have V2_11 := V2_10.below hs11
  clear V0_10 V1_10 V2_10
  go_wp2_with fail
  refine (same_any (some ⟨y10.heap.size, 0, none⟩) mE cE va0 n0 vc0 ds0 _ (by omega) (by have e := E_11.dots; rwa [mrg_nil_right] at e) V0_11.dots).mono ?_
  rintro e y12 ⟨rfl, hs12⟩
  have hB12 := hB11.trans (hs12.mono hB11.size)
  have V0_12 := V0_11.below hs12
  have V1_12 := V1_11.below hs12
  have V2_12 := V2_11.below hs12
  clear V0_11 V1_11 V2_11
  go_wp2_with fail
  refine (merge_any none 0 0 [] va0 n0 vc0 ds0 _ (by omega) (by omega) Vec.none V0_12).mono ?_
  rintro e y13 ⟨mF, cF, rfl, F_13, hs13⟩
  have hB13 := hB12.trans (hs13.mono hB12.size)
  have hlF := mrg_le (List.length_nil) V0_12.dots.1 F_13.dots.1
  have V0_13 := V0_12.below hs13
  have V1_13 := V1_12.below hs13
  have V2_13 := V2_12.below hs13
  clear V0_12 V1_12 V2_12
  go_wp2_with fail
  refine (same_any (some ⟨y12.heap.size, 0, none⟩) mF cF va0 n0 vc0 ds0 _ (by omega) (by have e := F_13.dots; rwa [mrg_nil_left] at e) V0_13.dots).mono ?_
  rintro e y14 ⟨rfl, hs14⟩
  have hB14 := hB13.trans (hs14.mono hB13.size)
  have V0_14 := V0_13.below hs14
  have V1_14 := V1_13.below hs14
  have V2_14 := V2_13.below hs14
  clear V0_13 V1_13 V2_13
  go_wp2_with fail
  refine (merge_any va0 n0 vc0 ds0 va1 n1 vc1 ds1 _ (by omega) (by omega) V0_14 V1_14).mono ?_
  rintro e y15 ⟨mG, cG, rfl, G_15, hs15⟩
  have hB15 := hB14.trans (hs15.mono hB14.size)
  have hlG := mrg_le V0_14.dots.1 V1_14.dots.1 G_15.dots.1
  have V0_15 := V0_14.below hs15
  have V1_15 := V1_14.below hs15
  have V2_15 := V2_14.below hs15
  clear V0_14 V1_14 V2_14
  go_wp2_with fail
  refine (merge_any (some ⟨y14.heap.size, 0, none⟩) mG cG (mrg ds0 ds1) va2 n2 vc2 ds2 _ (by omega) (by omega) G_15 V2_15).mono ?_
  rintro e y16 ⟨mH, cH, rfl, H_16, hs16⟩
  have hB16 := hB15.trans (hs16.mono hB15.size)
  have hlH := mrg_le G_15.dots.1 V2_15.dots.1 H_16.dots.1
  have V0_16 := V0_15.below hs16
  have V1_16 := V1_15.below hs16
  have V2_16 := V2_15.below hs16
  have G_16 := G_15.below hs16
  clear V0_15 V1_15 V2_15 G_15
  go_wp2_with fail
  refine (merge_any va1 n1 vc1 ds1 va2 n2 vc2 ds2 _ (by omega) (by omega) V1_16 V2_16).mono ?_
  rintro e y17 ⟨mI, cI, rfl, I_17, hs17⟩
  have hB17 := hB16.trans (hs17.mono hB16.size)
  have hlI := mrg_le V1_16.dots.1 V2_16.dots.1 I_17.dots.1
  have V0_17 := V0_16.below hs17
  have V1_17 := V1_16.below hs17
  have V2_17 := V2_16.below hs17
  have G_17 := G_16.below hs17
  have H_17 := H_16.below hs17
  clear V0_16 V1_16 V2_16 G_16 H_16
  go_wp2_with fail
  refine (merge_any va0 n0 vc0 ds0 (some ⟨y16.heap.size, 0, none⟩) mI cI (mrg ds1 ds2) _ (by omega) (by omega) V0_17 I_17).mono ?_
  rintro e y18 ⟨mJ, cJ, rfl, J_18, hs18⟩
  have hB18 := hB17.trans (hs18.mono hB17.size)
  have hlJ := mrg_le V0_17.dots.1 I_17.dots.1 J_18.dots.1
  have V0_18 := V0_17.below hs18
  have V1_18 := V1_17.below hs18
  have V2_18 := V2_17.below hs18
  have G_18 := G_17.below hs18
  have H_18 := H_17.below hs18
  have I_18 := I_17.below hs18
  clear V0_17 V1_17 V2_17 G_17 H_17 I_17
  go_wp2_with fail
  refine (same_any (some ⟨y15.heap.size, 0, none⟩) mH cH (some ⟨y17.heap.size, 0, none⟩) mJ cJ (mrg ds0 (mrg ds1 ds2)) _ (by omega) (by have e := H_18.dots; rwa [mrg_assoc hr0 hr1 hr2] at e) J_18.dots).mono ?_
  rintro e y19 ⟨rfl, hs19⟩
  have hB19 := hB18.trans (hs19.mono hB18.size)
  go_wp2_with fail
  go_ret
  exact ⟨rfl, hB19⟩

theorem semi_any (a0 : Option Addr) (n0 c0 : Nat) (ds0 : List D) (a1 : Option Addr) (n1 c1 : Nat) (ds1 : List D) (a2 : Option Addr) (n2 c2 : Nat) (ds2 : List D) (w : World) (h0 : Dots w a0 n0 ds0) (h1 : Dots w a1 n1 ds1) (h2 : Dots w a2 n2 ds2) :
    Calls Try.prog 5 #[.slice a0 n0 c0, .slice a1 n1 c1, .slice a2 n2 c2] w fun e w' => e = .returned (.bool true) ∧ Below w.heap.size w w' := by
  by_cases hb : n0 ≤ 65536 ∧ n1 ≤ 65536 ∧ n2 ≤ 65536
  · exact semi_short a0 n0 c0 ds0 a1 n1 c1 ds1 a2 n2 c2 ds2 w h0 h1 h2 hb.1 hb.2.1 hb.2.2
  · exact semi_long a0 n0 c0 ds0 a1 n1 c1 ds1 a2 n2 c2 ds2 w h0 h1 h2 (by omega)

end Go.Proofs.Qxb6600701a
