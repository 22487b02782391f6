/-
  Seat b6602729a. THE WALK of FnByMonthLessExactSpec (8).
-/
import Derived.Test.Qxb6602729aLess
namespace Go.Proofs.Qxb6602729a
open Go.RowKit
set_option linter.unusedVariables false

theorem nums_below {q : IntKind} {w w' : World} {b off n : Nat} {X : Nat → Int} (h : Nums q w b off n X) {B : Nat} (hb : Below B w w') (hB : b < B) : Nums q w' b off n X := fun k hk => (hb.cell (p := ⟨b, off + k, none⟩) hB).trans (h k hk)

theorem sgn_bounds (a b : Int) : -1 ≤ sgn a b ∧ sgn a b ≤ 1 := by unfold sgn; omega

/-- A fact that the walk does not look into. -/
structure One (a : Prop) : Prop where
  f1 : a

theorem ret_b8 {a : Bool} (h : a = true) : Ending.returned (.bool a) = .returned (.bool true) := by rw [h]

theorem below_drew8 {B : Nat} {a w : World} (h : Below B a w) (q : Nat) : Below B a (w.drewN q) := ⟨h.os, h.tape, h.output, h.size, h.block⟩

set_option maxHeartbeats 4000000 in
set_option maxRecDepth 100000 in
theorem law8_yes (b0 b1 b2 b3 b4 b5 o0 o1 o2 o3 o4 o5 c0 c1 c2 c3 c4 c5 n : Nat) (X0 X1 X2 X3 X4 X5 : Nat → Int) (w : World) (hn : n ≤ 16384) (l0 : b0 < w.heap.size) (l1 : b1 < w.heap.size) (l2 : b2 < w.heap.size) (l3 : b3 < w.heap.size) (l4 : b4 < w.heap.size) (l5 : b5 < w.heap.size)
    (m0 : Nums .u32 w b0 o0 n X0) (m1 : Nums .i32 w b1 o1 n X1) (m2 : Nums .i32 w b2 o2 n X2) (m3 : Nums .i32 w b3 o3 n X3) (m4 : Nums .i32 w b4 o4 n X4) (m5 : Nums .i32 w b5 o5 n X5)
    (i j : Nat) (hi : i < n) (hj : j < n) (hneg : 4 * sgn (X4 i) (X4 j) + 2 * sgn (X5 i) (X5 j) + sgn (X0 i) (X0 j) < 0) :
    Calls Try.prog 8 #[.slice (some ⟨b0, o0, none⟩) n c0, .slice (some ⟨b1, o1, none⟩) n c1, .slice (some ⟨b2, o2, none⟩) n c2, .slice (some ⟨b3, o3, none⟩) n c3, .slice (some ⟨b4, o4, none⟩) n c4, .slice (some ⟨b5, o5, none⟩) n c5, .int .i64 (i : Int), .int .i64 (j : Int)] w fun e w' => e = .returned (.bool true) ∧ Below w.heap.size w w' := by
  have hmx : n ≤ maxLen := by unfold maxLen; omega
  have hn' : (n : Int) ≤ 16384 := by omega
  have hi' : (i : Int) < (n : Int) := by omega
  have hj' : (j : Int) < (n : Int) := by omega
  have hl : lessB (X4 i) (X5 i) (X0 i) (X4 j) (X5 j) (X0 j) = true := by rw [less_sgn]; exact decide_eq_true hneg
  have HI : One _ := ⟨hl⟩
  clear hl
  obtain ⟨s1, s2⟩ := sgn_bounds (X4 i) (X4 j)
  obtain ⟨s3, s4⟩ := sgn_bounds (X5 i) (X5 j)
  obtain ⟨s5, s6⟩ := sgn_bounds (X0 i) (X0 j)
  go_enter Try.func8, Try.ntmps8
  go_wp2_with fail
  refine (bytes17 _ _ _ _ _ _ n n n n n n _ _ _ _ _ _ _ _ w hmx hmx hmx hmx hmx hmx).mono ?_
  rintro e w1 ⟨⟨r, rfl⟩, hw1⟩
  subst w1
  cases r
  · go_wp2
    go_ret
    exact ⟨rfl, Below.refl _ _⟩
  go_wp2_with fail
  refine (same18_yes _ _ _ _ _ _ n _ _ _ _ _ _ w).mono ?_
  rintro e w1 ⟨rfl, hw1⟩
  subst w1
  go_wp2_with fail
  refine (clone19 b0 o0 n c0 X0 w hn l0 m0).mono ?_
  rintro e w1 ⟨g0, rfl, hg0, p0, hb1⟩
  have hc1 : Below w.heap.size w w1 := hb1
  go_wp2_with fail
  refine (clone20 b1 o1 n c1 X1 w1 hn (Nat.lt_of_lt_of_le l1 hc1.size) (nums_below m1 hc1 l1)).mono ?_
  rintro e w2 ⟨g1, rfl, hg1, p1, hb2⟩
  have p0 := p0.below hb2 p0.lt
  have hc2 : Below w.heap.size w w2 := hc1.trans (hb2.mono hc1.size)
  clear hb2
  go_wp2_with fail
  refine (clone20 b2 o2 n c2 X2 w2 hn (Nat.lt_of_lt_of_le l2 hc2.size) (nums_below m2 hc2 l2)).mono ?_
  rintro e w3 ⟨g2, rfl, hg2, p2, hb3⟩
  have p0 := p0.below hb3 p0.lt
  have p1 := p1.below hb3 p1.lt
  have hc3 : Below w.heap.size w w3 := hc2.trans (hb3.mono hc2.size)
  clear hb3
  go_wp2_with fail
  refine (clone20 b3 o3 n c3 X3 w3 hn (Nat.lt_of_lt_of_le l3 hc3.size) (nums_below m3 hc3 l3)).mono ?_
  rintro e w4 ⟨g3, rfl, hg3, p3, hb4⟩
  have p0 := p0.below hb4 p0.lt
  have p1 := p1.below hb4 p1.lt
  have p2 := p2.below hb4 p2.lt
  have hc4 : Below w.heap.size w w4 := hc3.trans (hb4.mono hc3.size)
  clear hb4
  go_wp2_with fail
  refine (clone20 b4 o4 n c4 X4 w4 hn (Nat.lt_of_lt_of_le l4 hc4.size) (nums_below m4 hc4 l4)).mono ?_
  rintro e w5 ⟨g4, rfl, hg4, p4, hb5⟩
  have p0 := p0.below hb5 p0.lt
  have p1 := p1.below hb5 p1.lt
  have p2 := p2.below hb5 p2.lt
  have p3 := p3.below hb5 p3.lt
  have hc5 : Below w.heap.size w w5 := hc4.trans (hb5.mono hc4.size)
  clear hb5
  go_wp2_with fail
  refine (clone20 b5 o5 n c5 X5 w5 hn (Nat.lt_of_lt_of_le l5 hc5.size) (nums_below m5 hc5 l5)).mono ?_
  rintro e w6 ⟨g5, rfl, hg5, p5, hb6⟩
  have p0 := p0.below hb6 p0.lt
  have p1 := p1.below hb6 p1.lt
  have p2 := p2.below hb6 p2.lt
  have p3 := p3.below hb6 p3.lt
  have p4 := p4.below hb6 p4.lt
  have hc6 : Below w.heap.size w w6 := hc5.trans (hb6.mono hc5.size)
  clear hb6
  clear m0 m1 m2 m3 m4 m5 hc1 hc2 hc3 hc4 hc5 hg0 hg1 hg2 hg3 hg4 hg5
  go_wp2_with fail
  refine (nets21 g0 g1 g2 g3 g4 g5 n X0 X1 X2 X3 X4 X5 w6 hn p0 p1 p2 p3 p4 p5).mono ?_
  rintro e w7 ⟨g, rfl, hN, hb7⟩
  have hc7 : Below w.heap.size w w7 := hc6.trans (hb7.mono hc6.size)
  have p0 := p0.below hb7 p0.lt
  have p4 := p4.below hb7 p4.lt
  have p5 := p5.below hb7 p5.lt
  clear p1 p2 p3 hb7 hc6
  have a4 := p4.nums i hi
  have d4 := p4.nums j hj
  have a5 := p5.nums i hi
  have d5 := p5.nums j hj
  have a0 := p0.nums i hi
  have d0 := p0.nums j hj
  rw [Nat.zero_add] at a4 d4 a5 d5 a0 d0
  clear p0 p4 p5
  go_wp2
  go_quiet ((first | (go_at_call 22; exact Calls.quiet_of_same (cmp22 _ _ _)) | (go_at_call 23; exact Calls.quiet_of_same (cmp23 _ _ _))))
  have hN := hN.of_heap (w' := w7.drewN nq) rfl
  have hcq : Below w.heap.size w (w7.drewN nq) := below_drew8 hc7 nq
  go_wp2_with fail
  refine (less_at g n n i j X0 X4 X5 (w7.drewN nq) hn hi hj hN _ HI.f1).mono ?_
  rintro e w8 ⟨rfl, he, hbe⟩
  have hc8 : Below w.heap.size w w8 := hcq.trans (hbe.mono hcq.size)
  clear he hbe
  go_wp2
  go_ret
  exact ⟨rfl, hc8⟩

set_option maxHeartbeats 4000000 in
set_option maxRecDepth 100000 in
theorem law8_no (b0 b1 b2 b3 b4 b5 o0 o1 o2 o3 o4 o5 c0 c1 c2 c3 c4 c5 n : Nat) (X0 X1 X2 X3 X4 X5 : Nat → Int) (w : World) (hn : n ≤ 16384) (l0 : b0 < w.heap.size) (l1 : b1 < w.heap.size) (l2 : b2 < w.heap.size) (l3 : b3 < w.heap.size) (l4 : b4 < w.heap.size) (l5 : b5 < w.heap.size)
    (m0 : Nums .u32 w b0 o0 n X0) (m1 : Nums .i32 w b1 o1 n X1) (m2 : Nums .i32 w b2 o2 n X2) (m3 : Nums .i32 w b3 o3 n X3) (m4 : Nums .i32 w b4 o4 n X4) (m5 : Nums .i32 w b5 o5 n X5)
    (i j : Nat) (hi : i < n) (hj : j < n) (hneg : ¬ 4 * sgn (X4 i) (X4 j) + 2 * sgn (X5 i) (X5 j) + sgn (X0 i) (X0 j) < 0) :
    Calls Try.prog 8 #[.slice (some ⟨b0, o0, none⟩) n c0, .slice (some ⟨b1, o1, none⟩) n c1, .slice (some ⟨b2, o2, none⟩) n c2, .slice (some ⟨b3, o3, none⟩) n c3, .slice (some ⟨b4, o4, none⟩) n c4, .slice (some ⟨b5, o5, none⟩) n c5, .int .i64 (i : Int), .int .i64 (j : Int)] w fun e w' => e = .returned (.bool true) ∧ Below w.heap.size w w' := by
  have hmx : n ≤ maxLen := by unfold maxLen; omega
  have hn' : (n : Int) ≤ 16384 := by omega
  have hi' : (i : Int) < (n : Int) := by omega
  have hj' : (j : Int) < (n : Int) := by omega
  have hl : lessB (X4 i) (X5 i) (X0 i) (X4 j) (X5 j) (X0 j) = false := by rw [less_sgn]; exact decide_eq_false hneg
  have HI : One _ := ⟨hl⟩
  clear hl
  obtain ⟨s1, s2⟩ := sgn_bounds (X4 i) (X4 j)
  obtain ⟨s3, s4⟩ := sgn_bounds (X5 i) (X5 j)
  obtain ⟨s5, s6⟩ := sgn_bounds (X0 i) (X0 j)
  go_enter Try.func8, Try.ntmps8
  go_wp2_with fail
  refine (bytes17 _ _ _ _ _ _ n n n n n n _ _ _ _ _ _ _ _ w hmx hmx hmx hmx hmx hmx).mono ?_
  rintro e w1 ⟨⟨r, rfl⟩, hw1⟩
  subst w1
  cases r
  · go_wp2
    go_ret
    exact ⟨rfl, Below.refl _ _⟩
  go_wp2_with fail
  refine (same18_yes _ _ _ _ _ _ n _ _ _ _ _ _ w).mono ?_
  rintro e w1 ⟨rfl, hw1⟩
  subst w1
  go_wp2_with fail
  refine (clone19 b0 o0 n c0 X0 w hn l0 m0).mono ?_
  rintro e w1 ⟨g0, rfl, hg0, p0, hb1⟩
  have hc1 : Below w.heap.size w w1 := hb1
  go_wp2_with fail
  refine (clone20 b1 o1 n c1 X1 w1 hn (Nat.lt_of_lt_of_le l1 hc1.size) (nums_below m1 hc1 l1)).mono ?_
  rintro e w2 ⟨g1, rfl, hg1, p1, hb2⟩
  have p0 := p0.below hb2 p0.lt
  have hc2 : Below w.heap.size w w2 := hc1.trans (hb2.mono hc1.size)
  clear hb2
  go_wp2_with fail
  refine (clone20 b2 o2 n c2 X2 w2 hn (Nat.lt_of_lt_of_le l2 hc2.size) (nums_below m2 hc2 l2)).mono ?_
  rintro e w3 ⟨g2, rfl, hg2, p2, hb3⟩
  have p0 := p0.below hb3 p0.lt
  have p1 := p1.below hb3 p1.lt
  have hc3 : Below w.heap.size w w3 := hc2.trans (hb3.mono hc2.size)
  clear hb3
  go_wp2_with fail
  refine (clone20 b3 o3 n c3 X3 w3 hn (Nat.lt_of_lt_of_le l3 hc3.size) (nums_below m3 hc3 l3)).mono ?_
  rintro e w4 ⟨g3, rfl, hg3, p3, hb4⟩
  have p0 := p0.below hb4 p0.lt
  have p1 := p1.below hb4 p1.lt
  have p2 := p2.below hb4 p2.lt
  have hc4 : Below w.heap.size w w4 := hc3.trans (hb4.mono hc3.size)
  clear hb4
  go_wp2_with fail
  refine (clone20 b4 o4 n c4 X4 w4 hn (Nat.lt_of_lt_of_le l4 hc4.size) (nums_below m4 hc4 l4)).mono ?_
  rintro e w5 ⟨g4, rfl, hg4, p4, hb5⟩
  have p0 := p0.below hb5 p0.lt
  have p1 := p1.below hb5 p1.lt
  have p2 := p2.below hb5 p2.lt
  have p3 := p3.below hb5 p3.lt
  have hc5 : Below w.heap.size w w5 := hc4.trans (hb5.mono hc4.size)
  clear hb5
  go_wp2_with fail
  refine (clone20 b5 o5 n c5 X5 w5 hn (Nat.lt_of_lt_of_le l5 hc5.size) (nums_below m5 hc5 l5)).mono ?_
  rintro e w6 ⟨g5, rfl, hg5, p5, hb6⟩
  have p0 := p0.below hb6 p0.lt
  have p1 := p1.below hb6 p1.lt
  have p2 := p2.below hb6 p2.lt
  have p3 := p3.below hb6 p3.lt
  have p4 := p4.below hb6 p4.lt
  have hc6 : Below w.heap.size w w6 := hc5.trans (hb6.mono hc5.size)
  clear hb6
  clear m0 m1 m2 m3 m4 m5 hc1 hc2 hc3 hc4 hc5 hg0 hg1 hg2 hg3 hg4 hg5
  go_wp2_with fail
  refine (nets21 g0 g1 g2 g3 g4 g5 n X0 X1 X2 X3 X4 X5 w6 hn p0 p1 p2 p3 p4 p5).mono ?_
  rintro e w7 ⟨g, rfl, hN, hb7⟩
  have hc7 : Below w.heap.size w w7 := hc6.trans (hb7.mono hc6.size)
  have p0 := p0.below hb7 p0.lt
  have p4 := p4.below hb7 p4.lt
  have p5 := p5.below hb7 p5.lt
  clear p1 p2 p3 hb7 hc6
  have a4 := p4.nums i hi
  have d4 := p4.nums j hj
  have a5 := p5.nums i hi
  have d5 := p5.nums j hj
  have a0 := p0.nums i hi
  have d0 := p0.nums j hj
  rw [Nat.zero_add] at a4 d4 a5 d5 a0 d0
  clear p0 p4 p5
  go_wp2
  go_quiet ((first | (go_at_call 22; exact Calls.quiet_of_same (cmp22 _ _ _)) | (go_at_call 23; exact Calls.quiet_of_same (cmp23 _ _ _))))
  have hN := hN.of_heap (w' := w7.drewN nq) rfl
  have hcq : Below w.heap.size w (w7.drewN nq) := below_drew8 hc7 nq
  go_wp2_with fail
  refine (less_at g n n i j X0 X4 X5 (w7.drewN nq) hn hi hj hN _ HI.f1).mono ?_
  rintro e w8 ⟨rfl, he, hbe⟩
  have hc8 : Below w.heap.size w w8 := hcq.trans (hbe.mono hcq.size)
  clear he hbe
  go_wp2
  go_ret
  exact ⟨ret_b8 (by simp; omega), hc8⟩

theorem law8_in (b0 b1 b2 b3 b4 b5 o0 o1 o2 o3 o4 o5 c0 c1 c2 c3 c4 c5 n : Nat) (X0 X1 X2 X3 X4 X5 : Nat → Int) (w : World) (hn : n ≤ 16384) (l0 : b0 < w.heap.size) (l1 : b1 < w.heap.size) (l2 : b2 < w.heap.size) (l3 : b3 < w.heap.size) (l4 : b4 < w.heap.size) (l5 : b5 < w.heap.size)
    (m0 : Nums .u32 w b0 o0 n X0) (m1 : Nums .i32 w b1 o1 n X1) (m2 : Nums .i32 w b2 o2 n X2) (m3 : Nums .i32 w b3 o3 n X3) (m4 : Nums .i32 w b4 o4 n X4) (m5 : Nums .i32 w b5 o5 n X5)
    (i j : Nat) (hi : i < n) (hj : j < n) :
    Calls Try.prog 8 #[.slice (some ⟨b0, o0, none⟩) n c0, .slice (some ⟨b1, o1, none⟩) n c1, .slice (some ⟨b2, o2, none⟩) n c2, .slice (some ⟨b3, o3, none⟩) n c3, .slice (some ⟨b4, o4, none⟩) n c4, .slice (some ⟨b5, o5, none⟩) n c5, .int .i64 (i : Int), .int .i64 (j : Int)] w fun e w' => e = .returned (.bool true) ∧ Below w.heap.size w w' := by
  by_cases hneg : 4 * sgn (X4 i) (X4 j) + 2 * sgn (X5 i) (X5 j) + sgn (X0 i) (X0 j) < 0
  · exact law8_yes b0 b1 b2 b3 b4 b5 o0 o1 o2 o3 o4 o5 c0 c1 c2 c3 c4 c5 n X0 X1 X2 X3 X4 X5 w hn l0 l1 l2 l3 l4 l5 m0 m1 m2 m3 m4 m5 i j hi hj hneg
  · exact law8_no b0 b1 b2 b3 b4 b5 o0 o1 o2 o3 o4 o5 c0 c1 c2 c3 c4 c5 n X0 X1 X2 X3 X4 X5 w hn l0 l1 l2 l3 l4 l5 m0 m1 m2 m3 m4 m5 i j hi hj hneg

end Go.Proofs.Qxb6602729a
