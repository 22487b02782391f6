/-
  Seat b6602729a. FUNCTION 8 BEYOND ITS OWN GUARDS: true at once.
-/
import Derived.Test.Qxb6602729aNets
namespace Go.Proofs.Qxb6602729a
open Go.RowKit
set_option linter.unusedVariables false

set_option maxHeartbeats 4000000 in
set_option maxRecDepth 100000 in
theorem far8_long (a0 a1 a2 a3 a4 a5 : Option Addr) (n0 n1 n2 n3 n4 n5 c0 c1 c2 c3 c4 c5 : Nat) (i j : Int) (w : World) (hb : Calls Try.prog 17 #[.slice a0 n0 c0, .slice a1 n1 c1, .slice a2 n2 c2, .slice a3 n3 c3, .slice a4 n4 c4, .slice a5 n5 c5, .int .i64 i, .int .i64 j] w fun e w' => SomeBoolN e ∧ w' = w)
    (h : (16384 < (n0 : Int)) ∨ (¬ 16384 < (n0 : Int) ∧ 16384 < (n1 : Int)) ∨ (¬ 16384 < (n0 : Int) ∧ ¬ 16384 < (n1 : Int) ∧ 16384 < (n2 : Int)) ∨ (¬ 16384 < (n0 : Int) ∧ ¬ 16384 < (n1 : Int) ∧ ¬ 16384 < (n2 : Int) ∧ 16384 < (n3 : Int)) ∨ (¬ 16384 < (n0 : Int) ∧ ¬ 16384 < (n1 : Int) ∧ ¬ 16384 < (n2 : Int) ∧ ¬ 16384 < (n3 : Int) ∧ 16384 < (n4 : Int)) ∨ (¬ 16384 < (n0 : Int) ∧ ¬ 16384 < (n1 : Int) ∧ ¬ 16384 < (n2 : Int) ∧ ¬ 16384 < (n3 : Int) ∧ ¬ 16384 < (n4 : Int) ∧ 16384 < (n5 : Int))) :
    Calls Try.prog 8 #[.slice a0 n0 c0, .slice a1 n1 c1, .slice a2 n2 c2, .slice a3 n3 c3, .slice a4 n4 c4, .slice a5 n5 c5, .int .i64 i, .int .i64 j] w fun e w' => e = .returned (.bool true) ∧ Below w.heap.size w w' := by
  rcases h with h0 | ⟨h0, h1⟩ | ⟨h0, h1, h2⟩ | ⟨h0, h1, h2, h3⟩ | ⟨h0, h1, h2, h3, h4⟩ | ⟨h0, h1, h2, h3, h4, h5⟩
  all_goals
    go_enter Try.func8, Try.ntmps8
    go_wp2_with fail
    refine hb.mono ?_
    rintro e w1 ⟨⟨r, rfl⟩, hw1⟩
    subst w1
    clear hb
    cases r
    · go_wp2
      go_ret
      exact ⟨rfl, Below.refl _ _⟩
    · go_wp2
      go_ret
      exact ⟨rfl, Below.refl _ _⟩

set_option maxHeartbeats 4000000 in
set_option maxRecDepth 100000 in
theorem far8_unlike (a0 a1 a2 a3 a4 a5 : Option Addr) (n0 n1 n2 n3 n4 n5 c0 c1 c2 c3 c4 c5 : Nat) (i j : Int) (w : World) (hb : Calls Try.prog 17 #[.slice a0 n0 c0, .slice a1 n1 c1, .slice a2 n2 c2, .slice a3 n3 c3, .slice a4 n4 c4, .slice a5 n5 c5, .int .i64 i, .int .i64 j] w fun e w' => SomeBoolN e ∧ w' = w)
    (h0 : ¬ 16384 < (n0 : Int)) (h1 : ¬ 16384 < (n1 : Int)) (h2 : ¬ 16384 < (n2 : Int)) (h3 : ¬ 16384 < (n3 : Int)) (h4 : ¬ 16384 < (n4 : Int)) (h5 : ¬ 16384 < (n5 : Int)) (h : ¬ (n1 = n0 ∧ n2 = n0 ∧ n3 = n0 ∧ n4 = n0 ∧ n5 = n0)) :
    Calls Try.prog 8 #[.slice a0 n0 c0, .slice a1 n1 c1, .slice a2 n2 c2, .slice a3 n3 c3, .slice a4 n4 c4, .slice a5 n5 c5, .int .i64 i, .int .i64 j] w fun e w' => e = .returned (.bool true) ∧ Below w.heap.size w w' := by
  have hs := same18_no a0 a1 a2 a3 a4 a5 n0 n1 n2 n3 n4 n5 c0 c1 c2 c3 c4 c5 w h
  clear h
  go_enter Try.func8, Try.ntmps8
  go_wp2_with fail
  refine hb.mono ?_
  rintro e w1 ⟨⟨r, rfl⟩, hw1⟩
  subst w1
  clear hb
  cases r
  · go_wp2
    go_ret
    exact ⟨rfl, Below.refl _ _⟩
  go_wp2_with fail
  refine hs.mono ?_
  rintro e w1 ⟨rfl, hw1⟩
  subst w1
  clear hs
  go_wp2
  go_ret
  exact ⟨rfl, Below.refl _ _⟩

set_option maxHeartbeats 4000000 in
set_option maxRecDepth 100000 in
theorem far8_outside (a0 a1 a2 a3 a4 a5 : Option Addr) (n c0 c1 c2 c3 c4 c5 : Nat) (i j : Int) (w : World) (hb : Calls Try.prog 17 #[.slice a0 n c0, .slice a1 n c1, .slice a2 n c2, .slice a3 n c3, .slice a4 n c4, .slice a5 n c5, .int .i64 i, .int .i64 j] w fun e w' => SomeBoolN e ∧ w' = w)
    (hn : ¬ 16384 < (n : Int)) (h : (i < 0) ∨ (¬ i < 0 ∧ (n : Int) ≤ i) ∨ (¬ i < 0 ∧ ¬ (n : Int) ≤ i ∧ j < 0) ∨ (¬ i < 0 ∧ ¬ (n : Int) ≤ i ∧ ¬ j < 0 ∧ (n : Int) ≤ j)) :
    Calls Try.prog 8 #[.slice a0 n c0, .slice a1 n c1, .slice a2 n c2, .slice a3 n c3, .slice a4 n c4, .slice a5 n c5, .int .i64 i, .int .i64 j] w fun e w' => e = .returned (.bool true) ∧ Below w.heap.size w w' := by
  have hs := same18_yes a0 a1 a2 a3 a4 a5 n c0 c1 c2 c3 c4 c5 w
  rcases h with q0 | ⟨q0, q1⟩ | ⟨q0, q1, q2⟩ | ⟨q0, q1, q2, q3⟩
  all_goals
    go_enter Try.func8, Try.ntmps8
    go_wp2_with fail
    refine hb.mono ?_
    rintro e w1 ⟨⟨r, rfl⟩, hw1⟩
    subst w1
    clear hb
    cases r
    · go_wp2
      go_ret
      exact ⟨rfl, Below.refl _ _⟩
    go_wp2_with fail
    refine hs.mono ?_
    rintro e w1 ⟨rfl, hw1⟩
    subst w1
    clear hs
    go_wp2
    go_ret
    exact ⟨rfl, Below.refl _ _⟩

end Go.Proofs.Qxb6602729a
