/-
  Seat b6602729a. THE WALK of FnSplitYearMonthExactSpec (6): one walk a way through the tests on the six digits.
-/
import Derived.Test.Qxb6602729aDigits
namespace Go.Proofs.Qxb6602729a
open Go.RowKit
set_option linter.unusedVariables false

/-- Byte k of the string s is x. -/
def Byte (s : ByteArray) (k : Int) (x : Int) : Prop := (∀ w : World, (Instr.index 9 (.string s) (.int .i64 k)).run Try.prog w = .ok (.int .u8 x) w)

theorem grown_drew (w : World) (q : Nat) : Grown w (w.drewN q) := Grown.refl w

set_option maxHeartbeats 2000000 in
set_option maxRecDepth 100000 in
theorem law6_00 (s : ByteArray) (w : World) (hs : s.size = 7) (x0 x1 x2 x3 x4 x5 x6 : Int) (i0 : Byte s 0 x0) (i1 : Byte s 1 x1) (i2 : Byte s 2 x2) (i3 : Byte s 3 x3) (i4 : Byte s 4 x4) (i5 : Byte s 5 x5) (i6 : Byte s 6 x6)
    (h4 : (x4 != 45) = false) (d0 : digB x0 = false) (d5 : digB x5 = false)
    (hc : Calls Try.prog 16 #[.string s] w fun e w' => e = .returned (.tuple #[.int .i64 0, .int .i64 0, .bool false]) ∧ w' = w) :
    Calls Try.prog 6 #[.string s] w fun e w' => e = .returned (.bool true) ∧ Grown w w' := by
  unfold Byte at i0 i1 i2 i3 i4 i5 i6
  have h7 : ((s.size : Int) != 7) = false := by rw [hs]; rfl
  go_enter Try.func6, Try.ntmps6
  go_wp2_with fail
  refine (bytes15 s w (by unfold maxLen; omega)).mono ?_
  rintro e w1 ⟨⟨r, rfl⟩, hw1⟩
  subst w1
  cases r
  · go_wp2
    go_ret
    exact ⟨rfl, Grown.refl _⟩
  go_wp2_with fail
  refine hc.mono ?_
  rintro e w1 ⟨rfl, hw1⟩
  subst w1
  clear hc
  go_wp2_with (first | (go_at_call 12; refine (digit12 _ _).mono ?_; rintro e w' ⟨rfl, hw1⟩; subst w'))
  go_ret
  exact ⟨rfl, Grown.refl _⟩

set_option maxHeartbeats 2000000 in
set_option maxRecDepth 100000 in
theorem law6_01 (s : ByteArray) (w : World) (hs : s.size = 7) (x0 x1 x2 x3 x4 x5 x6 : Int) (i0 : Byte s 0 x0) (i1 : Byte s 1 x1) (i2 : Byte s 2 x2) (i3 : Byte s 3 x3) (i4 : Byte s 4 x4) (i5 : Byte s 5 x5) (i6 : Byte s 6 x6)
    (h4 : (x4 != 45) = false) (d0 : digB x0 = false) (d5 : digB x5 = true) (d6 : digB x6 = false)
    (hc : Calls Try.prog 16 #[.string s] w fun e w' => e = .returned (.tuple #[.int .i64 0, .int .i64 0, .bool false]) ∧ w' = w) :
    Calls Try.prog 6 #[.string s] w fun e w' => e = .returned (.bool true) ∧ Grown w w' := by
  unfold Byte at i0 i1 i2 i3 i4 i5 i6
  have h7 : ((s.size : Int) != 7) = false := by rw [hs]; rfl
  go_enter Try.func6, Try.ntmps6
  go_wp2_with fail
  refine (bytes15 s w (by unfold maxLen; omega)).mono ?_
  rintro e w1 ⟨⟨r, rfl⟩, hw1⟩
  subst w1
  cases r
  · go_wp2
    go_ret
    exact ⟨rfl, Grown.refl _⟩
  go_wp2_with fail
  refine hc.mono ?_
  rintro e w1 ⟨rfl, hw1⟩
  subst w1
  clear hc
  go_wp2_with (first | (go_at_call 12; refine (digit12 _ _).mono ?_; rintro e w' ⟨rfl, hw1⟩; subst w'))
  go_ret
  exact ⟨rfl, Grown.refl _⟩

set_option maxHeartbeats 2000000 in
set_option maxRecDepth 100000 in
theorem law6_02 (s : ByteArray) (w : World) (hs : s.size = 7) (x0 x1 x2 x3 x4 x5 x6 : Int) (i0 : Byte s 0 x0) (i1 : Byte s 1 x1) (i2 : Byte s 2 x2) (i3 : Byte s 3 x3) (i4 : Byte s 4 x4) (i5 : Byte s 5 x5) (i6 : Byte s 6 x6)
    (h4 : (x4 != 45) = false) (d0 : digB x0 = false) (d5 : digB x5 = true) (d6 : digB x6 = true)
    (hc : Calls Try.prog 16 #[.string s] w fun e w' => e = .returned (.tuple #[.int .i64 0, .int .i64 (10 * (x5 - 48) + (x6 - 48)), .bool false]) ∧ w' = w) :
    Calls Try.prog 6 #[.string s] w fun e w' => e = .returned (.bool true) ∧ Grown w w' := by
  unfold Byte at i0 i1 i2 i3 i4 i5 i6
  have h7 : ((s.size : Int) != 7) = false := by rw [hs]; rfl
  obtain ⟨l5, u5⟩ := digB_true d5
  obtain ⟨l6, u6⟩ := digB_true d6
  go_enter Try.func6, Try.ntmps6
  go_wp2_with fail
  refine (bytes15 s w (by unfold maxLen; omega)).mono ?_
  rintro e w1 ⟨⟨r, rfl⟩, hw1⟩
  subst w1
  cases r
  · go_wp2
    go_ret
    exact ⟨rfl, Grown.refl _⟩
  go_wp2_with fail
  refine hc.mono ?_
  rintro e w1 ⟨rfl, hw1⟩
  subst w1
  clear hc
  go_wp2_with (first | (go_at_call 12; refine (digit12 _ _).mono ?_; rintro e w' ⟨rfl, hw1⟩; subst w'))
  go_quiet (fail)
  go_wp2
  go_ret
  exact ⟨rfl, grown_drew _ _⟩

set_option maxHeartbeats 2000000 in
set_option maxRecDepth 100000 in
theorem law6_10 (s : ByteArray) (w : World) (hs : s.size = 7) (x0 x1 x2 x3 x4 x5 x6 : Int) (i0 : Byte s 0 x0) (i1 : Byte s 1 x1) (i2 : Byte s 2 x2) (i3 : Byte s 3 x3) (i4 : Byte s 4 x4) (i5 : Byte s 5 x5) (i6 : Byte s 6 x6)
    (h4 : (x4 != 45) = false) (d0 : digB x0 = true) (d1 : digB x1 = false) (d5 : digB x5 = false)
    (hc : Calls Try.prog 16 #[.string s] w fun e w' => e = .returned (.tuple #[.int .i64 0, .int .i64 0, .bool false]) ∧ w' = w) :
    Calls Try.prog 6 #[.string s] w fun e w' => e = .returned (.bool true) ∧ Grown w w' := by
  unfold Byte at i0 i1 i2 i3 i4 i5 i6
  have h7 : ((s.size : Int) != 7) = false := by rw [hs]; rfl
  go_enter Try.func6, Try.ntmps6
  go_wp2_with fail
  refine (bytes15 s w (by unfold maxLen; omega)).mono ?_
  rintro e w1 ⟨⟨r, rfl⟩, hw1⟩
  subst w1
  cases r
  · go_wp2
    go_ret
    exact ⟨rfl, Grown.refl _⟩
  go_wp2_with fail
  refine hc.mono ?_
  rintro e w1 ⟨rfl, hw1⟩
  subst w1
  clear hc
  go_wp2_with (first | (go_at_call 12; refine (digit12 _ _).mono ?_; rintro e w' ⟨rfl, hw1⟩; subst w'))
  go_ret
  exact ⟨rfl, Grown.refl _⟩

set_option maxHeartbeats 2000000 in
set_option maxRecDepth 100000 in
theorem law6_11 (s : ByteArray) (w : World) (hs : s.size = 7) (x0 x1 x2 x3 x4 x5 x6 : Int) (i0 : Byte s 0 x0) (i1 : Byte s 1 x1) (i2 : Byte s 2 x2) (i3 : Byte s 3 x3) (i4 : Byte s 4 x4) (i5 : Byte s 5 x5) (i6 : Byte s 6 x6)
    (h4 : (x4 != 45) = false) (d0 : digB x0 = true) (d1 : digB x1 = false) (d5 : digB x5 = true) (d6 : digB x6 = false)
    (hc : Calls Try.prog 16 #[.string s] w fun e w' => e = .returned (.tuple #[.int .i64 0, .int .i64 0, .bool false]) ∧ w' = w) :
    Calls Try.prog 6 #[.string s] w fun e w' => e = .returned (.bool true) ∧ Grown w w' := by
  unfold Byte at i0 i1 i2 i3 i4 i5 i6
  have h7 : ((s.size : Int) != 7) = false := by rw [hs]; rfl
  go_enter Try.func6, Try.ntmps6
  go_wp2_with fail
  refine (bytes15 s w (by unfold maxLen; omega)).mono ?_
  rintro e w1 ⟨⟨r, rfl⟩, hw1⟩
  subst w1
  cases r
  · go_wp2
    go_ret
    exact ⟨rfl, Grown.refl _⟩
  go_wp2_with fail
  refine hc.mono ?_
  rintro e w1 ⟨rfl, hw1⟩
  subst w1
  clear hc
  go_wp2_with (first | (go_at_call 12; refine (digit12 _ _).mono ?_; rintro e w' ⟨rfl, hw1⟩; subst w'))
  go_ret
  exact ⟨rfl, Grown.refl _⟩

set_option maxHeartbeats 2000000 in
set_option maxRecDepth 100000 in
theorem law6_12 (s : ByteArray) (w : World) (hs : s.size = 7) (x0 x1 x2 x3 x4 x5 x6 : Int) (i0 : Byte s 0 x0) (i1 : Byte s 1 x1) (i2 : Byte s 2 x2) (i3 : Byte s 3 x3) (i4 : Byte s 4 x4) (i5 : Byte s 5 x5) (i6 : Byte s 6 x6)
    (h4 : (x4 != 45) = false) (d0 : digB x0 = true) (d1 : digB x1 = false) (d5 : digB x5 = true) (d6 : digB x6 = true)
    (hc : Calls Try.prog 16 #[.string s] w fun e w' => e = .returned (.tuple #[.int .i64 0, .int .i64 (10 * (x5 - 48) + (x6 - 48)), .bool false]) ∧ w' = w) :
    Calls Try.prog 6 #[.string s] w fun e w' => e = .returned (.bool true) ∧ Grown w w' := by
  unfold Byte at i0 i1 i2 i3 i4 i5 i6
  have h7 : ((s.size : Int) != 7) = false := by rw [hs]; rfl
  obtain ⟨l5, u5⟩ := digB_true d5
  obtain ⟨l6, u6⟩ := digB_true d6
  go_enter Try.func6, Try.ntmps6
  go_wp2_with fail
  refine (bytes15 s w (by unfold maxLen; omega)).mono ?_
  rintro e w1 ⟨⟨r, rfl⟩, hw1⟩
  subst w1
  cases r
  · go_wp2
    go_ret
    exact ⟨rfl, Grown.refl _⟩
  go_wp2_with fail
  refine hc.mono ?_
  rintro e w1 ⟨rfl, hw1⟩
  subst w1
  clear hc
  go_wp2_with (first | (go_at_call 12; refine (digit12 _ _).mono ?_; rintro e w' ⟨rfl, hw1⟩; subst w'))
  go_quiet (fail)
  go_wp2
  go_ret
  exact ⟨rfl, grown_drew _ _⟩

set_option maxHeartbeats 2000000 in
set_option maxRecDepth 100000 in
theorem law6_20 (s : ByteArray) (w : World) (hs : s.size = 7) (x0 x1 x2 x3 x4 x5 x6 : Int) (i0 : Byte s 0 x0) (i1 : Byte s 1 x1) (i2 : Byte s 2 x2) (i3 : Byte s 3 x3) (i4 : Byte s 4 x4) (i5 : Byte s 5 x5) (i6 : Byte s 6 x6)
    (h4 : (x4 != 45) = false) (d0 : digB x0 = true) (d1 : digB x1 = true) (d2 : digB x2 = false) (d5 : digB x5 = false)
    (hc : Calls Try.prog 16 #[.string s] w fun e w' => e = .returned (.tuple #[.int .i64 0, .int .i64 0, .bool false]) ∧ w' = w) :
    Calls Try.prog 6 #[.string s] w fun e w' => e = .returned (.bool true) ∧ Grown w w' := by
  unfold Byte at i0 i1 i2 i3 i4 i5 i6
  have h7 : ((s.size : Int) != 7) = false := by rw [hs]; rfl
  go_enter Try.func6, Try.ntmps6
  go_wp2_with fail
  refine (bytes15 s w (by unfold maxLen; omega)).mono ?_
  rintro e w1 ⟨⟨r, rfl⟩, hw1⟩
  subst w1
  cases r
  · go_wp2
    go_ret
    exact ⟨rfl, Grown.refl _⟩
  go_wp2_with fail
  refine hc.mono ?_
  rintro e w1 ⟨rfl, hw1⟩
  subst w1
  clear hc
  go_wp2_with (first | (go_at_call 12; refine (digit12 _ _).mono ?_; rintro e w' ⟨rfl, hw1⟩; subst w'))
  go_ret
  exact ⟨rfl, Grown.refl _⟩

set_option maxHeartbeats 2000000 in
set_option maxRecDepth 100000 in
theorem law6_21 (s : ByteArray) (w : World) (hs : s.size = 7) (x0 x1 x2 x3 x4 x5 x6 : Int) (i0 : Byte s 0 x0) (i1 : Byte s 1 x1) (i2 : Byte s 2 x2) (i3 : Byte s 3 x3) (i4 : Byte s 4 x4) (i5 : Byte s 5 x5) (i6 : Byte s 6 x6)
    (h4 : (x4 != 45) = false) (d0 : digB x0 = true) (d1 : digB x1 = true) (d2 : digB x2 = false) (d5 : digB x5 = true) (d6 : digB x6 = false)
    (hc : Calls Try.prog 16 #[.string s] w fun e w' => e = .returned (.tuple #[.int .i64 0, .int .i64 0, .bool false]) ∧ w' = w) :
    Calls Try.prog 6 #[.string s] w fun e w' => e = .returned (.bool true) ∧ Grown w w' := by
  unfold Byte at i0 i1 i2 i3 i4 i5 i6
  have h7 : ((s.size : Int) != 7) = false := by rw [hs]; rfl
  go_enter Try.func6, Try.ntmps6
  go_wp2_with fail
  refine (bytes15 s w (by unfold maxLen; omega)).mono ?_
  rintro e w1 ⟨⟨r, rfl⟩, hw1⟩
  subst w1
  cases r
  · go_wp2
    go_ret
    exact ⟨rfl, Grown.refl _⟩
  go_wp2_with fail
  refine hc.mono ?_
  rintro e w1 ⟨rfl, hw1⟩
  subst w1
  clear hc
  go_wp2_with (first | (go_at_call 12; refine (digit12 _ _).mono ?_; rintro e w' ⟨rfl, hw1⟩; subst w'))
  go_ret
  exact ⟨rfl, Grown.refl _⟩

set_option maxHeartbeats 2000000 in
set_option maxRecDepth 100000 in
theorem law6_22 (s : ByteArray) (w : World) (hs : s.size = 7) (x0 x1 x2 x3 x4 x5 x6 : Int) (i0 : Byte s 0 x0) (i1 : Byte s 1 x1) (i2 : Byte s 2 x2) (i3 : Byte s 3 x3) (i4 : Byte s 4 x4) (i5 : Byte s 5 x5) (i6 : Byte s 6 x6)
    (h4 : (x4 != 45) = false) (d0 : digB x0 = true) (d1 : digB x1 = true) (d2 : digB x2 = false) (d5 : digB x5 = true) (d6 : digB x6 = true)
    (hc : Calls Try.prog 16 #[.string s] w fun e w' => e = .returned (.tuple #[.int .i64 0, .int .i64 (10 * (x5 - 48) + (x6 - 48)), .bool false]) ∧ w' = w) :
    Calls Try.prog 6 #[.string s] w fun e w' => e = .returned (.bool true) ∧ Grown w w' := by
  unfold Byte at i0 i1 i2 i3 i4 i5 i6
  have h7 : ((s.size : Int) != 7) = false := by rw [hs]; rfl
  obtain ⟨l5, u5⟩ := digB_true d5
  obtain ⟨l6, u6⟩ := digB_true d6
  go_enter Try.func6, Try.ntmps6
  go_wp2_with fail
  refine (bytes15 s w (by unfold maxLen; omega)).mono ?_
  rintro e w1 ⟨⟨r, rfl⟩, hw1⟩
  subst w1
  cases r
  · go_wp2
    go_ret
    exact ⟨rfl, Grown.refl _⟩
  go_wp2_with fail
  refine hc.mono ?_
  rintro e w1 ⟨rfl, hw1⟩
  subst w1
  clear hc
  go_wp2_with (first | (go_at_call 12; refine (digit12 _ _).mono ?_; rintro e w' ⟨rfl, hw1⟩; subst w'))
  go_quiet (fail)
  go_wp2
  go_ret
  exact ⟨rfl, grown_drew _ _⟩

set_option maxHeartbeats 2000000 in
set_option maxRecDepth 100000 in
theorem law6_30 (s : ByteArray) (w : World) (hs : s.size = 7) (x0 x1 x2 x3 x4 x5 x6 : Int) (i0 : Byte s 0 x0) (i1 : Byte s 1 x1) (i2 : Byte s 2 x2) (i3 : Byte s 3 x3) (i4 : Byte s 4 x4) (i5 : Byte s 5 x5) (i6 : Byte s 6 x6)
    (h4 : (x4 != 45) = false) (d0 : digB x0 = true) (d1 : digB x1 = true) (d2 : digB x2 = true) (d3 : digB x3 = false) (d5 : digB x5 = false)
    (hc : Calls Try.prog 16 #[.string s] w fun e w' => e = .returned (.tuple #[.int .i64 0, .int .i64 0, .bool false]) ∧ w' = w) :
    Calls Try.prog 6 #[.string s] w fun e w' => e = .returned (.bool true) ∧ Grown w w' := by
  unfold Byte at i0 i1 i2 i3 i4 i5 i6
  have h7 : ((s.size : Int) != 7) = false := by rw [hs]; rfl
  go_enter Try.func6, Try.ntmps6
  go_wp2_with fail
  refine (bytes15 s w (by unfold maxLen; omega)).mono ?_
  rintro e w1 ⟨⟨r, rfl⟩, hw1⟩
  subst w1
  cases r
  · go_wp2
    go_ret
    exact ⟨rfl, Grown.refl _⟩
  go_wp2_with fail
  refine hc.mono ?_
  rintro e w1 ⟨rfl, hw1⟩
  subst w1
  clear hc
  go_wp2_with (first | (go_at_call 12; refine (digit12 _ _).mono ?_; rintro e w' ⟨rfl, hw1⟩; subst w'))
  go_ret
  exact ⟨rfl, Grown.refl _⟩

set_option maxHeartbeats 2000000 in
set_option maxRecDepth 100000 in
theorem law6_31 (s : ByteArray) (w : World) (hs : s.size = 7) (x0 x1 x2 x3 x4 x5 x6 : Int) (i0 : Byte s 0 x0) (i1 : Byte s 1 x1) (i2 : Byte s 2 x2) (i3 : Byte s 3 x3) (i4 : Byte s 4 x4) (i5 : Byte s 5 x5) (i6 : Byte s 6 x6)
    (h4 : (x4 != 45) = false) (d0 : digB x0 = true) (d1 : digB x1 = true) (d2 : digB x2 = true) (d3 : digB x3 = false) (d5 : digB x5 = true) (d6 : digB x6 = false)
    (hc : Calls Try.prog 16 #[.string s] w fun e w' => e = .returned (.tuple #[.int .i64 0, .int .i64 0, .bool false]) ∧ w' = w) :
    Calls Try.prog 6 #[.string s] w fun e w' => e = .returned (.bool true) ∧ Grown w w' := by
  unfold Byte at i0 i1 i2 i3 i4 i5 i6
  have h7 : ((s.size : Int) != 7) = false := by rw [hs]; rfl
  go_enter Try.func6, Try.ntmps6
  go_wp2_with fail
  refine (bytes15 s w (by unfold maxLen; omega)).mono ?_
  rintro e w1 ⟨⟨r, rfl⟩, hw1⟩
  subst w1
  cases r
  · go_wp2
    go_ret
    exact ⟨rfl, Grown.refl _⟩
  go_wp2_with fail
  refine hc.mono ?_
  rintro e w1 ⟨rfl, hw1⟩
  subst w1
  clear hc
  go_wp2_with (first | (go_at_call 12; refine (digit12 _ _).mono ?_; rintro e w' ⟨rfl, hw1⟩; subst w'))
  go_ret
  exact ⟨rfl, Grown.refl _⟩

set_option maxHeartbeats 2000000 in
set_option maxRecDepth 100000 in
theorem law6_32 (s : ByteArray) (w : World) (hs : s.size = 7) (x0 x1 x2 x3 x4 x5 x6 : Int) (i0 : Byte s 0 x0) (i1 : Byte s 1 x1) (i2 : Byte s 2 x2) (i3 : Byte s 3 x3) (i4 : Byte s 4 x4) (i5 : Byte s 5 x5) (i6 : Byte s 6 x6)
    (h4 : (x4 != 45) = false) (d0 : digB x0 = true) (d1 : digB x1 = true) (d2 : digB x2 = true) (d3 : digB x3 = false) (d5 : digB x5 = true) (d6 : digB x6 = true)
    (hc : Calls Try.prog 16 #[.string s] w fun e w' => e = .returned (.tuple #[.int .i64 0, .int .i64 (10 * (x5 - 48) + (x6 - 48)), .bool false]) ∧ w' = w) :
    Calls Try.prog 6 #[.string s] w fun e w' => e = .returned (.bool true) ∧ Grown w w' := by
  unfold Byte at i0 i1 i2 i3 i4 i5 i6
  have h7 : ((s.size : Int) != 7) = false := by rw [hs]; rfl
  obtain ⟨l5, u5⟩ := digB_true d5
  obtain ⟨l6, u6⟩ := digB_true d6
  go_enter Try.func6, Try.ntmps6
  go_wp2_with fail
  refine (bytes15 s w (by unfold maxLen; omega)).mono ?_
  rintro e w1 ⟨⟨r, rfl⟩, hw1⟩
  subst w1
  cases r
  · go_wp2
    go_ret
    exact ⟨rfl, Grown.refl _⟩
  go_wp2_with fail
  refine hc.mono ?_
  rintro e w1 ⟨rfl, hw1⟩
  subst w1
  clear hc
  go_wp2_with (first | (go_at_call 12; refine (digit12 _ _).mono ?_; rintro e w' ⟨rfl, hw1⟩; subst w'))
  go_quiet (fail)
  go_wp2
  go_ret
  exact ⟨rfl, grown_drew _ _⟩

set_option maxHeartbeats 2000000 in
set_option maxRecDepth 100000 in
theorem law6_40 (s : ByteArray) (w : World) (hs : s.size = 7) (x0 x1 x2 x3 x4 x5 x6 : Int) (i0 : Byte s 0 x0) (i1 : Byte s 1 x1) (i2 : Byte s 2 x2) (i3 : Byte s 3 x3) (i4 : Byte s 4 x4) (i5 : Byte s 5 x5) (i6 : Byte s 6 x6)
    (h4 : (x4 != 45) = false) (d0 : digB x0 = true) (d1 : digB x1 = true) (d2 : digB x2 = true) (d3 : digB x3 = true) (d5 : digB x5 = false)
    (hc : Calls Try.prog 16 #[.string s] w fun e w' => e = .returned (.tuple #[.int .i64 (1000 * (x0 - 48) + 100 * (x1 - 48) + 10 * (x2 - 48) + (x3 - 48)), .int .i64 0, .bool false]) ∧ w' = w) :
    Calls Try.prog 6 #[.string s] w fun e w' => e = .returned (.bool true) ∧ Grown w w' := by
  unfold Byte at i0 i1 i2 i3 i4 i5 i6
  have h7 : ((s.size : Int) != 7) = false := by rw [hs]; rfl
  obtain ⟨l0, u0⟩ := digB_true d0
  obtain ⟨l1, u1⟩ := digB_true d1
  obtain ⟨l2, u2⟩ := digB_true d2
  obtain ⟨l3, u3⟩ := digB_true d3
  go_enter Try.func6, Try.ntmps6
  go_wp2_with fail
  refine (bytes15 s w (by unfold maxLen; omega)).mono ?_
  rintro e w1 ⟨⟨r, rfl⟩, hw1⟩
  subst w1
  cases r
  · go_wp2
    go_ret
    exact ⟨rfl, Grown.refl _⟩
  go_wp2_with fail
  refine hc.mono ?_
  rintro e w1 ⟨rfl, hw1⟩
  subst w1
  clear hc
  go_wp2_with (first | (go_at_call 12; refine (digit12 _ _).mono ?_; rintro e w' ⟨rfl, hw1⟩; subst w'))
  go_quiet (fail)
  go_wp2
  go_ret
  exact ⟨rfl, grown_drew _ _⟩

set_option maxHeartbeats 2000000 in
set_option maxRecDepth 100000 in
theorem law6_41 (s : ByteArray) (w : World) (hs : s.size = 7) (x0 x1 x2 x3 x4 x5 x6 : Int) (i0 : Byte s 0 x0) (i1 : Byte s 1 x1) (i2 : Byte s 2 x2) (i3 : Byte s 3 x3) (i4 : Byte s 4 x4) (i5 : Byte s 5 x5) (i6 : Byte s 6 x6)
    (h4 : (x4 != 45) = false) (d0 : digB x0 = true) (d1 : digB x1 = true) (d2 : digB x2 = true) (d3 : digB x3 = true) (d5 : digB x5 = true) (d6 : digB x6 = false)
    (hc : Calls Try.prog 16 #[.string s] w fun e w' => e = .returned (.tuple #[.int .i64 (1000 * (x0 - 48) + 100 * (x1 - 48) + 10 * (x2 - 48) + (x3 - 48)), .int .i64 0, .bool false]) ∧ w' = w) :
    Calls Try.prog 6 #[.string s] w fun e w' => e = .returned (.bool true) ∧ Grown w w' := by
  unfold Byte at i0 i1 i2 i3 i4 i5 i6
  have h7 : ((s.size : Int) != 7) = false := by rw [hs]; rfl
  obtain ⟨l0, u0⟩ := digB_true d0
  obtain ⟨l1, u1⟩ := digB_true d1
  obtain ⟨l2, u2⟩ := digB_true d2
  obtain ⟨l3, u3⟩ := digB_true d3
  go_enter Try.func6, Try.ntmps6
  go_wp2_with fail
  refine (bytes15 s w (by unfold maxLen; omega)).mono ?_
  rintro e w1 ⟨⟨r, rfl⟩, hw1⟩
  subst w1
  cases r
  · go_wp2
    go_ret
    exact ⟨rfl, Grown.refl _⟩
  go_wp2_with fail
  refine hc.mono ?_
  rintro e w1 ⟨rfl, hw1⟩
  subst w1
  clear hc
  go_wp2_with (first | (go_at_call 12; refine (digit12 _ _).mono ?_; rintro e w' ⟨rfl, hw1⟩; subst w'))
  go_quiet (fail)
  go_wp2
  go_ret
  exact ⟨rfl, grown_drew _ _⟩

set_option maxHeartbeats 2000000 in
set_option maxRecDepth 100000 in
theorem law6_42 (s : ByteArray) (w : World) (hs : s.size = 7) (x0 x1 x2 x3 x4 x5 x6 : Int) (i0 : Byte s 0 x0) (i1 : Byte s 1 x1) (i2 : Byte s 2 x2) (i3 : Byte s 3 x3) (i4 : Byte s 4 x4) (i5 : Byte s 5 x5) (i6 : Byte s 6 x6)
    (h4 : (x4 != 45) = false) (d0 : digB x0 = true) (d1 : digB x1 = true) (d2 : digB x2 = true) (d3 : digB x3 = true) (d5 : digB x5 = true) (d6 : digB x6 = true)
    (hc : Calls Try.prog 16 #[.string s] w fun e w' => e = .returned (.tuple #[.int .i64 (1000 * (x0 - 48) + 100 * (x1 - 48) + 10 * (x2 - 48) + (x3 - 48)), .int .i64 (10 * (x5 - 48) + (x6 - 48)), .bool true]) ∧ w' = w) :
    Calls Try.prog 6 #[.string s] w fun e w' => e = .returned (.bool true) ∧ Grown w w' := by
  unfold Byte at i0 i1 i2 i3 i4 i5 i6
  have h7 : ((s.size : Int) != 7) = false := by rw [hs]; rfl
  obtain ⟨l0, u0⟩ := digB_true d0
  obtain ⟨l1, u1⟩ := digB_true d1
  obtain ⟨l2, u2⟩ := digB_true d2
  obtain ⟨l3, u3⟩ := digB_true d3
  obtain ⟨l5, u5⟩ := digB_true d5
  obtain ⟨l6, u6⟩ := digB_true d6
  go_enter Try.func6, Try.ntmps6
  go_wp2_with fail
  refine (bytes15 s w (by unfold maxLen; omega)).mono ?_
  rintro e w1 ⟨⟨r, rfl⟩, hw1⟩
  subst w1
  cases r
  · go_wp2
    go_ret
    exact ⟨rfl, Grown.refl _⟩
  go_wp2_with fail
  refine hc.mono ?_
  rintro e w1 ⟨rfl, hw1⟩
  subst w1
  clear hc
  go_wp2_with (first | (go_at_call 12; refine (digit12 _ _).mono ?_; rintro e w' ⟨rfl, hw1⟩; subst w'))
  go_quiet (fail)
  go_wp2
  go_quiet (fail)
  go_wp2
  go_ret
  exact ⟨rfl, grown_drew _ _⟩

set_option maxHeartbeats 2000000 in
set_option maxRecDepth 100000 in
theorem law6_dash (s : ByteArray) (w : World) (hs : s.size = 7) (x4 : Int) (i4 : Byte s 4 x4) (h4 : (x4 != 45) = true)
    (hc : Calls Try.prog 16 #[.string s] w fun e w' => e = .returned (.tuple #[.int .i64 0, .int .i64 0, .bool false]) ∧ w' = w) :
    Calls Try.prog 6 #[.string s] w fun e w' => e = .returned (.bool true) ∧ Grown w w' := by
  unfold Byte at i4
  have h7 : ((s.size : Int) != 7) = false := by rw [hs]; rfl
  go_enter Try.func6, Try.ntmps6
  go_wp2_with fail
  refine (bytes15 s w (by unfold maxLen; omega)).mono ?_
  rintro e w1 ⟨⟨r, rfl⟩, hw1⟩
  subst w1
  cases r
  · go_wp2
    go_ret
    exact ⟨rfl, Grown.refl _⟩
  go_wp2_with fail
  refine hc.mono ?_
  rintro e w1 ⟨rfl, hw1⟩
  subst w1
  clear hc
  go_wp2
  go_ret
  exact ⟨rfl, Grown.refl _⟩

set_option maxHeartbeats 2000000 in
set_option maxRecDepth 100000 in
theorem law6_short (s : ByteArray) (w : World) (hs : s.size ≠ 7) (hm : s.size ≤ maxLen)
    (hc : Calls Try.prog 16 #[.string s] w fun e w' => e = .returned (.tuple #[.int .i64 0, .int .i64 0, .bool false]) ∧ w' = w) :
    Calls Try.prog 6 #[.string s] w fun e w' => e = .returned (.bool true) ∧ Grown w w' := by
  have h7 : ((s.size : Int) != 7) = true := bne_iff_ne.2 (by omega)
  by_cases hl : (s.size : Int) ≤ 1048576
  · go_enter Try.func6, Try.ntmps6
    go_wp2_with fail
    refine (bytes15 s w hm).mono ?_
    rintro e w1 ⟨⟨r, rfl⟩, hw1⟩
    subst w1
    cases r
    · go_wp2
      go_ret
      exact ⟨rfl, Grown.refl _⟩
    go_wp2_with fail
    refine hc.mono ?_
    rintro e w1 ⟨rfl, hw1⟩
    subst w1
    clear hc
    go_wp2
    go_ret
    exact ⟨rfl, Grown.refl _⟩
  · have hl' : (1048576 : Int) < (s.size : Int) := by omega
    clear hc hl
    go_enter Try.func6, Try.ntmps6
    go_wp2_with fail
    refine (bytes15 s w hm).mono ?_
    rintro e w1 ⟨⟨r, rfl⟩, hw1⟩
    subst w1
    cases r
    · go_wp2
      go_ret
      exact ⟨rfl, Grown.refl _⟩
    · go_wp2
      go_ret
      exact ⟨rfl, Grown.refl _⟩

end Go.Proofs.Qxb6602729a
