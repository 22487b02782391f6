/-
  Seat b6602729a. isDigit (29), zzIsDigit (12), digitsValue (26).
-/
import Derived.Test.Qxb6602729aRows
import Derived.WalkKit
import Derived.WalkSpells
import Derived.WalkLawsBesides
import Derived.Deep.QuietTactic
import Derived.BigQuiet
namespace Go.Proofs.Qxb6602729a
open Go.RowKit

/-- Is the byte c a digit? -/
def digB (c : Int) : Bool := decide (48 ≤ c) && decide (c ≤ 57)

theorem digB_true {c : Int} (h : digB c = true) : 48 ≤ c ∧ c ≤ 57 := by
  unfold digB at h
  simpa using h

theorem digB_false {c : Int} (h : digB c = false) : c < 48 ∨ 57 < c := by
  unfold digB at h
  simp at h
  omega

set_option maxHeartbeats 400000 in
theorem digit29 (c : Int) (w : World) : Calls Try.prog 29 #[.int .u8 c] w fun e w' => e = .returned (.bool (digB c)) ∧ w' = w := by
  by_cases h : 48 ≤ c
  · by_cases h2 : c ≤ 57
    · have e : digB c = true := by unfold digB; simp [h, h2]
      rw [e]
      go_enter Try.func29, Try.ntmps29
      go_wp2
      go_ret
      exact ⟨rfl, rfl⟩
    · have e : digB c = false := by unfold digB; simp [h, h2]
      rw [e]
      go_enter Try.func29, Try.ntmps29
      go_wp2
      go_ret
      exact ⟨rfl, rfl⟩
  · have e : digB c = false := by unfold digB; simp [h]
    rw [e]
    go_enter Try.func29, Try.ntmps29
    go_wp2
    go_ret
    exact ⟨rfl, rfl⟩

set_option maxHeartbeats 400000 in
theorem digit12 (c : Int) (w : World) : Calls Try.prog 12 #[.int .u8 c] w fun e w' => e = .returned (.bool (digB c)) ∧ w' = w := by
  by_cases h : 48 ≤ c
  · by_cases h2 : c ≤ 57
    · have e : digB c = true := by unfold digB; simp [h, h2]
      rw [e]
      go_enter Try.func12, Try.ntmps12
      go_wp2
      go_ret
      exact ⟨rfl, rfl⟩
    · have e : digB c = false := by unfold digB; simp [h, h2]
      rw [e]
      go_enter Try.func12, Try.ntmps12
      go_wp2
      go_ret
      exact ⟨rfl, rfl⟩
  · have e : digB c = false := by unfold digB; simp [h]
    rw [e]
    go_enter Try.func12, Try.ntmps12
    go_wp2
    go_ret
    exact ⟨rfl, rfl⟩

/-- The value of a row of digits behind n. -/
def val (n : Int) : List UInt8 → Int
  | [] => n
  | c :: r => val (n * 10 + ((c.toNat : Int) - 48)) r
def digs (l : List UInt8) : Bool := l.all fun c => digB (c.toNat : Int)

/-- What digitsValue answers first. -/
def dv (l : List UInt8) : Int := if digs l then val 0 l else 0

theorem val_snoc (c : UInt8) : ∀ (l : List UInt8) (n : Int), val n (l ++ [c]) = val n l * 10 + ((c.toNat : Int) - 48)
  | [], _ => rfl
  | _ :: r, _ => val_snoc c r _

theorem digs_snoc (c : UInt8) (l : List UInt8) : digs (l ++ [c]) = (digs l && digB (c.toNat : Int)) := by
  simp [digs]

theorem take_snoc (s : ByteArray) (k : Nat) (h : k < s.size) : s.data.toList.take (k + 1) = s.data.toList.take k ++ [s[k]] := by
  rw [List.take_succ_eq_append_getElem (by simpa using h)]; rfl

theorem digs_prefix {l : List UInt8} {k : Nat} (h : digs (l.take k) = false) : digs l = false := by
  cases e : digs l
  · rfl
  · have : digs (l.take k) = true := by
      unfold digs at e ⊢
      rw [List.all_eq_true] at e ⊢
      exact fun x hx => e x (List.mem_of_mem_take hx)
    rw [this] at h; cases h

set_option maxHeartbeats 1000000 in
set_option maxRecDepth 100000 in
theorem digits26 (s : ByteArray) (w : World) (hs : s.size ≤ 4) :
    Calls Try.prog 26 #[.string s] w fun e w' => e = .returned (.tuple #[.int .i64 (dv s.data.toList), .bool (digs s.data.toList)]) ∧ w' = w := by
  go_enter Try.func26, Try.ntmps26
  go_wp2
  go_loop [4, 5] (fun n i => ∃ k : Nat, k ≤ s.size ∧ i = .int .i64 k ∧ n = .int .i64 (val 0 (s.data.toList.take k)) ∧ digs (s.data.toList.take k) = true ∧ 0 ≤ val 0 (s.data.toList.take k) ∧ val 0 (s.data.toList.take k) < 10 ^ k) (fun _ i => s.size - (intOf i).toNat)
  case atStart => exact ⟨0, Nat.zero_le _, rfl, rfl, rfl, by simp [val], by simp [val]⟩
  case round =>
    obtain ⟨k, hk, rfl, rfl, hd, h0, h1⟩ := hrel
    have hpow : (10 : Int) ^ k ≤ 10000 := by
      have : k = 0 ∨ k = 1 ∨ k = 2 ∨ k = 3 ∨ k = 4 := by omega
      rcases this with h | h | h | h | h <;> subst h <;> decide
    by_cases hlt : k < s.size
    · have hts := take_snoc s k hlt
      have HV : Hid (val 0 (s.data.toList.take (k + 1)) = val 0 (s.data.toList.take k) * 10 + ((s[k].toNat : Int) - 48)) := by rw [hts]; exact val_snoc _ _ _
      have HD : Hid (digs (s.data.toList.take (k + 1)) = (digs (s.data.toList.take k) && digB (s[k].toNat : Int))) := by rw [hts]; exact digs_snoc _ _
      clear hts
      have hb : (s[k].toNat : Int) ≤ 255 := by have := s[k].toNat_lt; omega
      go_wp2_with fail
      refine (digit29 _ _).mono ?_
      rintro e w1 ⟨rfl, hw1⟩
      subst w1
      cases hdb : digB (s[k].toNat : Int)
      · have hno : digs s.data.toList = false := digs_prefix (k := k + 1) (by rw [HD.out, hdb, Bool.and_false])
        have HN : Hid (dv s.data.toList = 0 ∧ digs s.data.toList = false) := ⟨by unfold dv; rw [hno]; rfl, hno⟩
        clear hno hdb
        go_wp2
        go_ret2
        exact ⟨by rw [HN.out.1, HN.out.2]; rfl, rfl⟩
      · have hyes : digs (s.data.toList.take (k + 1)) = true := by rw [HD.out, hd, hdb]; rfl
        have HY : Hid (digs (s.data.toList.take (k + 1)) = true) := hyes
        obtain ⟨g0, g1⟩ := digB_true hdb
        have hp1 : (10 : Int) ^ (k + 1) = 10 ^ k * 10 := by rw [Int.pow_succ]
        have HB : Hid (0 ≤ val 0 (s.data.toList.take (k + 1)) ∧ val 0 (s.data.toList.take (k + 1)) < 10 ^ (k + 1)) := by
          have := HV.out
          rw [hp1]
          exact ⟨by omega, by omega⟩
        clear hyes hdb hp1 hd
        go_wp2
        go_round
        case rel => exact ⟨k + 1, by omega, by go_num, by rw [HV.out], HY.out, HB.out.1, HB.out.2⟩
        case measure => simp [intOf]; omega
    · have hks : k = s.size := by omega
      have htk : s.data.toList.take k = s.data.toList := List.take_of_length_le (by rw [hks]; simp)
      rw [htk] at hd h0 h1 ⊢
      have HN : Hid (dv s.data.toList = val 0 s.data.toList ∧ digs s.data.toList = true) := ⟨by unfold dv; rw [hd]; rfl, hd⟩
      clear htk hd
      go_wp2
      go_ret2
      exact ⟨by rw [HN.out.1, HN.out.2]; rfl, rfl⟩

def SomeBool (e : Ending) : Prop := ∃ r : Bool, e = .returned (.bool r)

set_option maxHeartbeats 400000 in
theorem bytes15 (s : ByteArray) (w : World) (hs : s.size ≤ maxLen) : Calls Try.prog 15 #[.string s] w fun e w' => SomeBool e ∧ w' = w := by
  unfold maxLen at hs
  go_enter Try.func15, Try.ntmps15
  go_wp2
  all_goals (go_ret; exact ⟨⟨_, rfl⟩, rfl⟩)

set_option maxHeartbeats 1000000 in
set_option maxRecDepth 100000 in
theorem split27_by (s : ByteArray) (w : World) (hs : s.size = 7) (c : Int) (hi : ∀ w : World, (Instr.index 9 (.string s) (.int .i64 4)).run Try.prog w = .ok (.int .u8 c) w) (hc : (c != 45) = false) (y m : Int) (yk mk : Bool)
    (c1 : Calls Try.prog 26 #[.string (s.extract 0 4)] w fun e w' => e = .returned (.tuple #[.int .i64 y, .bool yk]) ∧ w' = w) (c2 : Calls Try.prog 26 #[.string (s.extract 5 7)] w fun e w' => e = .returned (.tuple #[.int .i64 m, .bool mk]) ∧ w' = w) :
    Calls Try.prog 27 #[.string s] w fun e w' => e = .returned (.tuple #[.int .i64 y, .int .i64 m, .bool (yk && mk)]) ∧ w' = w := by
  have h7 : ((s.size : Int) != 7) = false := by rw [hs]; rfl
  have h4 : (4 : Int) ≤ (s.size : Int) := by omega
  have h5 : (5 : Int) ≤ (s.size : Int) := by omega
  cases yk
  all_goals
    go_enter Try.func27, Try.ntmps27
    go_wp2_with fail
    refine c1.mono ?_
    rintro e w1 ⟨rfl, hw1⟩
    subst w1
    go_wp2_with fail
    refine c2.mono ?_
    rintro e w1 ⟨rfl, hw1⟩
    subst w1
    clear c1 c2
    go_wp2
    go_ret3
    exact ⟨rfl, rfl⟩

theorem split27 (s : ByteArray) (w : World) (hs : s.size = 7) (c : Int) (hi : ∀ w : World, (Instr.index 9 (.string s) (.int .i64 4)).run Try.prog w = .ok (.int .u8 c) w) (hc : (c != 45) = false) :
    Calls Try.prog 27 #[.string s] w fun e w' => e = .returned (.tuple #[.int .i64 (dv (s.extract 0 4).data.toList), .int .i64 (dv (s.extract 5 7).data.toList), .bool (digs (s.extract 0 4).data.toList && digs (s.extract 5 7).data.toList)]) ∧ w' = w :=
  split27_by s w hs c hi hc _ _ _ _ (digits26 _ _ (by simp; omega)) (digits26 _ _ (by simp; omega))

set_option maxHeartbeats 1000000 in
set_option maxRecDepth 100000 in
theorem split27_short (s : ByteArray) (w : World) (hs : s.size ≠ 7) :
    Calls Try.prog 27 #[.string s] w fun e w' => e = .returned (.tuple #[.int .i64 0, .int .i64 0, .bool false]) ∧ w' = w := by

  have h7 : ((s.size : Int) != 7) = true := bne_iff_ne.2 (by omega)
  go_enter Try.func27, Try.ntmps27
  go_wp2
  go_ret3
  exact ⟨rfl, rfl⟩

set_option maxHeartbeats 1000000 in
set_option maxRecDepth 100000 in
theorem split27_dash (s : ByteArray) (w : World) (hs : s.size = 7) (c : Int) (hi : ∀ w : World, (Instr.index 9 (.string s) (.int .i64 4)).run Try.prog w = .ok (.int .u8 c) w) (hc : (c != 45) = true) :
    Calls Try.prog 27 #[.string s] w fun e w' => e = .returned (.tuple #[.int .i64 0, .int .i64 0, .bool false]) ∧ w' = w := by
  have h7 : ((s.size : Int) != 7) = false := by rw [hs]; rfl
  go_enter Try.func27, Try.ntmps27
  go_wp2
  go_ret3
  exact ⟨rfl, rfl⟩

set_option maxHeartbeats 1000000 in
set_option maxRecDepth 100000 in
theorem split16 (s : ByteArray) (w : World) (y m : Int) (b : Bool) (h : Calls Try.prog 27 #[.string s] w fun e w' => e = .returned (.tuple #[.int .i64 y, .int .i64 m, .bool b]) ∧ w' = w) :
    Calls Try.prog 16 #[.string s] w fun e w' => e = .returned (.tuple #[.int .i64 y, .int .i64 m, .bool b]) ∧ w' = w := by
  go_enter Try.func16, Try.ntmps16
  go_wp2_with fail
  refine h.mono ?_
  rintro e w1 ⟨rfl, hw1⟩
  subst w1
  go_wp2
  go_ret3
  exact ⟨rfl, rfl⟩

end Go.Proofs.Qxb6602729a
