/-
  Seat b6602729a. (byMonth).Less (24), zzCmpInt32 (22), zzCmpUint32 (23).
-/
import Derived.Test.Qxb6602729aMake
namespace Go.Proofs.Qxb6602729a
open Go.RowKit

/-- The order of two nets, by month, grade, line. -/
def lessB (mi ci li mj cj lj : Int) : Bool := if mi = mj then (if ci = cj then decide (li < lj) else decide (ci < cj)) else decide (mi < mj)

theorem Nets.cells {w : World} {g n : Nat} {L M C : Nat → Int} (h : Nets w g n L M C) : ∀ k, k < n → w.cell? ⟨g, k * 6, none⟩ = some (.int .u32 (L k)) ∧ w.cell? ⟨g, k * 6 + 4, none⟩ = some (.int .i32 (M k)) ∧ w.cell? ⟨g, k * 6 + 5, none⟩ = some (.int .i32 (C k)) := by
  obtain ⟨cs, h1, h2, h3⟩ := h
  intro k hk
  obtain ⟨a, b, c⟩ := h3 k hk
  exact ⟨by rw [cell_of_row w _ _ _ _ _ h1]; exact a, by rw [cell_of_row w _ _ _ _ _ h1]; exact b, by rw [cell_of_row w _ _ _ _ _ h1]; exact c⟩

theorem drew_two (w : World) (a b : Nat) : ∃ q, (w.drewN a).drewN b = w.drewN q := ⟨a + b, World.drewN_drewN _ _ _⟩
theorem drew_three (w : World) (a b c : Nat) : ∃ q, ((w.drewN a).drewN b).drewN c = w.drewN q := ⟨a + (b + c), by rw [World.drewN_drewN, World.drewN_drewN]⟩

set_option maxHeartbeats 2000000 in
set_option maxRecDepth 100000 in
theorem less24 (g n cap i j : Nat) (L M C : Nat → Int) (w : World) (_hn : n ≤ 16384) (hi : i < n) (hj : j < n) (h : Nets w g n L M C) :
    Calls Try.prog 24 #[.slice (some ⟨g, 0, none⟩) n cap, .int .i64 (i : Int), .int .i64 (j : Int)] w fun e w' => e = .returned (.bool (lessB (M i) (C i) (L i) (M j) (C j) (L j))) ∧ ∃ q, w' = w.drewN q := by
  obtain ⟨a0, a4, a5⟩ := h.cells i hi
  obtain ⟨b0, b4, b5⟩ := h.cells j hj
  have hi' : (i : Int) < (n : Int) := by omega
  have hj' : (j : Int) < (n : Int) := by omega
  clear h
  generalize M i = mi at *
  generalize M j = mj at *
  generalize C i = ci at *
  generalize C j = cj at *
  generalize L i = li at *
  generalize L j = lj at *
  by_cases hm : mi = mj
  · have em : (mi != mj) = false := by simp [hm]
    by_cases hcl : ci = cj
    · have ec : (ci != cj) = false := by simp [hcl]
      have el : lessB mi ci li mj cj lj = decide (li < lj) := by unfold lessB; rw [if_pos hm, if_pos hcl]
      rw [el]
      clear el hm hcl
      go_enter Try.func24, Try.ntmps24
      go_wp2
      go_quiet (fail)
      go_wp2
      go_quiet (fail)
      go_wp2
      go_quiet (fail)
      go_wp2
      go_ret
      exact ⟨rfl, drew_three _ _ _ _⟩
    · have ec : (ci != cj) = true := by simp [hcl]
      have el : lessB mi ci li mj cj lj = decide (ci < cj) := by unfold lessB; rw [if_pos hm, if_neg hcl]
      rw [el]
      clear el hm hcl
      go_enter Try.func24, Try.ntmps24
      go_wp2
      go_quiet (fail)
      go_wp2
      go_quiet (fail)
      go_wp2
      go_quiet (fail)
      go_wp2
      go_ret
      exact ⟨rfl, drew_three _ _ _ _⟩
  · have em : (mi != mj) = true := by simp [hm]
    have el : lessB mi ci li mj cj lj = decide (mi < mj) := by unfold lessB; rw [if_neg hm]
    rw [el]
    clear el hm
    go_enter Try.func24, Try.ntmps24
    go_wp2
    go_quiet (fail)
    go_wp2
    go_quiet (fail)
    go_wp2
    go_ret
    exact ⟨rfl, drew_two _ _ _⟩

/-- The sign that the two compares answer. -/
def sgn (a b : Int) : Int := if a < b then -1 else if b < a then 1 else 0

set_option maxHeartbeats 400000 in
theorem cmp22 (a b : Int) (w : World) : Calls Try.prog 22 #[.int .i32 a, .int .i32 b] w fun e w' => e = .returned (.int .i64 (sgn a b)) ∧ w' = w := by
  by_cases h1 : a < b
  · have e : sgn a b = -1 := by unfold sgn; rw [if_pos h1]
    rw [e]
    go_enter Try.func22, Try.ntmps22
    go_wp2
    go_ret
    exact ⟨rfl, rfl⟩
  · by_cases h2 : b < a
    · have e : sgn a b = 1 := by unfold sgn; rw [if_neg h1, if_pos h2]
      rw [e]
      go_enter Try.func22, Try.ntmps22
      go_wp2
      go_ret
      exact ⟨rfl, rfl⟩
    · have e : sgn a b = 0 := by unfold sgn; rw [if_neg h1, if_neg h2]
      rw [e]
      go_enter Try.func22, Try.ntmps22
      go_wp2
      go_ret
      exact ⟨rfl, rfl⟩

set_option maxHeartbeats 400000 in
theorem cmp23 (a b : Int) (w : World) : Calls Try.prog 23 #[.int .u32 a, .int .u32 b] w fun e w' => e = .returned (.int .i64 (sgn a b)) ∧ w' = w := by
  by_cases h1 : a < b
  · have e : sgn a b = -1 := by unfold sgn; rw [if_pos h1]
    rw [e]
    go_enter Try.func23, Try.ntmps23
    go_wp2
    go_ret
    exact ⟨rfl, rfl⟩
  · by_cases h2 : b < a
    · have e : sgn a b = 1 := by unfold sgn; rw [if_neg h1, if_pos h2]
      rw [e]
      go_enter Try.func23, Try.ntmps23
      go_wp2
      go_ret
      exact ⟨rfl, rfl⟩
    · have e : sgn a b = 0 := by unfold sgn; rw [if_neg h1, if_neg h2]
      rw [e]
      go_enter Try.func23, Try.ntmps23
      go_wp2
      go_ret
      exact ⟨rfl, rfl⟩

/-! ### the plain laws -/
theorem less_sgn (mi ci li mj cj lj : Int) : lessB mi ci li mj cj lj = decide (4 * sgn mi mj + 2 * sgn ci cj + sgn li lj < 0) := by
  unfold lessB sgn
  rw [Bool.eq_iff_iff]
  split <;> split <;> split <;> (first | (split <;> (first | (split <;> (simp; omega)) | (simp; omega))) | (simp; omega)) <;> skip

theorem less_irrefl (m c l : Int) : lessB m c l m c l = false := by unfold lessB; simp

theorem less_asymm {mi ci li mj cj lj : Int} (h : lessB mi ci li mj cj lj = true) : lessB mj cj lj mi ci li = false := by
  rw [less_sgn] at h ⊢
  rw [decide_eq_true_iff] at h
  rw [decide_eq_false_iff_not]
  unfold sgn at *
  omega

theorem less_total {mi ci li mj cj lj : Int} (h : lessB mi ci li mj cj lj = false) (h' : lessB mj cj lj mi ci li = false) : mi = mj ∧ ci = cj ∧ li = lj := by
  rw [less_sgn] at h h'
  rw [decide_eq_false_iff_not] at h h'
  unfold sgn at *
  omega

theorem less_trans {mi ci li mj cj lj mk ck lk : Int} (h : lessB mi ci li mj cj lj = true) (h' : lessB mj cj lj mk ck lk = true) : lessB mi ci li mk ck lk = true := by
  rw [less_sgn] at h h' ⊢
  rw [decide_eq_true_iff] at h h' ⊢
  unfold sgn at *
  omega

/-- Less, its world said as a heap that is as it was. -/
theorem less_at (g n cap i j : Nat) (L M C : Nat → Int) (w : World) (hn : n ≤ 16384) (hi : i < n) (hj : j < n) (h : Nets w g n L M C) (b : Bool) (hb : lessB (M i) (C i) (L i) (M j) (C j) (L j) = b) :
    Calls Try.prog 24 #[.slice (some ⟨g, 0, none⟩) n cap, .int .i64 (i : Int), .int .i64 (j : Int)] w fun e w' => e = .returned (.bool b) ∧ w'.heap = w.heap ∧ Below w.heap.size w w' := by
  refine (less24 g n cap i j L M C w hn hi hj h).mono ?_
  rintro e w' ⟨rfl, q, rfl⟩
  exact ⟨by rw [hb], rfl, ⟨rfl, rfl, rfl, Nat.le_refl _, fun _ _ => rfl⟩⟩

theorem Nets.of_heap {w w' : World} {g n : Nat} {L M C : Nat → Int} (h : Nets w g n L M C) (e : w'.heap = w.heap) : Nets w' g n L M C := by
  obtain ⟨cs, h1, r⟩ := h
  exact ⟨cs, by rw [e]; exact h1, r⟩
theorem OwnN.of_heap {q : IntKind} {t : TypeId} {w w' : World} {g n : Nat} {X : Nat → Int} (h : OwnN q t w g n X) (e : w'.heap = w.heap) : OwnN q t w' g n X := by
  obtain ⟨cs, h1, r⟩ := h
  exact ⟨cs, by rw [e]; exact h1, r⟩

end Go.Proofs.Qxb6602729a
