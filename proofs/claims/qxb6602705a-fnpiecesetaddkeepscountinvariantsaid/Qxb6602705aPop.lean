/-
  Seat b6602705a. PLAIN LAWS: how many bits are set.
-/
namespace Go.Proofs.Qxb6602705a

/-- How many of the lowest n bits of x are set. -/
def pop : Nat → Nat → Nat
  | 0, _ => 0
  | n + 1, x => pop n x + if x.testBit n then 1 else 0

theorem pop_le (x : Nat) : ∀ n, pop n x ≤ n
  | 0 => Nat.le_refl _
  | n + 1 => by
    have := pop_le x n
    unfold pop
    split <;> omega

theorem pop_zero : ∀ n, pop n 0 = 0
  | 0 => rfl
  | n + 1 => by unfold pop; rw [pop_zero n]; simp

theorem pop_or (x r : Nat) (hr : x.testBit r = false) : ∀ n, pop n (x ||| 2 ^ r) = pop n x + if r < n then 1 else 0
  | 0 => by simp [pop]
  | n + 1 => by
    unfold pop
    rw [pop_or x r hr n, Nat.testBit_or, Nat.testBit_two_pow]
    by_cases e : r = n
    · subst e
      rw [hr]
      simp
    · by_cases h : r < n
      · have h1 : r < n + 1 := by omega
        simp [e, h, h1]
        omega
      · have h1 : ¬ r < n + 1 := by omega
        simp [e, h, h1]

theorem low_bit : ∀ (f x : Nat), x ≤ f → 0 < x → ∃ r, (x &&& (x - 1)).testBit r = false ∧ x = (x &&& (x - 1)) ||| 2 ^ r
  | 0, x, h, h0 => by omega
  | f + 1, x, h, h0 => by
    by_cases hodd : x % 2 = 1
    · refine ⟨0, ?_, ?_⟩
      · rw [Nat.testBit_and]
        have : (x - 1).testBit 0 = false := by
          rw [Nat.testBit_zero]
          have : (x - 1) % 2 = 0 := by omega
          simp [this]
        rw [this, Bool.and_false]
      · refine Nat.eq_of_testBit_eq fun i => ?_
        rw [Nat.testBit_or, Nat.testBit_and, Nat.testBit_two_pow]
        cases i with
        | zero => rw [Nat.testBit_zero]; simp [hodd]
        | succ i =>
          rw [Nat.testBit_succ, Nat.testBit_succ, show (x - 1) / 2 = x / 2 from by omega]
          simp
    · obtain ⟨r, h1, h2⟩ := low_bit f (x / 2) (by omega) (by omega)
      have hm : (x - 1) / 2 = x / 2 - 1 := by omega
      refine ⟨r + 1, ?_, ?_⟩
      · rw [Nat.testBit_and, Nat.testBit_succ, Nat.testBit_succ, hm, ← Nat.testBit_and]
        exact h1
      · refine Nat.eq_of_testBit_eq fun i => ?_
        rw [Nat.testBit_or, Nat.testBit_and, Nat.testBit_two_pow]
        cases i with
        | zero =>
          have e0 : x.testBit 0 = false := by rw [Nat.testBit_zero]; simp; omega
          rw [e0]; simp
        | succ i =>
          rw [Nat.testBit_succ, Nat.testBit_succ, hm]
          have := congrArg (fun t => t.testBit i) h2
          simp only [Nat.testBit_or, Nat.testBit_and, Nat.testBit_two_pow] at this
          rw [show decide (r + 1 = i + 1) = decide (r = i) from by simp]
          exact this

/-- Clearing the lowest set bit takes one away. -/
theorem pop_clear (x : Nat) (h0 : 0 < x) (hx : x < 18446744073709551616) : pop 64 (x &&& (x - 1)) + 1 = pop 64 x := by
  obtain ⟨r, h1, h2⟩ := low_bit x x (Nat.le_refl _) h0
  have hr : r < 64 := by
    refine Classical.byContradiction fun hr => ?_
    have hge : 2 ^ 64 ≤ 2 ^ r := Nat.pow_le_pow_right (by omega) (by omega)
    have hb : x.testBit r = true := by
      have := congrArg (fun t => t.testBit r) h2
      simp only [Nat.testBit_or, Nat.testBit_two_pow] at this
      rw [this]
      simp
    have := Nat.ge_two_pow_of_testBit hb
    have e : (2 : Nat) ^ 64 = 18446744073709551616 := by decide
    omega
  have h3 := pop_or (x &&& (x - 1)) r h1 64
  rw [← h2, if_pos hr] at h3
  exact h3.symm

/-- The bits of the first k words. -/
def tot (X : Nat → Nat) : Nat → Nat
  | 0 => 0
  | k + 1 => tot X k + pop 64 (X k)

theorem tot_le (X : Nat → Nat) : ∀ k, tot X k ≤ 64 * k
  | 0 => by simp [tot]
  | k + 1 => by
    have h1 := tot_le X k
    have h2 := pop_le (X k) 64
    unfold tot
    omega

theorem tot_same {X Y : Nat → Nat} : ∀ k, (∀ i, i < k → Y i = X i) → tot Y k = tot X k
  | 0, _ => rfl
  | k + 1, h => by
    unfold tot
    rw [tot_same k (fun i hi => h i (by omega)), h k (by omega)]

end Go.Proofs.Qxb6602705a
