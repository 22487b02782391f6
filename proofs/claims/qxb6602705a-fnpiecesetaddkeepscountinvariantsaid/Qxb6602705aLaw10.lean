/-
  Seat b6602705a. zzPolCount (30) and THE WALK of FnPieceSetAddKeepsCountInvariant (10).
-/
import Derived.Test.Qxb6602705aLaw9
import Derived.Test.Qxb6602705aPop
namespace Go.Proofs.Qxb6602705a
open Go.RowKit

theorem wrap_small (m : Nat) (h : m ≤ 5000000) : wrap64 ((m : Int) + 1) = (m : Int) + 1 := by unfold wrap64; omega

theorem wrap_pred (x y : Nat) (h0 : 0 < x) (hx : x < 18446744073709551616) (hy : y = x - 1) : IntKind.u64.wrap ((x : Int) - 1) = (y : Int) := by
  rw [IntKind.wrap_u64]
  omega

set_option maxHeartbeats 1000000 in
set_option maxRecDepth 100000 in
theorem count30 (b off n cap : Nat) (X : Nat → Nat) (w : World) (hn : n ≤ 65536) (hw : Wds w b off n X) :
    Calls Try.prog 30 #[.slice (some ⟨b, off, none⟩) n cap] w fun e w' => e = .returned (.int .i64 (tot X n : Int)) ∧ w' = w := by
  have HW : Hid (Wds w b off n X) := hw
  clear hw
  go_enter Try.func30, Try.ntmps30
  go_wp2
  go_loop [3, 4, 5] (fun c i _ => ∃ k : Nat, k ≤ n ∧ i = .int .i64 k ∧ c = .int .i64 (tot X k : Int)) (fun _ i _ => n - (intOf i).toNat)
  case atStart => exact ⟨0, Nat.zero_le _, rfl, rfl⟩
  case round =>
    obtain ⟨k, hk, rfl, rfl⟩ := hrel
    have ht := tot_le X k
    by_cases hlt : k < n
    · obtain ⟨hc, hx⟩ := HW.out k hlt
      have HT : Hid (tot X (k + 1) = tot X k + pop 64 (X k)) := rfl
      have hp := pop_le (X k) 64
      go_wp2
      go_loop [3, 5] (fun c x => ∃ y m : Nat, y < 18446744073709551616 ∧ x = .int .u64 (y : Int) ∧ c = .int .i64 (m : Int) ∧ m + pop 64 y = tot X k + pop 64 (X k)) (fun _ x => pop 64 (intOf x).toNat)
      case atStart => exact ⟨X k, tot X k, hx, rfl, rfl, rfl⟩
      case round =>
        obtain ⟨y, m, hy, rfl, rfl, hm⟩ := hrel
        have HM : Hid (m + pop 64 y = tot X k + pop 64 (X k)) := hm
        have hmb : m ≤ 4194304 := by omega
        clear hm
        by_cases h0 : 0 < y
        · have hne : ((y : Int) != 0) = true := bne_iff_ne.2 (by omega)
          have HC : Hid (pop 64 (y &&& (y - 1)) + 1 = pop 64 y) := pop_clear y h0 hy
          have hlt2 : y &&& (y - 1) < 18446744073709551616 := Nat.lt_of_le_of_lt Nat.and_le_left hy
          have hand := u64_and_nat y (y - 1) hy (by omega)
          obtain ⟨z, hz⟩ : ∃ z, z = y - 1 := ⟨_, rfl⟩
          have hwr := wrap_pred y z h0 hy hz
          rw [← hz] at hand HC hlt2
          generalize y &&& z = t at hand HC hlt2
          clear hz
          go_wp2
          go_round
          case rel => exact ⟨t, m + 1, hlt2, rfl, by go_num, by have := HM.out; have := HC.out; omega⟩
          case measure => have := HC.out; simp [intOf]; omega
        · have hy0 : y = 0 := by omega
          subst hy0
          have hm2 : m = tot X (k + 1) := by rw [HT.out, ← HM.out, pop_zero]; rfl
          subst hm2
          go_wp2
          go_round
          case rel => exact ⟨k + 1, by omega, by go_num, rfl⟩
          case measure => simp [intOf]; omega
    · have hkn : k = n := by omega
      subst hkn
      go_wp2
      go_ret
      exact ⟨rfl, rfl⟩

theorem tot_put (X : Nat → Nat) (j : Nat) : ∀ n, j / 64 < n → (X (j / 64)).testBit (j % 64) = false → tot (put X j) n = tot X n + 1
  | 0, h, _ => by omega
  | n + 1, h, hb => by
    unfold tot
    by_cases e : j / 64 = n
    · rw [tot_same n (fun i hi => by unfold put; rw [if_neg (by omega)])]
      have e1 : put X j n = X n ||| 2 ^ (j % 64) := by unfold put; rw [if_pos e.symm]
      rw [e1, pop_or _ _ (by rw [← e]; exact hb), if_pos (by omega)]
      omega
    · rw [tot_put X j n (by omega) hb]
      have e1 : put X j n = X n := by unfold put; rw [if_neg (fun h => e h.symm)]
      rw [e1]
      omega

set_option maxHeartbeats 2000000 in
set_option maxRecDepth 100000 in
theorem law10_new (b off n cap j : Nat) (N : Int) (X : Nat → Nat) (w : World) (hn : (n : Int) ≤ 65536) (hb0 : b < w.heap.size) (hw : Wds w b off n X) (hj : j / 64 < n) (hb : (X (j / 64)).testBit (j % 64) = false) :
    Calls Try.prog 10 #[.slice (some ⟨b, off, none⟩) n cap, .int .i64 N, .int .i64 (tot X n : Int), .int .i64 (j : Int)] w fun e w' => e = .returned (.bool true) ∧ Below w.heap.size w w' := by
  have hn' : n ≤ 65536 := by omega
  have hj' : (j : Int) / 64 < (n : Int) := by omega
  have hj0 : (j : Int) ≤ 4194304 := by omega
  have htl := tot_le X n
  have HY : Hid (tot (put X j) n = tot X n + 1) := tot_put X j n hj hb
  have e0 : ((tot X n : Int) != (tot X n : Int)) = false := by simp
  go_enter Try.func10, Try.ntmps10
  go_wp2_with fail
  refine (bytes29 _ n cap N _ j w (by unfold maxLen; omega)).mono ?_
  rintro e w1 ⟨⟨r, rfl⟩, hw1⟩
  subst w1
  cases r
  · go_wp2
    go_ret
    exact ⟨rfl, Below.refl _ _⟩
  go_wp2_with fail
  refine (count30 b off n cap X w hn' hw).mono ?_
  rintro e w1 ⟨rfl, hw1⟩
  subst w1
  go_wp2_with fail
  refine (clone15 b off n cap X w hn' hb0 hw).mono ?_
  rintro e w1 ⟨g, rfl, hg, ho1, hb1⟩
  go_wp2_with fail
  refine (add27_new g n n j N _ X w1 hn' hj ho1 hb).mono ?_
  rintro e w2 ⟨rfl, ho2, hgr⟩
  rw [wrap_small (tot X n) (by omega)]
  have hc2 : Below w.heap.size w w2 := hb1.grown hgr hb1.size (fun k hk => by cases hk; exact hg)
  clear hgr hb1 ho1 hw hb0 hg
  go_wp2_with fail
  refine (count30 g 0 n n _ w2 hn' ho2.wds).mono ?_
  rintro e w3 ⟨rfl, hw3⟩
  subst w3
  rw [HY.out]
  have e1 : (N == N) = true := by simp
  clear HY
  have e2 : ((tot X n : Int) + 1 == (tot X n : Int) + 1) = true := by simp
  go_wp2
  go_ret
  exact ⟨rfl, hc2⟩

set_option maxHeartbeats 2000000 in
set_option maxRecDepth 100000 in
theorem law10_old (b off n cap j : Nat) (N : Int) (X : Nat → Nat) (w : World) (hn : (n : Int) ≤ 65536) (hb0 : b < w.heap.size) (hw : Wds w b off n X) (hj : j / 64 < n) (hb : (X (j / 64)).testBit (j % 64) = true) :
    Calls Try.prog 10 #[.slice (some ⟨b, off, none⟩) n cap, .int .i64 N, .int .i64 (tot X n : Int), .int .i64 (j : Int)] w fun e w' => e = .returned (.bool true) ∧ Below w.heap.size w w' := by
  have hn' : n ≤ 65536 := by omega
  have hj' : (j : Int) / 64 < (n : Int) := by omega
  have hj0 : (j : Int) ≤ 4194304 := by omega
  have htl := tot_le X n
  have e0 : ((tot X n : Int) != (tot X n : Int)) = false := by simp
  go_enter Try.func10, Try.ntmps10
  go_wp2_with fail
  refine (bytes29 _ n cap N _ j w (by unfold maxLen; omega)).mono ?_
  rintro e w1 ⟨⟨r, rfl⟩, hw1⟩
  subst w1
  cases r
  · go_wp2
    go_ret
    exact ⟨rfl, Below.refl _ _⟩
  go_wp2_with fail
  refine (count30 b off n cap X w hn' hw).mono ?_
  rintro e w1 ⟨rfl, hw1⟩
  subst w1
  go_wp2_with fail
  refine (clone15 b off n cap X w hn' hb0 hw).mono ?_
  rintro e w1 ⟨g, rfl, hg, ho1, hb1⟩
  go_wp2_with fail
  refine (add27_old g n n j N _ X w1 hn' hj ho1 hb).mono ?_
  rintro e w2 ⟨rfl, ho2, hgr⟩
  have hc2 : Below w.heap.size w w2 := hb1.grown hgr hb1.size (fun k hk => by cases hk; exact hg)
  clear hgr hb1 ho1 hw hb0 hg
  go_wp2_with fail
  refine (count30 g 0 n n _ w2 hn' ho2.wds).mono ?_
  rintro e w3 ⟨rfl, hw3⟩
  subst w3
  have e1 : (N == N) = true := by simp
  have e2 : ((tot X n : Int) == (tot X n : Int)) = true := by simp
  go_wp2
  go_ret
  exact ⟨rfl, hc2⟩

set_option maxHeartbeats 2000000 in
set_option maxRecDepth 100000 in
theorem law10_diff (b off n cap j : Nat) (N cnt : Int) (X : Nat → Nat) (w : World) (hn : (n : Int) ≤ 65536) (hw : Wds w b off n X) (hj : j / 64 < n) (hd : cnt ≠ (tot X n : Int)) :
    Calls Try.prog 10 #[.slice (some ⟨b, off, none⟩) n cap, .int .i64 N, .int .i64 cnt, .int .i64 (j : Int)] w fun e w' => e = .returned (.bool true) ∧ Below w.heap.size w w' := by
  have hn' : n ≤ 65536 := by omega
  have hj' : (j : Int) / 64 < (n : Int) := by omega
  have hj0 : (j : Int) ≤ 4194304 := by omega
  have htl := tot_le X n
  have e0 : (cnt != (tot X n : Int)) = true := bne_iff_ne.2 hd
  go_enter Try.func10, Try.ntmps10
  go_wp2_with fail
  refine (bytes29 _ n cap N _ j w (by unfold maxLen; omega)).mono ?_
  rintro e w1 ⟨⟨r, rfl⟩, hw1⟩
  subst w1
  cases r
  · go_wp2
    go_ret
    exact ⟨rfl, Below.refl _ _⟩
  go_wp2_with fail
  refine (count30 b off n cap X w hn' hw).mono ?_
  rintro e w1 ⟨rfl, hw1⟩
  subst w1
  go_wp2
  go_ret
  exact ⟨rfl, Below.refl _ _⟩

set_option maxHeartbeats 2000000 in
set_option maxRecDepth 100000 in
theorem law10_far (a : Option Addr) (len cap : Nat) (N cnt i : Int) (w : World) (hlen : len ≤ maxLen) (hi : i ≤ 9223372036854775807) (h : 65536 < (len : Int) ∨ (¬ 65536 < (len : Int) ∧ i < 0) ∨ (¬ 65536 < (len : Int) ∧ 0 ≤ i ∧ (len : Int) ≤ i / 64)) :
    Calls Try.prog 10 #[.slice a len cap, .int .i64 N, .int .i64 cnt, .int .i64 i] w fun e w' => e = .returned (.bool true) ∧ Below w.heap.size w w' := by
  have hb := bytes29 a len cap N cnt i w hlen
  rcases h with h1 | ⟨h1, h2⟩ | ⟨h1, h2, h3⟩
  all_goals
    go_enter Try.func10, Try.ntmps10
    go_wp2_with fail
    refine hb.mono ?_
    rintro e w1 ⟨⟨r, rfl⟩, hw1⟩
    subst w1
    clear hb
    cases r
    · go_wp2
      go_ret
      exact ⟨rfl, Below.refl _ _⟩
    · go_wp2
      go_ret
      exact ⟨rfl, Below.refl _ _⟩

end Go.Proofs.Qxb6602705a
