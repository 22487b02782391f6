/-
  Seat b6602705a. zzPolClone (15), zzBytes (26, 29), and THE WALK of FnPieceSetAddMatchesBitModel (9).
-/
import Derived.Test.Qxb6602705aHas
import Derived.Deep.OwnRows
namespace Go.Proofs.Qxb6602705a
open Go.RowKit

def SomeBool (e : Ending) : Prop := ∃ r : Bool, e = .returned (.bool r)

theorem info30 : (Try.prog.info? 30).map (fun i => (i.zero, i.size, i.bytes)) = some (some (.int .u64 0), 1, 8) := by kernel_rfl

/-- The cells of 'make([]uint64, n)'. -/
def zeros (n : Nat) : Array Value := madeCells #[.int .u64 0] n
theorem size_zeros (n : Nat) : (zeros n).size = n := size_madeCells _ _

theorem make23 (n : Nat) (h : n ≤ 65536) (w : World) :
    (Instr.makeSlice 23 (.int .i64 (n : Int)) (.int .i64 (n : Int))).run Try.prog w = .ok (.slice (some ⟨w.heap.size, 0, none⟩) n n) (w.alloc (.cells (zeros n) 30)) :=
  run_make_row' 23 30 (.int .u64 0) 8 Try.underlying23 info30 rfl .i64 .i64 n (by omega) (by omega) w

theorem eq23 (w : World) (a : Option Addr) (n c n' c' : Nat) : (binOp .eql 23 (.slice a n c) (.slice none n' c')).run Try.prog w = .ok (.bool a.isNone) w :=
  Lib.run_eql_slice_nil w _ _ a n c n' c' Try.underlying23

theorem row_step (cs : Array Value) (n k : Nat) (hlt : k < n) (hsz : cs.size = n) (X : Nat → Nat) (hin : ∀ j, j < k → cs[j]? = some (.int .u64 (X j : Int))) :
    ∀ j, j < k + 1 → (cs.setIfInBounds k (.int .u64 (X k : Int)))[j]? = some (.int .u64 (X j : Int)) := by
  intro j hj
  by_cases e : j = k
  · subst e
    rw [Array.getElem?_setIfInBounds_self_of_lt (by omega)]
  · rw [Array.getElem?_setIfInBounds_ne (by omega), hin j (by omega)]

set_option maxHeartbeats 1000000 in
set_option maxRecDepth 100000 in
theorem clone15 (b off n cap : Nat) (X : Nat → Nat) (w : World) (hn : n ≤ 65536) (hb : b < w.heap.size) (hp : Wds w b off n X) :
    Calls Try.prog 15 #[.slice (some ⟨b, off, none⟩) n cap] w fun e w' => ∃ g, e = .returned (.slice (some ⟨g, 0, none⟩) n n) ∧ w.heap.size ≤ g ∧ Own w' g n X ∧ Below w.heap.size w w' := by
  have hq := eq23
  have hmk := make23 n hn
  have HP : Hid (Wds w b off n X) := hp
  clear hp
  go_enter Try.func15, Try.ntmps15
  go_wp2
  go_loopw [4] (fun i wr => ∃ k : Nat, k ≤ n ∧ i = .int .i64 k ∧ (∃ cs : Array Value, wr.heap[w.heap.size]? = some (.cells cs 30 (0, 0)) ∧ cs.size = n ∧ ∀ j, j < k → cs[j]? = some (.int .u64 (X j : Int))) ∧ Below w.heap.size w wr ∧ w.heap.size < wr.heap.size) (fun i _ => n - (intOf i).toNat)
  case atStart => exact ⟨0, Nat.zero_le _, rfl, ⟨zeros n, heap_alloc_new _ _, size_zeros _, fun j hj => absurd hj (Nat.not_lt_zero _)⟩, (Below.refl _ _).alloc (Nat.le_refl _) _, by simp⟩
  case round =>
    obtain ⟨k, hk, rfl, ⟨cs, hcs, hsz, hin⟩, hnx, hsz2⟩ := hrel
    by_cases hlt : k < n
    · obtain ⟨h1, h2⟩ := HP.out k hlt
      have g1 := (hnx.cell (p := ⟨b, off + k, none⟩) hb).trans h1
      clear h1
      obtain ⟨v0, c0⟩ : ∃ v, wr.cell? ⟨w.heap.size, k, none⟩ = some v := ⟨_, (cell_of_row wr _ _ _ _ _ hcs).trans (Array.getElem?_eq_getElem (by omega))⟩
      have f0 := frozen_of_row wr w.heap.size k _ _ hcs
      have HC : Hid (wr.heap[w.heap.size]? = some (.cells cs 30 (0, 0))) := hcs
      have HI : Hid (∀ j, j < k → cs[j]? = some (.int .u64 (X j : Int))) := hin
      clear hcs hin
      go_wp2
      go_roundw
      case rel => exact ⟨k + 1, by omega, by go_num, ⟨_, heap_setCell_same _ _ _ _ _ _ HC.out, by simp [hsz], row_step cs n k hlt hsz X HI.out⟩, hnx.setCell (Nat.le_refl _) _, by simpa [World.setCell] using hsz2⟩
      case measure => simp [intOf]; omega
    · have hkn : k = n := by omega
      subst hkn
      go_wp2
      go_ret
      exact ⟨_, rfl, Nat.le_refl _, ⟨cs, hcs, hsz, fun j hj => ⟨hin j hj, (HP.out j hj).2⟩⟩, hnx⟩

set_option maxHeartbeats 1000000 in
set_option maxRecDepth 100000 in
theorem bytes26 (a : Option Addr) (len cap : Nat) (N c i : Int) (w : World) (hlen : len ≤ maxLen) :
    Calls Try.prog 26 #[.slice a len cap, .int .i64 N, .int .i64 c, .int .i64 i] w fun e w' => SomeBool e ∧ w' = w := by
  unfold maxLen at hlen
  go_enter Try.func26, Try.ntmps26
  go_wp2
  all_goals (go_ret; exact ⟨⟨_, rfl⟩, rfl⟩)

set_option maxHeartbeats 1000000 in
set_option maxRecDepth 100000 in
theorem bytes29 (a : Option Addr) (len cap : Nat) (N c i : Int) (w : World) (hlen : len ≤ maxLen) :
    Calls Try.prog 29 #[.slice a len cap, .int .i64 N, .int .i64 c, .int .i64 i] w fun e w' => SomeBool e ∧ w' = w := by
  unfold maxLen at hlen
  go_enter Try.func29, Try.ntmps29
  go_wp2
  all_goals (go_ret; exact ⟨⟨_, rfl⟩, rfl⟩)

theorem put_bit (X : Nat → Nat) (j k : Nat) : (put X j (k / 64)).testBit (k % 64) = ((X (k / 64)).testBit (k % 64) || decide (k = j)) := by
  unfold put
  by_cases e : k / 64 = j / 64
  · rw [if_pos e, Nat.testBit_or, Nat.testBit_two_pow]
    congr 1
    by_cases e2 : k = j
    · subst e2; simp
    · have : ¬ j % 64 = k % 64 := by omega
      simp [e2, this]
  · rw [if_neg e]
    have : ¬ k = j := fun h => e (by rw [h])
    simp [this]

theorem old_bit (X : Nat → Nat) (j k : Nat) (hb : (X (j / 64)).testBit (j % 64) = true) : (X (k / 64)).testBit (k % 64) = ((X (k / 64)).testBit (k % 64) || decide (k = j)) := by
  by_cases e2 : k = j
  · subst e2; simp [hb]
  · simp [e2]

set_option maxHeartbeats 2000000 in
set_option maxRecDepth 100000 in
theorem law9_new (b off n cap j : Nat) (N cnt : Int) (X : Nat → Nat) (w : World) (hn : (n : Int) ≤ 4096) (hb0 : b < w.heap.size) (hw : Wds w b off n X) (hj : j / 64 < n) (hb : (X (j / 64)).testBit (j % 64) = false) :
    Calls Try.prog 9 #[.slice (some ⟨b, off, none⟩) n cap, .int .i64 N, .int .i64 cnt, .int .i64 (j : Int)] w fun e w' => e = .returned (.bool true) ∧ Below w.heap.size w w' := by
  have hn' : n ≤ 65536 := by omega
  have hj' : (j : Int) / 64 < (n : Int) := by omega
  have hj0 : (j : Int) ≤ 4194304 := by omega
  have hbits : Hid (∀ k, (put X j (k / 64)).testBit (k % 64) = ((X (k / 64)).testBit (k % 64) || decide (k = j))) := fun k => put_bit X j k
  go_enter Try.func9, Try.ntmps9
  go_wp2_with fail
  refine (bytes26 _ n cap N cnt j w (by unfold maxLen; omega)).mono ?_
  rintro e w1 ⟨⟨r, rfl⟩, hw1⟩
  subst w1
  cases r
  · go_wp2
    go_ret
    exact ⟨rfl, Below.refl _ _⟩
  go_wp2_with fail
  refine (clone15 b off n cap X w hn' hb0 hw).mono ?_
  rintro e w1 ⟨g, rfl, hg, ho1, hb1⟩
  go_wp2_with fail
  refine (clone15 g 0 n n X w1 hn' ho1.lt ho1.wds).mono ?_
  rintro e w2 ⟨g2, rfl, hg2, ho2', hb2⟩
  have ho2 := ho1.of_block (hb2.block g ho1.lt)
  have hc2 : Below w.heap.size w w2 := hb1.trans (hb2.mono hb1.size)
  have hne : g2 ≠ g := by have := ho1.lt; omega
  clear hb1 hb2 ho1 hw hb0
  go_wp2_with fail
  refine (add27_new g n n j N cnt X w2 hn' hj ho2 hb).mono ?_
  rintro e w3 ⟨rfl, ho3, hgr⟩
  have ho3' := ho2'.of_block (hgr.block g2 ho2'.lt (fun e => hne (by simpa using e)))
  have hc3 : Below w.heap.size w w3 := hc2.grown hgr hc2.size (fun k hk => by cases hk; omega)
  clear ho2 ho2' hgr hne hg2
  go_wp2_with fail
  refine (has28 g2 0 n n j X w3 hn' hj ho3'.wds).mono ?_
  rintro e w4 ⟨rfl, hw⟩
  subst w4
  rw [hb]
  have HB : Hid ((X (j / 64)).testBit (j % 64) = false) := hb
  clear hb
  have e1 : ((n : Int) != (n : Int)) = false := by simp
  have e2 : (N != N) = false := by simp
  go_wp2
  go_loop [15] (fun t => ∃ k : Nat, k ≤ 64 * n ∧ t = .int .i64 k) (fun t => 64 * n - (intOf t).toNat)
  case atStart => exact ⟨0, Nat.zero_le _, rfl⟩
  case round =>
    obtain ⟨k, hk, rfl⟩ := hrel
    by_cases hlt : k < 64 * n
    · have hkb := hbits.out k
      have hkn : k / 64 < n := by omega
      have hlt' : (k : Int) < 64 * (n : Int) := by omega
      go_wp2_with fail
      refine (has28 g 0 n n k _ w3 hn' hkn ho3.wds).mono ?_
      rintro e w4 ⟨rfl, hw⟩
      subst w4
      rw [hkb]
      clear hkb
      go_wp2_with fail
      refine (has28 g2 0 n n k X w3 hn' hkn ho3'.wds).mono ?_
      rintro e w4 ⟨rfl, hw⟩
      subst w4
      by_cases hkj : k = j
      · have hkj1 : ((k : Int) == (j : Int)) = true := beq_iff_eq.2 (by omega)
        have hkj2 : decide (k = j) = true := decide_eq_true hkj
        rw [hkj2]
        clear hkj hkj2
        generalize (X (k / 64)).testBit (k % 64) = bb
        cases bb
        · go_wp2
          go_round
          case rel => exact ⟨k + 1, by omega, by go_num⟩
          case measure => simp [intOf]; omega
        · go_wp2
          go_round
          case rel => exact ⟨k + 1, by omega, by go_num⟩
          case measure => simp [intOf]; omega
      · have hkj1 : ((k : Int) == (j : Int)) = false := beq_eq_false_iff_ne.2 (by omega)
        have hkj2 : decide (k = j) = false := decide_eq_false hkj
        rw [hkj2]
        clear hkj hkj2
        generalize (X (k / 64)).testBit (k % 64) = bb
        cases bb
        · go_wp2
          go_round
          case rel => exact ⟨k + 1, by omega, by go_num⟩
          case measure => simp [intOf]; omega
        · go_wp2
          go_round
          case rel => exact ⟨k + 1, by omega, by go_num⟩
          case measure => simp [intOf]; omega
    · go_wp2
      go_ret
      exact ⟨rfl, hc3⟩

set_option maxHeartbeats 2000000 in
set_option maxRecDepth 100000 in
theorem law9_old (b off n cap j : Nat) (N cnt : Int) (X : Nat → Nat) (w : World) (hn : (n : Int) ≤ 4096) (hb0 : b < w.heap.size) (hw : Wds w b off n X) (hj : j / 64 < n) (hb : (X (j / 64)).testBit (j % 64) = true) :
    Calls Try.prog 9 #[.slice (some ⟨b, off, none⟩) n cap, .int .i64 N, .int .i64 cnt, .int .i64 (j : Int)] w fun e w' => e = .returned (.bool true) ∧ Below w.heap.size w w' := by
  have hn' : n ≤ 65536 := by omega
  have hj' : (j : Int) / 64 < (n : Int) := by omega
  have hj0 : (j : Int) ≤ 4194304 := by omega
  have hbits : Hid (∀ k, (X (k / 64)).testBit (k % 64) = ((X (k / 64)).testBit (k % 64) || decide (k = j))) := fun k => old_bit X j k hb
  go_enter Try.func9, Try.ntmps9
  go_wp2_with fail
  refine (bytes26 _ n cap N cnt j w (by unfold maxLen; omega)).mono ?_
  rintro e w1 ⟨⟨r, rfl⟩, hw1⟩
  subst w1
  cases r
  · go_wp2
    go_ret
    exact ⟨rfl, Below.refl _ _⟩
  go_wp2_with fail
  refine (clone15 b off n cap X w hn' hb0 hw).mono ?_
  rintro e w1 ⟨g, rfl, hg, ho1, hb1⟩
  go_wp2_with fail
  refine (clone15 g 0 n n X w1 hn' ho1.lt ho1.wds).mono ?_
  rintro e w2 ⟨g2, rfl, hg2, ho2', hb2⟩
  have ho2 := ho1.of_block (hb2.block g ho1.lt)
  have hc2 : Below w.heap.size w w2 := hb1.trans (hb2.mono hb1.size)
  have hne : g2 ≠ g := by have := ho1.lt; omega
  clear hb1 hb2 ho1 hw hb0
  go_wp2_with fail
  refine (add27_old g n n j N cnt X w2 hn' hj ho2 hb).mono ?_
  rintro e w3 ⟨rfl, ho3, hgr⟩
  have ho3' := ho2'.of_block (hgr.block g2 ho2'.lt (fun e => hne (by simpa using e)))
  have hc3 : Below w.heap.size w w3 := hc2.grown hgr hc2.size (fun k hk => by cases hk; omega)
  clear ho2 ho2' hgr hne hg2
  go_wp2_with fail
  refine (has28 g2 0 n n j X w3 hn' hj ho3'.wds).mono ?_
  rintro e w4 ⟨rfl, hw⟩
  subst w4
  rw [hb]
  have HB : Hid ((X (j / 64)).testBit (j % 64) = true) := hb
  clear hb
  have e1 : ((n : Int) != (n : Int)) = false := by simp
  have e2 : (N != N) = false := by simp
  go_wp2
  go_loop [15] (fun t => ∃ k : Nat, k ≤ 64 * n ∧ t = .int .i64 k) (fun t => 64 * n - (intOf t).toNat)
  case atStart => exact ⟨0, Nat.zero_le _, rfl⟩
  case round =>
    obtain ⟨k, hk, rfl⟩ := hrel
    by_cases hlt : k < 64 * n
    · have hkb := hbits.out k
      have hkn : k / 64 < n := by omega
      have hlt' : (k : Int) < 64 * (n : Int) := by omega
      go_wp2_with fail
      refine (has28 g 0 n n k _ w3 hn' hkn ho3.wds).mono ?_
      rintro e w4 ⟨rfl, hw⟩
      subst w4
      rw [hkb]
      clear hkb
      go_wp2_with fail
      refine (has28 g2 0 n n k X w3 hn' hkn ho3'.wds).mono ?_
      rintro e w4 ⟨rfl, hw⟩
      subst w4
      by_cases hkj : k = j
      · have hkj1 : ((k : Int) == (j : Int)) = true := beq_iff_eq.2 (by omega)
        have hkj2 : decide (k = j) = true := decide_eq_true hkj
        rw [hkj2]
        clear hkj hkj2
        generalize (X (k / 64)).testBit (k % 64) = bb
        cases bb
        · go_wp2
          go_round
          case rel => exact ⟨k + 1, by omega, by go_num⟩
          case measure => simp [intOf]; omega
        · go_wp2
          go_round
          case rel => exact ⟨k + 1, by omega, by go_num⟩
          case measure => simp [intOf]; omega
      · have hkj1 : ((k : Int) == (j : Int)) = false := beq_eq_false_iff_ne.2 (by omega)
        have hkj2 : decide (k = j) = false := decide_eq_false hkj
        rw [hkj2]
        clear hkj hkj2
        generalize (X (k / 64)).testBit (k % 64) = bb
        cases bb
        · go_wp2
          go_round
          case rel => exact ⟨k + 1, by omega, by go_num⟩
          case measure => simp [intOf]; omega
        · go_wp2
          go_round
          case rel => exact ⟨k + 1, by omega, by go_num⟩
          case measure => simp [intOf]; omega
    · go_wp2
      go_ret
      exact ⟨rfl, hc3⟩

set_option maxHeartbeats 2000000 in
set_option maxRecDepth 100000 in
theorem law9_far (a : Option Addr) (len cap : Nat) (N cnt i : Int) (w : World) (hlen : len ≤ maxLen) (hi : i ≤ 9223372036854775807) (h : 4096 < (len : Int) ∨ (¬ 4096 < (len : Int) ∧ i < 0) ∨ (¬ 4096 < (len : Int) ∧ 0 ≤ i ∧ (len : Int) ≤ i / 64)) :
    Calls Try.prog 9 #[.slice a len cap, .int .i64 N, .int .i64 cnt, .int .i64 i] w fun e w' => e = .returned (.bool true) ∧ Below w.heap.size w w' := by
  have hb := bytes26 a len cap N cnt i w hlen
  rcases h with h1 | ⟨h1, h2⟩ | ⟨h1, h2, h3⟩
  all_goals
    go_enter Try.func9, Try.ntmps9
    go_wp2_with fail
    refine hb.mono ?_
    rintro e w1 ⟨⟨r, rfl⟩, hw1⟩
    subst w1
    clear hb
    cases r
    · go_wp2
      go_ret
      exact ⟨rfl, Below.refl _ _⟩
    · go_wp2
      go_ret
      exact ⟨rfl, Below.refl _ _⟩

end Go.Proofs.Qxb6602705a
