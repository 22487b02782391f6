/-
  Seat b6602705a. zzPolHas (28).
-/
import Derived.Test.Qxb6602705aRows
import Derived.WalkKit
import Derived.WalkSpells
import Derived.WalkLawsBesides
import Derived.Deep.QuietTactic
import Derived.BigQuiet
namespace Go.Proofs.Qxb6602705a
open Go.RowKit

/-- WHAT A WALK IS TOLD OF THE WORDS. -/
def Wds (w : World) (b off n : Nat) (X : Nat → Nat) : Prop := ∀ k, k < n → w.cell? ⟨b, off + k, none⟩ = some (.int .u64 (X k : Int)) ∧ X k < 18446744073709551616

theorem has_bit (x r : Nat) (hx : x < 18446744073709551616) : (bits .and .u64 ((x : Int) / 2 ^ r) 1 == 1) = x.testBit r := by
  have e1 : (x : Int) / 2 ^ r = ((x / 2 ^ r : Nat) : Int) := by simp
  have hlt : x / 2 ^ r < 18446744073709551616 := Nat.lt_of_le_of_lt (Nat.div_le_self _ _) hx
  have e2 := u64_and_nat (x / 2 ^ r) 1 hlt (by omega)
  rw [e1, show (1 : Int) = ((1 : Nat) : Int) from rfl, e2, nat_mask1, Nat.testBit_eq_decide_div_mod_eq]
  by_cases h : x / 2 ^ r % 2 = 1
  · rw [h]; simp
  · have h0 : x / 2 ^ r % 2 = 0 := by omega
    rw [h0]; simp

theorem ret_bool {a b : Bool} (h : a = b) : Ending.returned (.bool a) = .returned (.bool b) := by rw [h]

set_option maxHeartbeats 1000000 in
set_option maxRecDepth 100000 in
theorem has28 (b off n cap j : Nat) (X : Nat → Nat) (w : World) (hn : n ≤ 65536) (hj : j / 64 < n) (hw : Wds w b off n X) :
    Calls Try.prog 28 #[.slice (some ⟨b, off, none⟩) n cap, .int .i64 (j : Int)] w fun e w' => e = .returned (.bool ((X (j / 64)).testBit (j % 64))) ∧ w' = w := by
  obtain ⟨hc, hx⟩ := hw (j / 64) hj
  have hj' : (j : Int) / 64 < (n : Int) := by omega
  have hj0 : (j : Int) ≤ 4194304 := by omega
  go_enter Try.func28, Try.ntmps28
  go_wp2
  go_ret
  exact ⟨ret_bool (has_bit _ _ hx), rfl⟩

theorem pow_lt (r : Nat) (hr : r < 64) : (2 : Nat) ^ r < 18446744073709551616 := by
  have h : (2 : Nat) ^ r < 2 ^ 64 := Nat.pow_lt_pow_right (by omega) hr
  have e : (2 : Nat) ^ 64 = 18446744073709551616 := by decide
  omega

theorem wrap_pow (r m : Nat) (hr : r < 64) (hm : m = 2 ^ r) : IntKind.u64.wrap (2 ^ r) = (m : Int) := by
  have h := pow_lt r hr
  have e : (2 : Int) ^ r = ((2 ^ r : Nat) : Int) := by simp
  rw [IntKind.wrap_u64, e, ← hm]
  rw [← hm] at h
  omega

theorem and_bit (x r : Nat) (hr : r < 64) (hx : x < 18446744073709551616) : (bits .and .u64 (x : Int) ((2 ^ r : Nat) : Int) != 0) = x.testBit r := by
  rw [u64_and_nat x (2 ^ r) hx (pow_lt r hr), nat_bit, Nat.testBit_eq_decide_div_mod_eq]
  have hp : 0 < 2 ^ r := Nat.two_pow_pos r
  by_cases h : x / 2 ^ r % 2 = 1
  · rw [h, Nat.one_mul]
    have h1 : (((2 ^ r : Nat) : Int) != 0) = true := bne_iff_ne.2 (by omega)
    rw [h1]
    rfl
  · have h0 : x / 2 ^ r % 2 = 0 := by omega
    rw [h0, Nat.zero_mul]; simp

theorem or_bit (x r : Nat) (hr : r < 64) (hx : x < 18446744073709551616) : bits .or .u64 (x : Int) ((2 ^ r : Nat) : Int) = ((x ||| 2 ^ r : Nat) : Int) :=
  u64_or_nat x (2 ^ r) hx (pow_lt r hr)

set_option maxHeartbeats 1000000 in
set_option maxRecDepth 100000 in
/-- (*PieceSet).Add at a piece that is not yet in the set. -/
theorem add37_new (s g n cap j : Nat) (cnt : Int) (x : Nat) (w : World) (hn : n ≤ 65536) (hj : j / 64 < n) (hx : x < 18446744073709551616) (hsg : s ≠ g)
    (s0 : w.cell? ⟨s, 0, none⟩ = some (.slice (some ⟨g, 0, none⟩) n cap)) (s2 : w.cell? ⟨s, 2, none⟩ = some (.int .i64 cnt)) (f2 : w.frozen? ⟨s, 2, none⟩ = false)
    (hc : w.cell? ⟨g, j / 64, none⟩ = some (.int .u64 (x : Int))) (hf : w.frozen? ⟨g, j / 64, none⟩ = false) (hb : x.testBit (j % 64) = false) :
    Calls Try.prog 37 #[.pointer (some ⟨s, 0, none⟩), .int .i64 (j : Int)] w fun e w' => e = .returned (.bool true) ∧
      ∃ q, w' = ((w.setCell ⟨g, j / 64, none⟩ (.int .u64 ((x ||| 2 ^ (j % 64) : Nat) : Int))).setCell ⟨s, 2, none⟩ (.int .i64 (wrap64 (cnt + 1)))).drewN q := by
  have hj' : (j : Int) / 64 < (n : Int) := by omega
  have hj0 : (j : Int) ≤ 4194304 := by omega
  have hand := and_bit x (j % 64) (by omega) hx
  have hor := or_bit x (j % 64) (by omega) hx
  rw [hb] at hand
  obtain ⟨m, hm⟩ : ∃ m : Nat, m = 2 ^ (j % 64) := ⟨_, rfl⟩
  have hwm := wrap_pow (j % 64) m (by omega) hm
  rw [← hm] at hand hor ⊢
  generalize x ||| m = y at hor ⊢
  have t2 : ∀ v, (w.setCell ⟨g, j / 64, none⟩ v).cell? ⟨s, 2, none⟩ = some (.int .i64 cnt) := fun v => by rw [← s2]; exact World.cell?_of_block (Below.heap_setCell _ _ _ _ hsg)
  have t3 : ∀ v, (w.setCell ⟨g, j / 64, none⟩ v).frozen? ⟨s, 2, none⟩ = false := fun v => by rw [← f2]; exact World.frozen?_of_block (Below.heap_setCell _ _ _ _ hsg)
  clear hb hm
  go_enter Try.func37, Try.ntmps37
  go_wp2
  go_quiet (fail)
  go_wp2
  go_ret
  exact ⟨rfl, nq, rfl⟩

set_option maxHeartbeats 1000000 in
set_option maxRecDepth 100000 in
/-- (*PieceSet).Add at a piece that is in the set already. -/
theorem add37_old (s g n cap j : Nat) (x : Nat) (w : World) (hn : n ≤ 65536) (hj : j / 64 < n) (hx : x < 18446744073709551616)
    (s0 : w.cell? ⟨s, 0, none⟩ = some (.slice (some ⟨g, 0, none⟩) n cap))
    (hc : w.cell? ⟨g, j / 64, none⟩ = some (.int .u64 (x : Int))) (hb : x.testBit (j % 64) = true) :
    Calls Try.prog 37 #[.pointer (some ⟨s, 0, none⟩), .int .i64 (j : Int)] w fun e w' => e = .returned (.bool false) ∧ ∃ q, w' = w.drewN q := by
  have hj' : (j : Int) / 64 < (n : Int) := by omega
  have hj0 : (j : Int) ≤ 4194304 := by omega
  have hand := and_bit x (j % 64) (by omega) hx
  rw [hb] at hand
  obtain ⟨m, hm⟩ : ∃ m : Nat, m = 2 ^ (j % 64) := ⟨_, rfl⟩
  have hwm := wrap_pow (j % 64) m (by omega) hm
  rw [← hm] at hand
  clear hb hm
  go_enter Try.func37, Try.ntmps37
  go_wp2
  go_quiet (fail)
  go_wp2
  go_ret
  exact ⟨rfl, nq, rfl⟩

/-- A ROW OF WORDS OF THE CALL's OWN, from the head of block g on. -/
def Own (w : World) (g n : Nat) (X : Nat → Nat) : Prop := ∃ cs : Array Value, w.heap[g]? = some (.cells cs 30 (0, 0)) ∧ cs.size = n ∧ ∀ k, k < n → cs[k]? = some (.int .u64 (X k : Int)) ∧ X k < 18446744073709551616

theorem Own.wds {w : World} {g n : Nat} {X : Nat → Nat} (h : Own w g n X) : Wds w g 0 n X := by
  obtain ⟨cs, h1, h2, h3⟩ := h
  intro k hk
  exact ⟨by rw [cell_of_row w _ _ _ _ _ h1, Nat.zero_add]; exact (h3 k hk).1, (h3 k hk).2⟩

theorem Own.lt {w : World} {g n : Nat} {X : Nat → Nat} (h : Own w g n X) : g < w.heap.size := by
  obtain ⟨cs, h1, _⟩ := h
  exact (Array.getElem?_eq_some_iff.1 h1).1

theorem Own.of_block {w w' : World} {g n : Nat} {X : Nat → Nat} (h : Own w g n X) (hb : w'.heap[g]? = w.heap[g]?) : Own w' g n X := by
  obtain ⟨cs, h1, r⟩ := h
  exact ⟨cs, hb.trans h1, r⟩

/-- The words with piece j in them. -/
def put (X : Nat → Nat) (j : Nat) : Nat → Nat := fun k => if k = j / 64 then X k ||| 2 ^ (j % 64) else X k

theorem put_lt {X : Nat → Nat} {j k : Nat} (h : X k < 18446744073709551616) : put X j k < 18446744073709551616 := by
  unfold put
  split
  · have e : (2 : Nat) ^ 64 = 18446744073709551616 := by decide
    rw [← e] at h ⊢
    refine Nat.or_lt_two_pow h ?_
    rw [e]
    exact pow_lt _ (by omega)
  · exact h

theorem Own.put {w : World} {g n : Nat} {X : Nat → Nat} (h : Own w g n X) (j : Nat) (hj : j / 64 < n) : Own (w.setCell ⟨g, j / 64, none⟩ (.int .u64 ((X (j / 64) ||| 2 ^ (j % 64) : Nat) : Int))) g n (put X j) := by
  obtain ⟨cs, h1, h2, h3⟩ := h
  refine ⟨_, heap_setCell_same _ _ _ _ _ _ h1, by simp [h2], fun k hk => ⟨?_, put_lt (h3 k hk).2⟩⟩
  by_cases e : k = j / 64
  · subst e
    rw [Array.getElem?_setIfInBounds_self_of_lt (by omega)]
    unfold Qxb6602705a.put
    rw [if_pos rfl]
  · rw [Array.getElem?_setIfInBounds_ne (fun h => e h.symm), (h3 k hk).1]
    unfold Qxb6602705a.put
    rw [if_neg e]

theorem grown_drew {w w' : World} {row : Option Nat} (h : w.grownBy w' row) (q : Nat) : w.grownBy (w'.drewN q) row := ⟨h.os, h.tape, h.output, h.size, h.block⟩

/-- The struct that ZZPieceSetAdd boxes. -/
abbrev boxed (w : World) (g n cap : Nat) (N cnt : Int) : World := w.alloc (.cells #[.slice (some ⟨g, 0, none⟩) n cap, .int .i64 N, .int .i64 cnt] 49)

theorem box_new (g n cap j : Nat) (N cnt : Int) (X : Nat → Nat) (w : World) (hn : n ≤ 65536) (hj : j / 64 < n) (ho : Own w g n X) (hb : (X (j / 64)).testBit (j % 64) = false) :
    Calls Try.prog 37 #[.pointer (some ⟨w.heap.size, 0, none⟩), .int .i64 (j : Int)] (boxed w g n cap N cnt) fun e w' => e = .returned (.bool true) ∧
      w'.cell? ⟨w.heap.size, 0, none⟩ = some (.slice (some ⟨g, 0, none⟩) n cap) ∧ w'.cell? ⟨w.heap.size, 1, none⟩ = some (.int .i64 N) ∧ w'.cell? ⟨w.heap.size, 2, none⟩ = some (.int .i64 (wrap64 (cnt + 1))) ∧
      Own w' g n (put X j) ∧ w.grownBy w' (some g) := by
  have hg := ho.lt
  have ho1 : Own (boxed w g n cap N cnt) g n X := ho.of_block (Below.heap_alloc _ _ _ hg)
  have hblk : (boxed w g n cap N cnt).heap[w.heap.size]? = some (.cells #[.slice (some ⟨g, 0, none⟩) n cap, .int .i64 N, .int .i64 cnt] 49 (0, 0)) := heap_alloc_new _ _
  obtain ⟨hc, hx⟩ := ho1.wds (j / 64) hj
  rw [Nat.zero_add] at hc
  obtain ⟨cs, k1, k2, k3⟩ := ho1
  have hne : w.heap.size ≠ g := by omega
  have hbig : (boxed w g n cap N cnt).heap.size = w.heap.size + 1 := by simp [boxed]
  have hgb : w.grownBy (boxed w g n cap N cnt) (some g) := World.grownBy_alloc _ _ _
  generalize boxed w g n cap N cnt = W at *
  refine (add37_new w.heap.size g n cap j cnt (X (j / 64)) W hn hj hx hne ((cell_of_row W _ _ _ _ _ hblk).trans rfl) ((cell_of_row W _ _ _ _ _ hblk).trans rfl) (frozen_of_row W _ _ _ _ hblk) hc (frozen_of_row W _ _ _ _ k1) hb).mono ?_
  rintro e w' ⟨rfl, q, rfl⟩
  have h2 := Own.put ⟨cs, k1, k2, k3⟩ j hj
  have h3 : ((W.setCell ⟨g, j / 64, none⟩ (.int .u64 ((X (j / 64) ||| 2 ^ (j % 64) : Nat) : Int))).setCell ⟨w.heap.size, 2, none⟩ (.int .i64 (wrap64 (cnt + 1)))).heap[w.heap.size]? = some (.cells #[.slice (some ⟨g, 0, none⟩) n cap, .int .i64 N, .int .i64 (wrap64 (cnt + 1))] 49 (0, 0)) :=
    heap_setCell_same _ _ _ _ _ _ ((heap_setCell_other _ _ _ _ hne).trans hblk)
  refine ⟨rfl, (cell_of_row _ _ _ _ _ _ h3).trans rfl, (cell_of_row _ _ _ _ _ _ h3).trans rfl, (cell_of_row _ _ _ _ _ _ h3).trans rfl, h2.of_block (heap_setCell_other _ _ _ _ (fun e => hne e.symm)), ?_⟩
  refine grown_drew ?_ q
  refine ⟨hgb.os, hgb.tape, hgb.output, by simp [World.setCell, hbig], fun k hk hkg => ?_⟩
  rw [heap_setCell_other _ _ _ _ (by show k ≠ w.heap.size; omega), heap_setCell_other _ _ _ _ (fun e => hkg (by rw [e]))]
  exact hgb.block k hk hkg

theorem box_old (g n cap j : Nat) (N cnt : Int) (X : Nat → Nat) (w : World) (hn : n ≤ 65536) (hj : j / 64 < n) (ho : Own w g n X) (hb : (X (j / 64)).testBit (j % 64) = true) :
    Calls Try.prog 37 #[.pointer (some ⟨w.heap.size, 0, none⟩), .int .i64 (j : Int)] (boxed w g n cap N cnt) fun e w' => e = .returned (.bool false) ∧
      w'.cell? ⟨w.heap.size, 0, none⟩ = some (.slice (some ⟨g, 0, none⟩) n cap) ∧ w'.cell? ⟨w.heap.size, 1, none⟩ = some (.int .i64 N) ∧ w'.cell? ⟨w.heap.size, 2, none⟩ = some (.int .i64 cnt) ∧
      Own w' g n X ∧ w.grownBy w' (some g) := by
  have hg := ho.lt
  have ho1 : Own (boxed w g n cap N cnt) g n X := ho.of_block (Below.heap_alloc _ _ _ hg)
  have hblk : (boxed w g n cap N cnt).heap[w.heap.size]? = some (.cells #[.slice (some ⟨g, 0, none⟩) n cap, .int .i64 N, .int .i64 cnt] 49 (0, 0)) := heap_alloc_new _ _
  obtain ⟨hc, hx⟩ := ho1.wds (j / 64) hj
  rw [Nat.zero_add] at hc
  have hgb : w.grownBy (boxed w g n cap N cnt) (some g) := World.grownBy_alloc _ _ _
  generalize boxed w g n cap N cnt = W at *
  refine (add37_old w.heap.size g n cap j (X (j / 64)) W hn hj hx ((cell_of_row W _ _ _ _ _ hblk).trans rfl) hc hb).mono ?_
  rintro e w' ⟨rfl, q, rfl⟩
  exact ⟨rfl, (cell_of_row W _ _ _ _ _ hblk).trans rfl, (cell_of_row W _ _ _ _ _ hblk).trans rfl, (cell_of_row W _ _ _ _ _ hblk).trans rfl, ho1, grown_drew hgb q⟩

set_option maxHeartbeats 1000000 in
set_option maxRecDepth 100000 in
/-- ZZPieceSetAdd, a new piece. -/
theorem add27_new (g n cap j : Nat) (N cnt : Int) (X : Nat → Nat) (w : World) (hn : n ≤ 65536) (hj : j / 64 < n) (ho : Own w g n X) (hb : (X (j / 64)).testBit (j % 64) = false) :
    Calls Try.prog 27 #[.slice (some ⟨g, 0, none⟩) n cap, .int .i64 N, .int .i64 cnt, .int .i64 (j : Int)] w fun e w' =>
      e = .returned (.tuple #[.bool true, .slice (some ⟨g, 0, none⟩) n cap, .int .i64 N, .int .i64 (wrap64 (cnt + 1))]) ∧ Own w' g n (put X j) ∧ w.grownBy w' (some g) := by
  have hg := ho.lt
  obtain ⟨hc, hx⟩ := ho.wds (j / 64) hj
  rw [Nat.zero_add] at hc
  have hcall := box_new g n cap j N cnt X w hn hj ho hb
  go_enter Try.func27, Try.ntmps27
  go_wp2_with fail
  refine hcall.mono ?_
  rintro e w1 ⟨rfl, c0, c1, c2, ho1, hg1⟩
  clear hcall
  go_wp2
  go_quiet (fail)
  go_wp2
  refine bodyPost_ret (v := .tuple #[.bool true, .slice (some ⟨g, 0, none⟩) n cap, .int .i64 N, .int .i64 (wrap64 (cnt + 1))]) (by simp [results, Try.results27, go_sem]) rfl ⟨rfl, ho1, grown_drew hg1 _⟩

set_option maxHeartbeats 1000000 in
set_option maxRecDepth 100000 in
/-- ZZPieceSetAdd, a piece that is there. -/
theorem add27_old (g n cap j : Nat) (N cnt : Int) (X : Nat → Nat) (w : World) (hn : n ≤ 65536) (hj : j / 64 < n) (ho : Own w g n X) (hb : (X (j / 64)).testBit (j % 64) = true) :
    Calls Try.prog 27 #[.slice (some ⟨g, 0, none⟩) n cap, .int .i64 N, .int .i64 cnt, .int .i64 (j : Int)] w fun e w' =>
      e = .returned (.tuple #[.bool false, .slice (some ⟨g, 0, none⟩) n cap, .int .i64 N, .int .i64 cnt]) ∧ Own w' g n X ∧ w.grownBy w' (some g) := by
  have hcall := box_old g n cap j N cnt X w hn hj ho hb
  go_enter Try.func27, Try.ntmps27
  go_wp2_with fail
  refine hcall.mono ?_
  rintro e w1 ⟨rfl, c0, c1, c2, ho1, hg1⟩
  clear hcall
  go_wp2
  go_quiet (fail)
  go_wp2
  refine bodyPost_ret (v := .tuple #[.bool false, .slice (some ⟨g, 0, none⟩) n cap, .int .i64 N, .int .i64 cnt]) (by simp [results, Try.results27, go_sem]) rfl ⟨rfl, ho1, grown_drew hg1 _⟩

end Go.Proofs.Qxb6602705a
