/-
  Seat b6603076a. ZZSpace (10), the clone (9), the guard (12), and THE WALK of FnSpaceIdempotent (4).
-/
import Derived.Test.Qxb6603076aSpace
namespace Go.Proofs.Qxb6603076a
open Go.RowKit

def SomeBool (e : Ending) : Prop := ∃ r : Bool, e = .returned (.bool r)

theorem box_space (g n cap p : Nat) (d : Int) (X : Nat → Int) (w : World) (hn : n ≤ 1048576) (hg : g < w.heap.size) (hx : Nums w g 0 n X) :
    Calls Try.prog 19 #[.pointer (some ⟨w.heap.size, 0, none⟩)] (w.alloc (.cells (rd g n cap p d) 40)) fun e w' => e = .returned (.tuple #[]) ∧ ∃ p2 : Nat, p ≤ p2 ∧ Stop X n p2 ∧ (Stop X n p → p2 = p) ∧
      w'.cell? ⟨w.heap.size, 1, none⟩ = some (.int .i64 (p2 : Int)) ∧ w'.cell? ⟨w.heap.size, 2, none⟩ = some (.int .i64 d) ∧ Below w.heap.size w w' := by
  have hx1 : Nums (w.alloc (.cells (rd g n cap p d) 40)) g 0 n X := fun k hk => (World.cell?_of_block (Below.heap_alloc w _ g hg)).trans (hx k hk)
  have hb1 : Below w.heap.size w (w.alloc (.cells (rd g n cap p d) 40)) := (Below.refl _ _).alloc (Nat.le_refl _) _
  refine (space19 w.heap.size g n cap p d X _ hn (by omega) (heap_alloc_new _ _) hx1).mono ?_
  rintro e w' ⟨he, p2, h1, h2, h3, h4, h5⟩
  exact ⟨he, p2, h1, h2, h3, (cell_of_row w' _ _ _ _ _ h4).trans rfl, (cell_of_row w' _ _ _ _ _ h4).trans rfl, hb1.grown h5 hb1.size (fun k hk => by cases hk; exact Nat.le_refl _)⟩

set_option maxHeartbeats 2000000 in
set_option maxRecDepth 100000 in
theorem space10 (g n cap p : Nat) (d : Int) (X : Nat → Int) (w : World) (hn : n ≤ 1048576) (hg : g < w.heap.size) (hx : Nums w g 0 n X) :
    Calls Try.prog 10 #[.slice (some ⟨g, 0, none⟩) n cap, .int .i64 (p : Int), .int .i64 d] w fun e w' => ∃ p2 : Nat, e = .returned (.tuple #[.int .i64 (p2 : Int), .int .i64 d]) ∧ p ≤ p2 ∧ Stop X n p2 ∧ (Stop X n p → p2 = p) ∧ Below w.heap.size w w' := by
  have hcall := box_space g n cap p d X w hn hg hx
  clear hx
  go_enter Try.func10, Try.ntmps10
  go_wp2_with fail
  refine hcall.mono ?_
  rintro e w1 ⟨rfl, p2, h1, h2, h3, c1, c2, hb⟩
  have HB : Hid (p ≤ p2 ∧ Stop X n p2 ∧ (Stop X n p → p2 = p) ∧ Below w.heap.size w w1) := ⟨h1, h2, h3, hb⟩
  clear hcall h1 h2 h3 hb
  go_wp2
  go_quiet (fail)
  go_wp2
  go_ret2
  obtain ⟨h1, h2, h3, hb⟩ := HB.out
  exact ⟨p2, rfl, h1, h2, h3, ⟨hb.os, hb.tape, hb.output, hb.size, hb.block⟩⟩

set_option maxHeartbeats 2000000 in
set_option maxRecDepth 100000 in
theorem space10_none (a : Option Addr) (cap : Nat) (p d : Int) (w : World) (h0 : 0 ≤ p) :
    Calls Try.prog 10 #[.slice a 0 cap, .int .i64 p, .int .i64 d] w fun e w' => e = .returned (.tuple #[.int .i64 p, .int .i64 d]) ∧ Below w.heap.size w w' := by
  have hblk : (w.alloc (.cells #[.slice a 0 cap, .int .i64 p, .int .i64 d] 40)).heap[w.heap.size]? = some (.cells #[.slice a 0 cap, .int .i64 p, .int .i64 d] 40 (0, 0)) := heap_alloc_new _ _
  have hcall := space19_none w.heap.size a cap p d _ h0 hblk
  clear hblk
  go_enter Try.func10, Try.ntmps10
  go_wp2_with fail
  refine hcall.mono ?_
  rintro e w1 ⟨rfl, q, rfl⟩
  clear hcall
  go_wp2
  go_quiet (fail)
  go_wp2
  go_ret2
  exact ⟨rfl, rfl, rfl, rfl, by simp [World.drewN], fun k hk => Below.heap_alloc w _ k hk⟩

theorem info5 : (Try.prog.info? 5).map (fun i => (i.zero, i.size, i.bytes)) = some (some (.int .u8 0), 1, 1) := by kernel_rfl

def zeros (n : Nat) : Array Value := madeCells #[.int .u8 0] n
theorem size_zeros (n : Nat) : (zeros n).size = n := size_madeCells _ _

theorem make22 (n : Nat) (h : n ≤ 1048576) (w : World) :
    (Instr.makeSlice 22 (.int .i64 (n : Int)) (.int .i64 (n : Int))).run Try.prog w = .ok (.slice (some ⟨w.heap.size, 0, none⟩) n n) (w.alloc (.cells (zeros n) 5)) :=
  run_make_row' 22 5 (.int .u8 0) 1 Try.underlying22 info5 rfl .i64 .i64 n (by omega) (by omega) w

theorem eq22 (w : World) (a : Option Addr) (n c n' c' : Nat) : (binOp .eql 22 (.slice a n c) (.slice none n' c')).run Try.prog w = .ok (.bool a.isNone) w :=
  Lib.run_eql_slice_nil w _ _ a n c n' c' Try.underlying22

theorem num_step (cs : Array Value) (n k : Nat) (hlt : k < n) (hsz : cs.size = n) (X : Nat → Int) (hin : ∀ j, j < k → cs[j]? = some (.int .u8 (X j))) :
    ∀ j, j < k + 1 → (cs.setIfInBounds k (.int .u8 (X k)))[j]? = some (.int .u8 (X j)) := by
  intro j hj
  by_cases e : j = k
  · subst e
    rw [Array.getElem?_setIfInBounds_self_of_lt (by omega)]
  · rw [Array.getElem?_setIfInBounds_ne (by omega), hin j (by omega)]

set_option maxHeartbeats 1000000 in
set_option maxRecDepth 100000 in
theorem clone9 (b off n cap : Nat) (X : Nat → Int) (w : World) (hn : n ≤ 1048576) (hb : b < w.heap.size) (hp : Nums w b off n X) :
    Calls Try.prog 9 #[.slice (some ⟨b, off, none⟩) n cap] w fun e w' => ∃ g, e = .returned (.slice (some ⟨g, 0, none⟩) n n) ∧ g < w'.heap.size ∧ Nums w' g 0 n X ∧ Below w.heap.size w w' := by
  have hq := eq22
  have hmk := make22 n hn
  have HP : Hid (Nums w b off n X) := hp
  clear hp
  go_enter Try.func9, Try.ntmps9
  go_wp2
  go_loopw [4] (fun i wr => ∃ k : Nat, k ≤ n ∧ i = .int .i64 k ∧ (∃ cs : Array Value, wr.heap[w.heap.size]? = some (.cells cs 5 (0, 0)) ∧ cs.size = n ∧ ∀ j, j < k → cs[j]? = some (.int .u8 (X j))) ∧ Below w.heap.size w wr ∧ w.heap.size < wr.heap.size) (fun i _ => n - (intOf i).toNat)
  case atStart => exact ⟨0, Nat.zero_le _, rfl, ⟨zeros n, heap_alloc_new _ _, size_zeros _, fun j hj => absurd hj (Nat.not_lt_zero _)⟩, (Below.refl _ _).alloc (Nat.le_refl _) _, by simp⟩
  case round =>
    obtain ⟨k, hk, rfl, ⟨cs, hcs, hsz, hin⟩, hnx, hsz2⟩ := hrel
    by_cases hlt : k < n
    · have h1 := HP.out k hlt
      have g1 := (hnx.cell (p := ⟨b, off + k, none⟩) hb).trans h1
      clear h1
      obtain ⟨v0, c0⟩ : ∃ v, wr.cell? ⟨w.heap.size, k, none⟩ = some v := ⟨_, (cell_of_row wr _ _ _ _ _ hcs).trans (Array.getElem?_eq_getElem (by omega))⟩
      have f0 := frozen_of_row wr w.heap.size k _ _ hcs
      have HC : Hid (wr.heap[w.heap.size]? = some (.cells cs 5 (0, 0))) := hcs
      have HI : Hid (∀ j, j < k → cs[j]? = some (.int .u8 (X j))) := hin
      clear hcs hin
      go_wp2
      go_roundw
      case rel => exact ⟨k + 1, by omega, by go_num, ⟨_, heap_setCell_same _ _ _ _ _ _ HC.out, by simp [hsz], num_step cs n k hlt hsz X HI.out⟩, hnx.setCell (Nat.le_refl _) _, by simpa [World.setCell] using hsz2⟩
      case measure => simp [intOf]; omega
    · have hkn : k = n := by omega
      subst hkn
      go_wp2
      go_ret
      refine ⟨_, rfl, hsz2, fun j hj => ?_, hnx⟩
      rw [cell_of_row wr _ _ _ _ _ hcs, Nat.zero_add]
      exact hin j hj

set_option maxHeartbeats 1000000 in
set_option maxRecDepth 100000 in
theorem clone9_zero (x : Addr) (cap : Nat) (w : World) :
    Calls Try.prog 9 #[.slice (some x) 0 cap] w fun e w' => ∃ a : Option Addr, e = .returned (.slice a 0 0) ∧ Below w.heap.size w w' := by
  have hq := eq22
  have hmk : ∀ w : World, (Instr.makeSlice 22 (.int .i64 0) (.int .i64 0)).run Try.prog w = .ok (.slice (some ⟨w.heap.size, 0, none⟩) 0 0) (w.alloc (.cells (zeros 0) 5)) := make22 0 (by omega)
  go_enter Try.func9, Try.ntmps9
  go_wp2
  refine wp_loop_rounds 1 ?_
  rw [rounds_succ]
  go_wp2
  go_ret
  exact ⟨_, rfl, (Below.refl _ _).alloc (Nat.le_refl _) _⟩

set_option maxHeartbeats 1000000 in
set_option maxRecDepth 100000 in
theorem clone9_nil (w : World) :
    Calls Try.prog 9 #[.slice none 0 0] w fun e w' => ∃ a : Option Addr, e = .returned (.slice a 0 0) ∧ Below w.heap.size w w' := by
  have hq := eq22
  go_enter Try.func9, Try.ntmps9
  go_wp2
  go_ret
  exact ⟨_, rfl, Below.refl _ _⟩

set_option maxHeartbeats 400000 in
theorem bytes12 (a : Option Addr) (len cap : Nat) (p d : Int) (w : World) (hlen : len ≤ maxLen) : Calls Try.prog 12 #[.slice a len cap, .int .i64 p, .int .i64 d] w fun e w' => SomeBool e ∧ w' = w := by
  unfold maxLen at hlen
  go_enter Try.func12, Try.ntmps12
  go_wp2
  all_goals (go_ret; exact ⟨⟨_, rfl⟩, rfl⟩)

set_option maxHeartbeats 2000000 in
set_option maxRecDepth 100000 in
theorem law4_in (b off n cap p : Nat) (d : Int) (X : Nat → Int) (w : World) (hn : n ≤ 1048576) (hb : b < w.heap.size) (hx : Nums w b off n X) :
    Calls Try.prog 4 #[.slice (some ⟨b, off, none⟩) n cap, .int .i64 (p : Int), .int .i64 d] w fun e w' => e = .returned (.bool true) ∧ Below w.heap.size w w' := by
  have hn' : (n : Int) ≤ 1048576 := by omega
  have hd : (d == d) = true := by simp
  go_enter Try.func4, Try.ntmps4
  go_wp2_with fail
  refine (bytes12 _ n cap p d w (by unfold maxLen; omega)).mono ?_
  rintro e w1 ⟨⟨r, rfl⟩, hw1⟩
  subst w1
  cases r
  · go_wp2
    go_ret
    exact ⟨rfl, Below.refl _ _⟩
  go_wp2_with fail
  refine (clone9 b off n cap X w hn hb hx).mono ?_
  rintro e w1 ⟨g, rfl, hg, hx1, hb1⟩
  go_wp2_with fail
  refine (space10 g n n p d X w1 hn hg hx1).mono ?_
  rintro e w2 ⟨p1, rfl, hp1, hs1, _, hb2⟩
  have hx2 : Nums w2 g 0 n X := fun k hk => (hb2.cell (p := ⟨g, 0 + k, none⟩) hg).trans (hx1 k hk)
  have hg2 := Nat.lt_of_lt_of_le hg hb2.size
  have hc2 : Below w.heap.size w w2 := hb1.trans (hb2.mono hb1.size)
  clear hx hx1 hb1 hb2 hg
  go_wp2_with fail
  refine (space10 g n n p1 d X w2 hn hg2 hx2).mono ?_
  rintro e w3 ⟨p2, he, _, _, hst, hb3⟩
  have hpp := hst hs1
  subst hpp
  subst he
  have hc3 : Below w.heap.size w w3 := hc2.trans (hb3.mono hc2.size)
  have hpe : ((p2 : Int) == (p2 : Int)) = true := by simp
  have hge : (p : Int) ≤ (p2 : Int) := by omega
  clear hst hs1 hb3 hc2 hx2
  go_wp2
  go_ret
  exact ⟨rfl, hc3⟩

set_option maxHeartbeats 2000000 in
set_option maxRecDepth 100000 in
theorem law4_empty (a : Option Addr) (cap : Nat) (p d : Int) (w : World) (h0 : 0 ≤ p) (hcl : Calls Try.prog 9 #[.slice a 0 cap] w fun e w' => ∃ a : Option Addr, e = .returned (.slice a 0 0) ∧ Below w.heap.size w w') :
    Calls Try.prog 4 #[.slice a 0 cap, .int .i64 p, .int .i64 d] w fun e w' => e = .returned (.bool true) ∧ Below w.heap.size w w' := by
  have hd : (d == d) = true := by simp
  have hpe : (p == p) = true := by simp
  have h0' : ¬ p < 0 := by omega
  go_enter Try.func4, Try.ntmps4
  go_wp2_with fail
  refine (bytes12 _ 0 cap p d w (Nat.zero_le _)).mono ?_
  rintro e w1 ⟨⟨r, rfl⟩, hw1⟩
  subst w1
  cases r
  · go_wp2
    go_ret
    exact ⟨rfl, Below.refl _ _⟩
  go_wp2_with fail
  refine hcl.mono ?_
  rintro e w1 ⟨a1, rfl, hb1⟩
  clear hcl
  go_wp2_with fail
  refine (space10_none a1 0 p d w1 h0).mono ?_
  rintro e w2 ⟨rfl, hb2⟩
  have hc2 : Below w.heap.size w w2 := hb1.trans (hb2.mono hb1.size)
  go_wp2_with fail
  refine (space10_none a1 0 p d w2 h0).mono ?_
  rintro e w3 ⟨rfl, hb3⟩
  have hc3 : Below w.heap.size w w3 := hc2.trans (hb3.mono hc2.size)
  clear hb1 hb2 hb3 hc2
  go_wp2
  go_ret
  exact ⟨rfl, hc3⟩

set_option maxHeartbeats 2000000 in
set_option maxRecDepth 100000 in
theorem law4_far (a : Option Addr) (len cap : Nat) (p d : Int) (w : World) (hlen : len ≤ maxLen) (h : 1048576 < (len : Int) ∨ (¬ 1048576 < (len : Int) ∧ p < 0)) :
    Calls Try.prog 4 #[.slice a len cap, .int .i64 p, .int .i64 d] w fun e w' => e = .returned (.bool true) ∧ Below w.heap.size w w' := by
  have hb := bytes12 a len cap p d w hlen
  rcases h with h1 | ⟨h1, h2⟩
  all_goals
    go_enter Try.func4, Try.ntmps4
    go_wp2_with fail
    refine hb.mono ?_
    rintro e w1 ⟨⟨r, rfl⟩, hw1⟩
    subst w1
    clear hb
    cases r
    · go_wp2
      go_ret
      exact ⟨rfl, Below.refl _ _⟩
    · go_wp2
      go_ret
      exact ⟨rfl, Below.refl _ _⟩

end Go.Proofs.Qxb6603076a
