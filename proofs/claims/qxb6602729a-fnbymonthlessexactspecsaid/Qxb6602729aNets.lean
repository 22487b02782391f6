/-
  Seat b6602729a. The guards (25, 17, 18), the clones (19, 20), the maker (28), zzNets (21).
-/
import Derived.Test.Qxb6602729aRows
import Derived.WalkKit
import Derived.WalkSpells
import Derived.WalkLawsBesides
import Derived.Deep.QuietTactic
import Derived.BigQuiet
import Derived.Deep.OwnRows
import Derived.Deep.RegionHeld3
namespace Go.Proofs.Qxb6602729a
open Go.RowKit

def SomeBoolN (e : Ending) : Prop := ∃ r : Bool, e = .returned (.bool r)

set_option maxHeartbeats 2000000 in
set_option maxRecDepth 100000 in
theorem bytes25 (a0 a1 a2 a3 a4 a5 : Option Addr) (n0 n1 n2 n3 n4 n5 c0 c1 c2 c3 c4 c5 : Nat) (i j k : Int) (w : World) (h0 : n0 ≤ maxLen) (h1 : n1 ≤ maxLen) (h2 : n2 ≤ maxLen) (h3 : n3 ≤ maxLen) (h4 : n4 ≤ maxLen) (h5 : n5 ≤ maxLen) :
    Calls Try.prog 25 #[.slice a0 n0 c0, .slice a1 n1 c1, .slice a2 n2 c2, .slice a3 n3 c3, .slice a4 n4 c4, .slice a5 n5 c5, .int .i64 i, .int .i64 j, .int .i64 k] w fun e w' => SomeBoolN e ∧ w' = w := by
  unfold maxLen at h0 h1 h2 h3 h4 h5
  go_enter Try.func25, Try.ntmps25
  go_wp2
  all_goals (go_ret; exact ⟨⟨_, rfl⟩, rfl⟩)

set_option maxHeartbeats 2000000 in
set_option maxRecDepth 100000 in
theorem bytes17 (a0 a1 a2 a3 a4 a5 : Option Addr) (n0 n1 n2 n3 n4 n5 c0 c1 c2 c3 c4 c5 : Nat) (i j : Int) (w : World) (h0 : n0 ≤ maxLen) (h1 : n1 ≤ maxLen) (h2 : n2 ≤ maxLen) (h3 : n3 ≤ maxLen) (h4 : n4 ≤ maxLen) (h5 : n5 ≤ maxLen) :
    Calls Try.prog 17 #[.slice a0 n0 c0, .slice a1 n1 c1, .slice a2 n2 c2, .slice a3 n3 c3, .slice a4 n4 c4, .slice a5 n5 c5, .int .i64 i, .int .i64 j] w fun e w' => SomeBoolN e ∧ w' = w := by
  unfold maxLen at h0 h1 h2 h3 h4 h5
  go_enter Try.func17, Try.ntmps17
  go_wp2
  all_goals (go_ret; exact ⟨⟨_, rfl⟩, rfl⟩)

set_option maxHeartbeats 2000000 in
set_option maxRecDepth 100000 in
theorem same18_yes (a0 a1 a2 a3 a4 a5 : Option Addr) (n c0 c1 c2 c3 c4 c5 : Nat) (w : World) :
    Calls Try.prog 18 #[.slice a0 n c0, .slice a1 n c1, .slice a2 n c2, .slice a3 n c3, .slice a4 n c4, .slice a5 n c5] w fun e w' => e = .returned (.bool true) ∧ w' = w := by
  have e1 : ((n : Int) == (n : Int)) = true := by simp
  go_enter Try.func18, Try.ntmps18
  go_wp2
  go_ret
  exact ⟨rfl, rfl⟩

set_option maxHeartbeats 2000000 in
set_option maxRecDepth 100000 in
theorem same18_no (a0 a1 a2 a3 a4 a5 : Option Addr) (n0 n1 n2 n3 n4 n5 c0 c1 c2 c3 c4 c5 : Nat) (w : World) (h : ¬ (n1 = n0 ∧ n2 = n0 ∧ n3 = n0 ∧ n4 = n0 ∧ n5 = n0)) :
    Calls Try.prog 18 #[.slice a0 n0 c0, .slice a1 n1 c1, .slice a2 n2 c2, .slice a3 n3 c3, .slice a4 n4 c4, .slice a5 n5 c5] w fun e w' => e = .returned (.bool false) ∧ w' = w := by
  by_cases h1 : n1 = n0
  · have e1 : ((n1 : Int) == (n0 : Int)) = true := beq_iff_eq.2 (by omega)
    by_cases h2 : n2 = n0
    · have e2 : ((n2 : Int) == (n0 : Int)) = true := beq_iff_eq.2 (by omega)
      by_cases h3 : n3 = n0
      · have e3 : ((n3 : Int) == (n0 : Int)) = true := beq_iff_eq.2 (by omega)
        by_cases h4 : n4 = n0
        · have e4 : ((n4 : Int) == (n0 : Int)) = true := beq_iff_eq.2 (by omega)
          have e5 : ((n5 : Int) == (n0 : Int)) = false := beq_eq_false_iff_ne.2 (by omega)
          clear h h1 h2 h3 h4
          go_enter Try.func18, Try.ntmps18
          go_wp2
          go_ret
          exact ⟨rfl, rfl⟩
        · have e4 : ((n4 : Int) == (n0 : Int)) = false := beq_eq_false_iff_ne.2 (by omega)
          clear h h1 h2 h3 h4
          go_enter Try.func18, Try.ntmps18
          go_wp2
          go_ret
          exact ⟨rfl, rfl⟩
      · have e3 : ((n3 : Int) == (n0 : Int)) = false := beq_eq_false_iff_ne.2 (by omega)
        clear h h1 h2 h3
        go_enter Try.func18, Try.ntmps18
        go_wp2
        go_ret
        exact ⟨rfl, rfl⟩
    · have e2 : ((n2 : Int) == (n0 : Int)) = false := beq_eq_false_iff_ne.2 (by omega)
      clear h h1 h2
      go_enter Try.func18, Try.ntmps18
      go_wp2
      go_ret
      exact ⟨rfl, rfl⟩
  · have e1 : ((n1 : Int) == (n0 : Int)) = false := beq_eq_false_iff_ne.2 (by omega)
    clear h h1
    go_enter Try.func18, Try.ntmps18
    go_wp2
    go_ret
    exact ⟨rfl, rfl⟩

/-- WHAT A WALK IS TOLD OF A ROW OF NUMBERS. -/
def Nums (q : IntKind) (w : World) (b off n : Nat) (X : Nat → Int) : Prop := ∀ k, k < n → w.cell? ⟨b, off + k, none⟩ = some (.int q (X k))

/-- A row of numbers of the call's own. -/
def OwnN (q : IntKind) (t : TypeId) (w : World) (g n : Nat) (X : Nat → Int) : Prop := ∃ cs : Array Value, w.heap[g]? = some (.cells cs t (0, 0)) ∧ cs.size = n ∧ ∀ k, k < n → cs[k]? = some (.int q (X k))

theorem OwnN.nums {q : IntKind} {t : TypeId} {w : World} {g n : Nat} {X : Nat → Int} (h : OwnN q t w g n X) : Nums q w g 0 n X := by
  obtain ⟨cs, h1, h2, h3⟩ := h
  intro k hk
  rw [cell_of_row w _ _ _ _ _ h1, Nat.zero_add]
  exact h3 k hk
theorem OwnN.lt {q : IntKind} {t : TypeId} {w : World} {g n : Nat} {X : Nat → Int} (h : OwnN q t w g n X) : g < w.heap.size := by
  obtain ⟨cs, h1, _⟩ := h
  exact (Array.getElem?_eq_some_iff.1 h1).1
theorem OwnN.below {q : IntKind} {t : TypeId} {w w' : World} {g n : Nat} {X : Nat → Int} (h : OwnN q t w g n X) {B : Nat} (hb : Below B w w') (hB : g < B) : OwnN q t w' g n X := by
  obtain ⟨cs, h1, r⟩ := h
  exact ⟨cs, (hb.block g hB).trans h1, r⟩

theorem info21 : (Try.prog.info? 21).map (fun i => (i.zero, i.size, i.bytes)) = some (some (.int .i32 0), 1, 4) := by kernel_rfl
theorem info44 : (Try.prog.info? 44).map (fun i => (i.zero, i.size, i.bytes)) = some (some (.int .u32 0), 1, 4) := by kernel_rfl

def zerosI (n : Nat) : Array Value := madeCells #[.int .i32 0] n
def zerosU (n : Nat) : Array Value := madeCells #[.int .u32 0] n
theorem size_zerosI (n : Nat) : (zerosI n).size = n := size_madeCells _ _
theorem size_zerosU (n : Nat) : (zerosU n).size = n := size_madeCells _ _

theorem make34 (n : Nat) (h : n ≤ 16384) (w : World) :
    (Instr.makeSlice 34 (.int .i64 (n : Int)) (.int .i64 (n : Int))).run Try.prog w = .ok (.slice (some ⟨w.heap.size, 0, none⟩) n n) (w.alloc (.cells (zerosI n) 21)) :=
  run_make_row' 34 21 (.int .i32 0) 4 Try.underlying34 info21 rfl .i64 .i64 n (by omega) (by omega) w
theorem make33 (n : Nat) (h : n ≤ 16384) (w : World) :
    (Instr.makeSlice 33 (.int .i64 (n : Int)) (.int .i64 (n : Int))).run Try.prog w = .ok (.slice (some ⟨w.heap.size, 0, none⟩) n n) (w.alloc (.cells (zerosU n) 44)) :=
  run_make_row' 33 44 (.int .u32 0) 4 Try.underlying33 info44 rfl .i64 .i64 n (by omega) (by omega) w

theorem eq34 (w : World) (a : Option Addr) (n c n' c' : Nat) : (binOp .eql 34 (.slice a n c) (.slice none n' c')).run Try.prog w = .ok (.bool a.isNone) w :=
  Lib.run_eql_slice_nil w _ _ a n c n' c' Try.underlying34
theorem eq33 (w : World) (a : Option Addr) (n c n' c' : Nat) : (binOp .eql 33 (.slice a n c) (.slice none n' c')).run Try.prog w = .ok (.bool a.isNone) w :=
  Lib.run_eql_slice_nil w _ _ a n c n' c' Try.underlying33

theorem num_step (q : IntKind) (cs : Array Value) (n k : Nat) (hlt : k < n) (hsz : cs.size = n) (X : Nat → Int) (hin : ∀ j, j < k → cs[j]? = some (.int q (X j))) :
    ∀ j, j < k + 1 → (cs.setIfInBounds k (.int q (X k)))[j]? = some (.int q (X j)) := by
  intro j hj
  by_cases e : j = k
  · subst e
    rw [Array.getElem?_setIfInBounds_self_of_lt (by omega)]
  · rw [Array.getElem?_setIfInBounds_ne (by omega), hin j (by omega)]

set_option maxHeartbeats 1000000 in
set_option maxRecDepth 100000 in
theorem clone20 (b off n cap : Nat) (X : Nat → Int) (w : World) (hn : n ≤ 16384) (hb : b < w.heap.size) (hp : Nums .i32 w b off n X) :
    Calls Try.prog 20 #[.slice (some ⟨b, off, none⟩) n cap] w fun e w' => ∃ g, e = .returned (.slice (some ⟨g, 0, none⟩) n n) ∧ w.heap.size ≤ g ∧ OwnN .i32 21 w' g n X ∧ Below w.heap.size w w' := by
  have hq := eq34
  have hmk := make34 n hn
  have HP : Hid (Nums .i32 w b off n X) := hp
  clear hp
  go_enter Try.func20, Try.ntmps20
  go_wp2
  go_loopw [4] (fun i wr => ∃ k : Nat, k ≤ n ∧ i = .int .i64 k ∧ (∃ cs : Array Value, wr.heap[w.heap.size]? = some (.cells cs 21 (0, 0)) ∧ cs.size = n ∧ ∀ j, j < k → cs[j]? = some (.int .i32 (X j))) ∧ Below w.heap.size w wr ∧ w.heap.size < wr.heap.size) (fun i _ => n - (intOf i).toNat)
  case atStart => exact ⟨0, Nat.zero_le _, rfl, ⟨zerosI n, heap_alloc_new _ _, size_zerosI _, fun j hj => absurd hj (Nat.not_lt_zero _)⟩, (Below.refl _ _).alloc (Nat.le_refl _) _, by simp⟩
  case round =>
    obtain ⟨k, hk, rfl, ⟨cs, hcs, hsz, hin⟩, hnx, hsz2⟩ := hrel
    by_cases hlt : k < n
    · have h1 := HP.out k hlt
      have g1 := (hnx.cell (p := ⟨b, off + k, none⟩) hb).trans h1
      clear h1
      obtain ⟨v0, c0⟩ : ∃ v, wr.cell? ⟨w.heap.size, k, none⟩ = some v := ⟨_, (cell_of_row wr _ _ _ _ _ hcs).trans (Array.getElem?_eq_getElem (by omega))⟩
      have f0 := frozen_of_row wr w.heap.size k _ _ hcs
      have HC : Hid (wr.heap[w.heap.size]? = some (.cells cs 21 (0, 0))) := hcs
      have HI : Hid (∀ j, j < k → cs[j]? = some (.int .i32 (X j))) := hin
      clear hcs hin
      go_wp2
      go_roundw
      case rel => exact ⟨k + 1, by omega, by go_num, ⟨_, heap_setCell_same _ _ _ _ _ _ HC.out, by simp [hsz], num_step .i32 cs n k hlt hsz X HI.out⟩, hnx.setCell (Nat.le_refl _) _, by simpa [World.setCell] using hsz2⟩
      case measure => simp [intOf]; omega
    · have hkn : k = n := by omega
      subst hkn
      go_wp2
      go_ret
      exact ⟨_, rfl, Nat.le_refl _, ⟨cs, hcs, hsz, hin⟩, hnx⟩

set_option maxHeartbeats 1000000 in
set_option maxRecDepth 100000 in
theorem clone19 (b off n cap : Nat) (X : Nat → Int) (w : World) (hn : n ≤ 16384) (hb : b < w.heap.size) (hp : Nums .u32 w b off n X) :
    Calls Try.prog 19 #[.slice (some ⟨b, off, none⟩) n cap] w fun e w' => ∃ g, e = .returned (.slice (some ⟨g, 0, none⟩) n n) ∧ w.heap.size ≤ g ∧ OwnN .u32 44 w' g n X ∧ Below w.heap.size w w' := by
  have hq := eq33
  have hmk := make33 n hn
  have HP : Hid (Nums .u32 w b off n X) := hp
  clear hp
  go_enter Try.func19, Try.ntmps19
  go_wp2
  go_loopw [4] (fun i wr => ∃ k : Nat, k ≤ n ∧ i = .int .i64 k ∧ (∃ cs : Array Value, wr.heap[w.heap.size]? = some (.cells cs 44 (0, 0)) ∧ cs.size = n ∧ ∀ j, j < k → cs[j]? = some (.int .u32 (X j))) ∧ Below w.heap.size w wr ∧ w.heap.size < wr.heap.size) (fun i _ => n - (intOf i).toNat)
  case atStart => exact ⟨0, Nat.zero_le _, rfl, ⟨zerosU n, heap_alloc_new _ _, size_zerosU _, fun j hj => absurd hj (Nat.not_lt_zero _)⟩, (Below.refl _ _).alloc (Nat.le_refl _) _, by simp⟩
  case round =>
    obtain ⟨k, hk, rfl, ⟨cs, hcs, hsz, hin⟩, hnx, hsz2⟩ := hrel
    by_cases hlt : k < n
    · have h1 := HP.out k hlt
      have g1 := (hnx.cell (p := ⟨b, off + k, none⟩) hb).trans h1
      clear h1
      obtain ⟨v0, c0⟩ : ∃ v, wr.cell? ⟨w.heap.size, k, none⟩ = some v := ⟨_, (cell_of_row wr _ _ _ _ _ hcs).trans (Array.getElem?_eq_getElem (by omega))⟩
      have f0 := frozen_of_row wr w.heap.size k _ _ hcs
      have HC : Hid (wr.heap[w.heap.size]? = some (.cells cs 44 (0, 0))) := hcs
      have HI : Hid (∀ j, j < k → cs[j]? = some (.int .u32 (X j))) := hin
      clear hcs hin
      go_wp2
      go_roundw
      case rel => exact ⟨k + 1, by omega, by go_num, ⟨_, heap_setCell_same _ _ _ _ _ _ HC.out, by simp [hsz], num_step .u32 cs n k hlt hsz X HI.out⟩, hnx.setCell (Nat.le_refl _) _, by simpa [World.setCell] using hsz2⟩
      case measure => simp [intOf]; omega
    · have hkn : k = n := by omega
      subst hkn
      go_wp2
      go_ret
      exact ⟨_, rfl, Nat.le_refl _, ⟨cs, hcs, hsz, hin⟩, hnx⟩

end Go.Proofs.Qxb6602729a
