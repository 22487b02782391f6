/-
  Seat b6604665a. zzCloneCauses (function 7): a fresh copy; nil stays nil.
-/
import Derived.Test.Qxb6604665aGuards
namespace Go.Proofs.Qxb6604665a
open Go.RowKit

theorem info33 : (Try.prog.info? 33).map (fun i => (i.zero, i.size, i.bytes)) = some (some (.agg #[.string ByteArray.empty, .string ByteArray.empty]), 2, 32) := by kernel_rfl

/-- The cells of 'make([]ZCause, n)'. -/
def zeros (n : Nat) : Array Value := madeCells #[.string ByteArray.empty, .string ByteArray.empty] (n * 2)
theorem size_zeros (n : Nat) : (zeros n).size = n * 2 := size_madeCells _ _

theorem make22 (n : Nat) (h : n ≤ 4096) (w : World) :
    (Instr.makeSlice 22 (.int .i64 (n : Int)) (.int .i64 (n : Int))).run Try.prog w = .ok (.slice (some ⟨w.heap.size, 0, none⟩) n n) (w.alloc (.cells (zeros n) 33)) := by
  obtain ⟨i, hi, hz0, hz1, hz2⟩ := info_parts info33
  have hr := run_make (P := Try.prog) w 22 33 i _ Try.underlying22 hi hz0 .i64 .i64 n n (by omega) (Int.le_refl _) (by rw [hz2]; omega) (by omega)
  simp only [Int.toNat_natCast, hz1, Value.cells] at hr
  exact hr

theorem eq22 (w : World) (a : Option Addr) (n c n' c' : Nat) : (binOp .eql 22 (.slice a n c) (.slice none n' c')).run Try.prog w = .ok (.bool a.isNone) w :=
  Lib.run_eql_slice_nil w _ _ a n c n' c' Try.underlying22

theorem row_step (cs : Array Value) (len k : Nat) (hlt : k < len) (hsz : cs.size = len * 2) (N T : Nat → ByteArray)
    (hin : ∀ j, j < k → cs[j * 2]? = some (.string (N j)) ∧ cs[j * 2 + 1]? = some (.string (T j))) :
    ∀ j, j < k + 1 → ((cs.setIfInBounds (k * 2) (.string (N k))).setIfInBounds (k * 2 + 1) (.string (T k)))[j * 2]? = some (.string (N j)) ∧
      ((cs.setIfInBounds (k * 2) (.string (N k))).setIfInBounds (k * 2 + 1) (.string (T k)))[j * 2 + 1]? = some (.string (T j)) := by
  intro j hj
  by_cases hjk : j = k
  · subst hjk
    constructor
    · rw [Array.getElem?_setIfInBounds_ne (by omega), Array.getElem?_setIfInBounds_self_of_lt (by omega)]
    · rw [Array.getElem?_setIfInBounds_self_of_lt (by simp; omega)]
  · obtain ⟨g1, g2⟩ := hin j (by omega)
    constructor
    · rw [Array.getElem?_setIfInBounds_ne (by omega), Array.getElem?_setIfInBounds_ne (by omega), g1]
    · rw [Array.getElem?_setIfInBounds_ne (by omega), Array.getElem?_setIfInBounds_ne (by omega), g2]

set_option maxHeartbeats 1000000 in
set_option maxRecDepth 100000 in
theorem clone7 (b off len cap : Nat) (N T : Nat → ByteArray) (w : World) (hlen : len ≤ 4096) (hb : b < w.heap.size) (hp : Pairs w b off len N T) :
    Calls Try.prog 7 #[.slice (some ⟨b, off, none⟩) len cap] w fun e w' => e = .returned (.slice (some ⟨w.heap.size, 0, none⟩) len len) ∧ Pairs w' w.heap.size 0 len N T ∧ Below w.heap.size w w' ∧ w.heap.size < w'.heap.size := by
  have hq := eq22
  have hmk := make22 len hlen
  go_enter Try.func7, Try.ntmps7
  go_wp2
  go_loopw [4] (fun i wr => ∃ k : Nat, k ≤ len ∧ i = .int .i64 k ∧ (∃ cs : Array Value, wr.heap[w.heap.size]? = some (.cells cs 33 (0, 0)) ∧ cs.size = len * 2 ∧ ∀ j, j < k → cs[j * 2]? = some (.string (N j)) ∧ cs[j * 2 + 1]? = some (.string (T j))) ∧ Below w.heap.size w wr ∧ w.heap.size < wr.heap.size) (fun i _ => len - (intOf i).toNat)
  case atStart => exact ⟨0, Nat.zero_le _, rfl, ⟨zeros len, heap_alloc_new _ _, size_zeros _, fun j hj => absurd hj (Nat.not_lt_zero _)⟩, (Below.refl _ _).alloc (Nat.le_refl _) _, by simp⟩
  case round =>
    obtain ⟨k, hk, rfl, ⟨cs, hcs, hsz, hin⟩, hnx, hsz2⟩ := hrel
    by_cases hlt : k < len
    · obtain ⟨h1, h2, h3, h4⟩ := hp k hlt
      have g1 := (hnx.cell (p := ⟨b, off + k * 2, none⟩) hb).trans h1
      have g2 := (hnx.cell (p := ⟨b, off + k * 2 + 1, none⟩) hb).trans h2
      clear h1 h2
      obtain ⟨v0, c0⟩ : ∃ v, wr.cell? ⟨w.heap.size, k * 2, none⟩ = some v := ⟨_, (cell_of_row wr _ _ _ _ _ hcs).trans (Array.getElem?_eq_getElem (by omega))⟩
      obtain ⟨v1, c1⟩ : ∃ v, wr.cell? ⟨w.heap.size, k * 2 + 1, none⟩ = some v := ⟨_, (cell_of_row wr _ _ _ _ _ hcs).trans (Array.getElem?_eq_getElem (by omega))⟩
      have f0 := frozen_of_row wr w.heap.size (k * 2) _ _ hcs
      have f1 := frozen_of_row wr w.heap.size (k * 2 + 1) _ _ hcs
      have HC : Hid (wr.heap[w.heap.size]? = some (.cells cs 33 (0, 0))) := hcs
      clear hcs
      go_wp2
      go_roundw
      case rel =>
        refine ⟨k + 1, by omega, by go_num, ⟨_, heap_setCell_same _ _ _ _ _ _ (heap_setCell_same _ _ _ _ _ _ HC.out), by simp [hsz], ?_⟩, (hnx.setCell (Nat.le_refl _) _).setCell (Nat.le_refl _) _, by simpa [World.setCell] using hsz2⟩
        exact row_step cs len k hlt hsz N T hin
      case measure => simp [intOf]; omega
    · have : k = len := by omega
      subst this
      go_wp2
      go_ret
      refine ⟨rfl, fun i hi => ?_, hnx, hsz2⟩
      obtain ⟨h1, h2, h3, h4⟩ := hp i hi
      obtain ⟨g1, g2⟩ := hin i hi
      exact ⟨by rw [cell_of_row wr _ _ _ _ _ hcs, Nat.zero_add]; exact g1, by rw [cell_of_row wr _ _ _ _ _ hcs, Nat.zero_add]; exact g2, h3, h4⟩

set_option maxHeartbeats 1000000 in
set_option maxRecDepth 100000 in
/-- An empty slice that is not nil. -/
theorem clone7_zero (x : Addr) (cap : Nat) (w : World) :
    Calls Try.prog 7 #[.slice (some x) 0 cap] w fun e w' => e = .returned (.slice (some ⟨w.heap.size, 0, none⟩) 0 0) ∧ Below w.heap.size w w' ∧ w.heap.size < w'.heap.size := by
  have hq := eq22
  have hmk : ∀ w : World, (Instr.makeSlice 22 (.int .i64 0) (.int .i64 0)).run Try.prog w = .ok (.slice (some ⟨w.heap.size, 0, none⟩) 0 0) (w.alloc (.cells (zeros 0) 33)) := make22 0 (by omega)
  go_enter Try.func7, Try.ntmps7
  go_wp2
  refine wp_loop_rounds 1 ?_
  rw [rounds_succ]
  go_wp2
  go_ret
  exact ⟨rfl, (Below.refl _ _).alloc (Nat.le_refl _) _, by simp⟩

set_option maxHeartbeats 1000000 in
set_option maxRecDepth 100000 in
theorem clone7_nil (w : World) :
    Calls Try.prog 7 #[.slice none 0 0] w fun e w' => e = .returned (.slice none 0 0) ∧ w' = w := by
  have hq := eq22
  go_enter Try.func7, Try.ntmps7
  go_wp2
  go_ret
  exact ⟨rfl, rfl⟩

end Go.Proofs.Qxb6604665a
