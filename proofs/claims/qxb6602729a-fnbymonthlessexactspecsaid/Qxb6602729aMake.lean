/-
  Seat b6602729a. The maker (28) and zzNets (21).
-/
import Derived.Test.Qxb6602729aNets
namespace Go.Proofs.Qxb6602729a
open Go.RowKit

/-- One net. -/
abbrev net (x0 x1 x2 x3 x4 x5 : Int) : Array Value := #[.int .u32 x0, .int .i32 x1, .int .i32 x2, .int .i32 x3, .int .i32 x4, .int .i32 x5]

set_option maxHeartbeats 1000000 in
set_option maxRecDepth 100000 in
theorem maker28 (x0 x1 x2 x3 x4 x5 : Int) (w : World) :
    Calls Try.prog 28 #[.int .u32 x0, .int .i32 x1, .int .i32 x2, .int .i32 x3, .int .i32 x4, .int .i32 x5] w fun e w' => e = .returned (.agg (net x0 x1 x2 x3 x4 x5)) ∧ w' = w.alloc (.cells (net x0 x1 x2 x3 x4 x5) 49) := by
  go_enter Try.func28, Try.ntmps28
  go_wp2
  exact bodyPost_ret (v := .agg (net x0 x1 x2 x3 x4 x5)) (by simp [results, Try.results28, go_sem]) rfl ⟨rfl, rfl⟩

theorem info49 : (Try.prog.info? 49).map (fun i => (i.zero, i.size, i.bytes)) = some (some (.agg (net 0 0 0 0 0 0)), 6, 24) := by kernel_rfl

/-- The cells of 'make(ZZByMonth, n)'. -/
def zerosM (n : Nat) : Array Value := madeCells (net 0 0 0 0 0 0) (n * 6)
theorem size_zerosM (n : Nat) : (zerosM n).size = n * 6 := size_madeCells _ _

theorem make40 (n : Nat) (h : n ≤ 16384) (w : World) :
    (Instr.makeSlice 40 (.int .i64 (n : Int)) (.int .i64 (n : Int))).run Try.prog w = .ok (.slice (some ⟨w.heap.size, 0, none⟩) n n) (w.alloc (.cells (zerosM n) 49)) := by
  obtain ⟨i, hi, hz0, hz1, hz2⟩ := info_parts info49
  have hr := run_make (P := Try.prog) w 40 49 i _ Try.underlying40 hi hz0 .i64 .i64 n n (by omega) (Int.le_refl _) (by rw [hz2]; omega) (by omega)
  simp only [Int.toNat_natCast, hz1, Value.cells] at hr
  exact hr

/-- THE NETS: element k's line, month and grade. -/
def NetsIn (cs : Array Value) (k : Nat) (L M C : Nat → Int) : Prop := ∀ j, j < k → cs[j * 6]? = some (.int .u32 (L j)) ∧ cs[j * 6 + 4]? = some (.int .i32 (M j)) ∧ cs[j * 6 + 5]? = some (.int .i32 (C j))
def Nets (w : World) (g n : Nat) (L M C : Nat → Int) : Prop := ∃ cs : Array Value, w.heap[g]? = some (.cells cs 49 (0, 0)) ∧ cs.size = n * 6 ∧ NetsIn cs n L M C

theorem nets_step (cs : Array Value) (n k : Nat) (hlt : k < n) (hsz : cs.size = n * 6) (L M C : Nat → Int) (x1 x2 x3 : Value) (h : NetsIn cs k L M C) :
    NetsIn ((((((cs.setIfInBounds (k * 6) (.int .u32 (L k))).setIfInBounds (k * 6 + 1) x1).setIfInBounds (k * 6 + 2) x2).setIfInBounds (k * 6 + 3) x3).setIfInBounds (k * 6 + 4) (.int .i32 (M k))).setIfInBounds (k * 6 + 5) (.int .i32 (C k))) (k + 1) L M C := by
  intro j hj
  by_cases e : j = k
  · subst e
    refine ⟨?_, ?_, ?_⟩
    · rw [Array.getElem?_setIfInBounds_ne (by omega), Array.getElem?_setIfInBounds_ne (by omega), Array.getElem?_setIfInBounds_ne (by omega), Array.getElem?_setIfInBounds_ne (by omega), Array.getElem?_setIfInBounds_ne (by omega), Array.getElem?_setIfInBounds_self_of_lt (by omega)]
    · rw [Array.getElem?_setIfInBounds_ne (by omega), Array.getElem?_setIfInBounds_self_of_lt (by simp; omega)]
    · rw [Array.getElem?_setIfInBounds_self_of_lt (by simp; omega)]
  · obtain ⟨g1, g2, g3⟩ := h j (by omega)
    refine ⟨?_, ?_, ?_⟩
    · rw [Array.getElem?_setIfInBounds_ne (by omega), Array.getElem?_setIfInBounds_ne (by omega), Array.getElem?_setIfInBounds_ne (by omega), Array.getElem?_setIfInBounds_ne (by omega), Array.getElem?_setIfInBounds_ne (by omega), Array.getElem?_setIfInBounds_ne (by omega), g1]
    · rw [Array.getElem?_setIfInBounds_ne (by omega), Array.getElem?_setIfInBounds_ne (by omega), Array.getElem?_setIfInBounds_ne (by omega), Array.getElem?_setIfInBounds_ne (by omega), Array.getElem?_setIfInBounds_ne (by omega), Array.getElem?_setIfInBounds_ne (by omega), g2]
    · rw [Array.getElem?_setIfInBounds_ne (by omega), Array.getElem?_setIfInBounds_ne (by omega), Array.getElem?_setIfInBounds_ne (by omega), Array.getElem?_setIfInBounds_ne (by omega), Array.getElem?_setIfInBounds_ne (by omega), Array.getElem?_setIfInBounds_ne (by omega), g3]

theorem keep6 {B k : Nat} {wr W : World} {g0 g1 g2 g3 g4 g5 : Nat} {v0 v1 v2 v3 v4 v5 : Value} (hb : Below B wr W) (l0 : g0 < B) (l1 : g1 < B) (l2 : g2 < B) (l3 : g3 < B) (l4 : g4 < B) (l5 : g5 < B)
    (r0 : wr.cell? ⟨g0, k, none⟩ = some v0) (r1 : wr.cell? ⟨g1, k, none⟩ = some v1) (r2 : wr.cell? ⟨g2, k, none⟩ = some v2) (r3 : wr.cell? ⟨g3, k, none⟩ = some v3) (r4 : wr.cell? ⟨g4, k, none⟩ = some v4) (r5 : wr.cell? ⟨g5, k, none⟩ = some v5) :
    W.cell? ⟨g0, k, none⟩ = some v0 ∧ W.cell? ⟨g1, k, none⟩ = some v1 ∧ W.cell? ⟨g2, k, none⟩ = some v2 ∧ W.cell? ⟨g3, k, none⟩ = some v3 ∧ W.cell? ⟨g4, k, none⟩ = some v4 ∧ W.cell? ⟨g5, k, none⟩ = some v5 :=
  ⟨(hb.cell (p := ⟨g0, k, none⟩) l0).trans r0, (hb.cell (p := ⟨g1, k, none⟩) l1).trans r1, (hb.cell (p := ⟨g2, k, none⟩) l2).trans r2, (hb.cell (p := ⟨g3, k, none⟩) l3).trans r3, (hb.cell (p := ⟨g4, k, none⟩) l4).trans r4, (hb.cell (p := ⟨g5, k, none⟩) l5).trans r5⟩

theorem six_below {B : Nat} {a w : World} (h : Below B a w) (g o : Nat) (hg : B ≤ g) (x0 x1 x2 x3 x4 x5 : Value) (ob : Obj) (hB : B ≤ w.heap.size) :
    Below B a ((((((((w.setCell ⟨g, o, none⟩ x0).setCell ⟨g, o + 1, none⟩ x1).setCell ⟨g, o + 2, none⟩ x2).setCell ⟨g, o + 3, none⟩ x3).setCell ⟨g, o + 4, none⟩ x4).setCell ⟨g, o + 5, none⟩ x5).alloc ob).drew) :=
  (((((((h.setCell hg _).setCell hg _).setCell hg _).setCell hg _).setCell hg _).setCell hg _).alloc (by simpa [World.setCell] using hB) _).drew

theorem six_heap {w : World} {g o : Nat} {cs : Array Value} (h : w.heap[g]? = some (.cells cs 49 (0, 0))) (hg : g < w.heap.size) (x0 x1 x2 x3 x4 x5 : Value) (ob : Obj) :
    ((((((((w.setCell ⟨g, o, none⟩ x0).setCell ⟨g, o + 1, none⟩ x1).setCell ⟨g, o + 2, none⟩ x2).setCell ⟨g, o + 3, none⟩ x3).setCell ⟨g, o + 4, none⟩ x4).setCell ⟨g, o + 5, none⟩ x5).alloc ob).drew).heap[g]? =
      some (.cells ((((((cs.setIfInBounds o x0).setIfInBounds (o + 1) x1).setIfInBounds (o + 2) x2).setIfInBounds (o + 3) x3).setIfInBounds (o + 4) x4).setIfInBounds (o + 5) x5) 49 (0, 0)) := by
  rw [heap_drew, Below.heap_alloc _ _ _ (by simpa [World.setCell] using hg)]
  exact heap_setCell_same _ _ _ _ _ _ (heap_setCell_same _ _ _ _ _ _ (heap_setCell_same _ _ _ _ _ _ (heap_setCell_same _ _ _ _ _ _ (heap_setCell_same _ _ _ _ _ _ (heap_setCell_same _ _ _ _ _ _ h)))))

theorem six_size (w : World) (g o : Nat) (x0 x1 x2 x3 x4 x5 : Value) (ob : Obj) (B : Nat) (hB : B < w.heap.size) :
    B < ((((((((w.setCell ⟨g, o, none⟩ x0).setCell ⟨g, o + 1, none⟩ x1).setCell ⟨g, o + 2, none⟩ x2).setCell ⟨g, o + 3, none⟩ x3).setCell ⟨g, o + 4, none⟩ x4).setCell ⟨g, o + 5, none⟩ x5).alloc ob).drew).heap.size := by
  rw [heap_drew]
  simp [World.setCell]
  omega

set_option maxHeartbeats 4000000 in
set_option maxRecDepth 100000 in
theorem nets21 (g0 g1 g2 g3 g4 g5 n : Nat) (X0 X1 X2 X3 X4 X5 : Nat → Int) (w : World) (hn : n ≤ 16384)
    (o0 : OwnN .u32 44 w g0 n X0) (o1 : OwnN .i32 21 w g1 n X1) (o2 : OwnN .i32 21 w g2 n X2) (o3 : OwnN .i32 21 w g3 n X3) (o4 : OwnN .i32 21 w g4 n X4) (o5 : OwnN .i32 21 w g5 n X5) :
    Calls Try.prog 21 #[.slice (some ⟨g0, 0, none⟩) n n, .slice (some ⟨g1, 0, none⟩) n n, .slice (some ⟨g2, 0, none⟩) n n, .slice (some ⟨g3, 0, none⟩) n n, .slice (some ⟨g4, 0, none⟩) n n, .slice (some ⟨g5, 0, none⟩) n n] w fun e w' =>
      ∃ g, e = .returned (.slice (some ⟨g, 0, none⟩) n n) ∧ Nets w' g n X0 X4 X5 ∧ Below w.heap.size w w' := by
  have hmk := make40 n hn
  have H0 : Hid (Nums .u32 w g0 0 n X0) := o0.nums
  have H1 : Hid (Nums .i32 w g1 0 n X1) := o1.nums
  have H2 : Hid (Nums .i32 w g2 0 n X2) := o2.nums
  have H3 : Hid (Nums .i32 w g3 0 n X3) := o3.nums
  have H4 : Hid (Nums .i32 w g4 0 n X4) := o4.nums
  have H5 : Hid (Nums .i32 w g5 0 n X5) := o5.nums
  have l0 := o0.lt
  have l1 := o1.lt
  have l2 := o2.lt
  have l3 := o3.lt
  have l4 := o4.lt
  have l5 := o5.lt
  clear o0 o1 o2 o3 o4 o5
  go_enter Try.func21, Try.ntmps21
  go_wp2
  go_loopw [14] (fun i wr => ∃ k : Nat, k ≤ n ∧ i = .int .i64 k ∧ (∃ cs : Array Value, wr.heap[w.heap.size]? = some (.cells cs 49 (0, 0)) ∧ cs.size = n * 6 ∧ NetsIn cs k X0 X4 X5) ∧ Below w.heap.size w wr ∧ w.heap.size < wr.heap.size) (fun i _ => n - (intOf i).toNat)
  case atStart => exact ⟨0, Nat.zero_le _, rfl, ⟨zerosM n, heap_alloc_new _ _, size_zerosM _, fun j hj => absurd hj (Nat.not_lt_zero _)⟩, (Below.refl _ _).alloc (Nat.le_refl _) _, by simp⟩
  case round =>
    obtain ⟨k, hk, rfl, ⟨cs, hcs, hsz, hin⟩, hnx, hsz2⟩ := hrel
    by_cases hlt : k < n
    · have hlt' : (k : Int) < (n : Int) := by omega
      have r0 := (hnx.cell (p := ⟨g0, 0 + k, none⟩) l0).trans (H0.out k hlt)
      have r1 := (hnx.cell (p := ⟨g1, 0 + k, none⟩) l1).trans (H1.out k hlt)
      have r2 := (hnx.cell (p := ⟨g2, 0 + k, none⟩) l2).trans (H2.out k hlt)
      have r3 := (hnx.cell (p := ⟨g3, 0 + k, none⟩) l3).trans (H3.out k hlt)
      have r4 := (hnx.cell (p := ⟨g4, 0 + k, none⟩) l4).trans (H4.out k hlt)
      have r5 := (hnx.cell (p := ⟨g5, 0 + k, none⟩) l5).trans (H5.out k hlt)
      rw [Nat.zero_add] at r0 r1 r2 r3 r4 r5
      have hcell : ∀ t, t < 6 → ∃ v, wr.cell? ⟨w.heap.size, k * 6 + t, none⟩ = some v := fun t ht => ⟨_, (cell_of_row wr _ _ _ _ _ hcs).trans (Array.getElem?_eq_getElem (by omega))⟩
      obtain ⟨v0, c0⟩ := hcell 0 (by omega)
      obtain ⟨v1, c1⟩ := hcell 1 (by omega)
      obtain ⟨v2, c2⟩ := hcell 2 (by omega)
      obtain ⟨v3, c3⟩ := hcell 3 (by omega)
      obtain ⟨v4, c4⟩ := hcell 4 (by omega)
      obtain ⟨v5, c5⟩ := hcell 5 (by omega)
      rw [Nat.add_zero] at c0
      have f0 := frozen_of_row wr w.heap.size (k * 6) _ _ hcs
      have f1 := frozen_of_row wr w.heap.size (k * 6 + 1) _ _ hcs
      have f2 := frozen_of_row wr w.heap.size (k * 6 + 2) _ _ hcs
      have f3 := frozen_of_row wr w.heap.size (k * 6 + 3) _ _ hcs
      have f4 := frozen_of_row wr w.heap.size (k * 6 + 4) _ _ hcs
      have f5 := frozen_of_row wr w.heap.size (k * 6 + 5) _ _ hcs
      have HC : Hid (wr.heap[w.heap.size]? = some (.cells cs 49 (0, 0))) := hcs
      have HI : Hid (NetsIn cs k X0 X4 X5) := hin
      clear hcs hin hcell
      have hB : w.heap.size ≤ wr.heap.size := hnx.size
      go_wp2
      go_region_held3 (fun W => W.cell? ⟨g0, k, none⟩ = some (.int .u32 (X0 k)) ∧ W.cell? ⟨g1, k, none⟩ = some (.int .i32 (X1 k)) ∧ W.cell? ⟨g2, k, none⟩ = some (.int .i32 (X2 k)) ∧ W.cell? ⟨g3, k, none⟩ = some (.int .i32 (X3 k)) ∧ W.cell? ⟨g4, k, none⟩ = some (.int .i32 (X4 k)) ∧ W.cell? ⟨g5, k, none⟩ = some (.int .i32 (X5 k)))
        (first | (go_keep; done) | (exact keep6 (six_below (Below.refl _ wr) _ _ (Nat.le_refl _) _ _ _ _ _ _ _ hB) l0 l1 l2 l3 l4 l5 r0 r1 r2 r3 r4 r5))
        (first | (go_at_call 28; refine (maker28 _ _ _ _ _ _ _).mono ?_; rintro e w' ⟨rfl, rfl⟩))
      go_wp2
      go_roundw
      case rel => exact ⟨k + 1, by omega, by go_num, ⟨_, six_heap HC.out hsz2 _ _ _ _ _ _ _, by simp [hsz], nets_step cs n k hlt hsz X0 X4 X5 _ _ _ HI.out⟩, six_below hnx _ _ (Nat.le_refl _) _ _ _ _ _ _ _ hB, six_size _ _ _ _ _ _ _ _ _ _ _ hsz2⟩
      case measure => simp [intOf]; omega
    · have hkn : k = n := by omega
      subst hkn
      go_wp2
      go_ret
      exact ⟨_, rfl, ⟨cs, hcs, hsz, hin⟩, hnx⟩

end Go.Proofs.Qxb6602729a
