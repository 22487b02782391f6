/-
  Seat b6604665a. zzSameStrings (11), zzWithout (13), zzInsertSorted (12), over rows of strings.
-/
import Derived.Test.Qxb6604665aLaw3
namespace Go.Proofs.Qxb6604665a
open Go.RowKit Go.Maps Go.Sort Go.Shelf

theorem info9 : (Try.prog.info? 9).map (fun i => (i.zero, i.size, i.bytes)) = some (some (.string ByteArray.empty), 1, 16) := by kernel_rfl

/-- What zzWithout has kept behind k rounds. -/
def kept (L : List (List UInt8)) (c : List UInt8) (k : Nat) : List (List UInt8) := (L.take k).filter (fun x => x != c)

theorem kept_le (L : List (List UInt8)) (c : List UInt8) (k : Nat) : (kept L c k).length ≤ k := by
  unfold kept
  exact Nat.le_trans (List.length_filter_le _ _) (List.length_take_le _ _)

theorem take_next (L : List (List UInt8)) (k : Nat) (h : k < L.length) : L.take (k + 1) = L.take k ++ [L.getD k []] := by
  rw [List.take_succ_eq_append_getElem h]
  simp [List.getD, List.getElem?_eq_getElem h]

theorem kept_hit (L : List (List UInt8)) (c : List UInt8) (k : Nat) (h : k < L.length) (hne : L.getD k [] ≠ c) : kept L c (k + 1) = kept L c k ++ [L.getD k []] := by
  unfold kept
  rw [take_next L k h, List.filter_append]
  have hb : (L.getD k [] != c) = true := bne_iff_ne.2 hne
  simp only [List.filter_cons, hb, if_true, List.filter_nil]

theorem kept_miss (L : List (List UInt8)) (c : List UInt8) (k : Nat) (h : k < L.length) (he : L.getD k [] = c) : kept L c (k + 1) = kept L c k := by
  unfold kept
  rw [take_next L k h, List.filter_append]
  have hb : (L.getD k [] != c) = false := by rw [he]; exact bne_self_eq_false _
  simp only [List.filter_cons, hb, Bool.false_eq_true, if_false, List.filter_nil, List.append_nil]

set_option maxHeartbeats 1000000 in
set_option maxRecDepth 100000 in
theorem without13 (g cap : Nat) (L : List (List UInt8)) (c : List UInt8) (w : World) (hL : L.length ≤ 5000) (hg : g < w.heap.size)
    (hcell : ∀ i, i < L.length → w.cell? ⟨g, i, none⟩ = some (.string ⟨(L.getD i []).toArray⟩)) :
    Calls Try.prog 13 #[.slice (some ⟨g, 0, none⟩) L.length cap, .string ⟨c.toArray⟩] w fun e w' => ∃ v, e = .returned v ∧ w'.ownsRow w.heap.size 9 1 v (kept L c L.length).length ((kept L c L.length).map encStr) ∧ Below w.heap.size w w' := by
  obtain ⟨i0, hi, hz0, hz1, hz2⟩ := info_parts info9
  generalize hn : L.length = n at *
  go_enter Try.func13, Try.ntmps13
  go_wp2_with (first
    | (at_make; refine wpList_make_own _ rfl _ _ 29 rfl w.heap.size 9 i0 (.string ByteArray.empty) 1 Try.underlying29 hi hz0 hz1 .i64 .i64 _ n rfl rfl rfl (by rw [hz2]; omega) (by unfold maxLen; omega) (Nat.le_refl _) ?_; intro w1 hown1 hgrow1)
    | go_in)
  go_loopw [5, 6] (fun v i wr => ∃ k : Nat, k ≤ n ∧ i = .int .i64 k ∧ v = .slice (some ⟨w.heap.size, 0, none⟩) (kept L c k).length n ∧ wr.ownsRow w.heap.size 9 1 (.slice (some ⟨w.heap.size, 0, none⟩) (kept L c k).length n) (kept L c k).length ((kept L c k).map encStr) ∧ Below w.heap.size w wr) (fun _ i _ => n - (intOf i).toNat)
  case atStart => exact ⟨0, Nat.zero_le _, rfl, rfl, hown1, (Below.refl _ _).grown hgrow1 (Nat.le_refl _) (fun j hj => by cases hj)⟩
  case round =>
    obtain ⟨k, hk, rfl, rfl, hown, hnx⟩ := hrel
    by_cases hlt : k < n
    · have hc := (hnx.cell (p := ⟨g, k, none⟩) hg).trans (hcell k hlt)
      have hkl := kept_le L c k
      by_cases he : L.getD k [] = c
      · have HM := kept_miss L c k (by omega) he
        rw [he] at hc
        clear he
        go_wp2
        go_roundw
        case rel => exact ⟨k + 1, by omega, by go_num, by rw [HM], by rw [HM]; exact hown, hnx⟩
        case measure => simp [intOf]; omega
      · have HK : Hid (kept L c (k + 1) = kept L c k ++ [L.getD k []]) := kept_hit L c k (by omega) he
        generalize L.getD k [] = x at hc he HK
        have he1 : (x == c) = false := by simp [he]
        have he2 : (x != c) = true := by simp [he]
        go_wp2_with (first
          | (at_builtin; refine wpList_append_fits _ rfl _ _ 29 rfl w.heap.size 9 i0 1 Try.underlying29 hi hz1 w.heap.size (kept L c k).length n _ rfl (hown.alloc _) ⟨wr.heap.size, 0, none⟩ 1 1 [.string ⟨x.toArray⟩] rfl rfl (cell_one_new _ _ _) (fun y hy => by simp at hy; subst hy; rfl) (by omega) ?_; intro w2 hown2 hgrow2)
          | go_in)
        go_roundw
        case rel =>
          have e1 : (kept L c (k + 1)).length = (kept L c k).length + 1 := by rw [HK.out]; simp
          refine ⟨k + 1, by omega, by go_num, by rw [e1], ?_, (hnx.alloc hnx.size _).grown hgrow2 (by have := hnx.size; simp; omega) (fun j hj => by cases hj; exact Nat.le_refl _)⟩
          rw [e1, HK.out, List.map_append]
          exact hown2
        case measure => simp [intOf]; omega
    · have hkn : k = n := by omega
      subst hkn
      go_wp2
      go_ret
      exact ⟨_, rfl, hown, hnx⟩

set_option maxHeartbeats 1000000 in
set_option maxRecDepth 100000 in
theorem without13_none (a : Option Addr) (cap : Nat) (c : ByteArray) (w : World) :
    Calls Try.prog 13 #[.slice a 0 cap, .string c] w fun e w' => ∃ v, e = .returned v ∧ w'.ownsRow w.heap.size 9 1 v 0 [] ∧ Below w.heap.size w w' := by
  obtain ⟨i0, hi, hz0, hz1, hz2⟩ := info_parts info9
  go_enter Try.func13, Try.ntmps13
  go_wp2_with (first
    | (at_make; refine wpList_make_own _ rfl _ _ 29 rfl w.heap.size 9 i0 (.string ByteArray.empty) 1 Try.underlying29 hi hz0 hz1 .i64 .i64 _ 0 rfl rfl rfl (by omega) (by unfold maxLen; omega) (Nat.le_refl _) ?_; intro w1 hown1 hgrow1)
    | go_in)
  refine wp_loop_rounds 1 ?_
  rw [rounds_succ]
  go_wp2
  go_ret
  exact ⟨_, rfl, hown1, (Below.refl _ _).grown hgrow1 (Nat.le_refl _) (fun j hj => by cases hj)⟩

set_option maxHeartbeats 1000000 in
set_option maxRecDepth 100000 in
theorem same11 (g g' cap cap' : Nat) (L : List (List UInt8)) (w : World) (hL : L.length ≤ 5000)
    (hcell : ∀ i, i < L.length → w.cell? ⟨g, i, none⟩ = some (.string ⟨(L.getD i []).toArray⟩)) (hcell' : ∀ i, i < L.length → w.cell? ⟨g', i, none⟩ = some (.string ⟨(L.getD i []).toArray⟩)) :
    Calls Try.prog 11 #[.slice (some ⟨g, 0, none⟩) L.length cap, .slice (some ⟨g', 0, none⟩) L.length cap'] w fun e w' => e = .returned (.bool true) ∧ Below w.heap.size w w' := by
  generalize hn : L.length = n at *
  have hne : ((n : Int) != (n : Int)) = false := by simp
  go_enter Try.func11, Try.ntmps11
  go_wp2
  go_loopw [5] (fun i wr => ∃ k : Nat, k ≤ n ∧ i = .int .i64 k ∧ ∃ q, wr = w.drewN q) (fun i _ => n - (intOf i).toNat)
  case atStart => exact ⟨0, Nat.zero_le _, rfl, 0, rfl⟩
  case round =>
    obtain ⟨k, hk, rfl, q, rfl⟩ := hrel
    by_cases hlt : k < n
    · have h1 := hcell k hlt
      have h2 := hcell' k hlt
      generalize L.getD k [] = x at h1 h2
      have hlt' : (k : Int) < (n : Int) := by omega
      go_wp2
      go_quiet (fail)
      go_wp2
      go_roundw
      case rel => exact ⟨k + 1, by omega, by go_num, q + nq, rfl⟩
      case measure => simp [intOf]; omega
    · go_wp2
      go_ret
      exact ⟨rfl, below_drew (Below.refl _ _) q⟩

set_option maxHeartbeats 1000000 in
set_option maxRecDepth 100000 in
theorem same11_none (a a' : Option Addr) (cap cap' : Nat) (w : World) :
    Calls Try.prog 11 #[.slice a 0 cap, .slice a' 0 cap'] w fun e w' => e = .returned (.bool true) ∧ Below w.heap.size w w' := by
  go_enter Try.func11, Try.ntmps11
  go_wp2
  refine wp_loop_rounds 1 ?_
  rw [rounds_succ]
  go_wp2
  go_ret
  exact ⟨rfl, Below.refl _ _⟩

end Go.Proofs.Qxb6604665a
