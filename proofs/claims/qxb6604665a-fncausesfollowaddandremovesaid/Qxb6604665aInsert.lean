/-
  Seat b6604665a. zzInsertSorted (12).
-/
import Derived.Test.Qxb6604665aRowsOf
namespace Go.Proofs.Qxb6604665a
open Go.RowKit Go.Maps Go.Sort Go.Shelf

/-- The list with c at place p, as far as j. -/
def ins (L : List (List UInt8)) (c : List UInt8) (p j : Nat) : List (List UInt8) := L.take p ++ [c] ++ (L.take j).drop p

theorem ins_start (L : List (List UInt8)) (c : List UInt8) (p : Nat) : ins L c p p = L.take p ++ [c] := by
  unfold ins
  rw [List.drop_eq_nil_of_le (List.length_take_le _ _), List.append_nil]

theorem ins_next (L : List (List UInt8)) (c : List UInt8) (p j : Nat) (hp : p ≤ j) (h : j < L.length) : ins L c p (j + 1) = ins L c p j ++ [L.getD j []] := by
  unfold ins
  rw [take_next L j h, List.drop_append_of_le_length (by rw [List.length_take]; omega), List.append_assoc]
  simp

theorem ins_length (L : List (List UInt8)) (c : List UInt8) (p j : Nat) (hp : p ≤ j) (h : j ≤ L.length) : (ins L c p j).length = j + 1 := by
  unfold ins
  simp
  omega

def nth (L : List (List UInt8)) (i : Nat) : List UInt8 := L.getD i []

/-- WHAT zzInsertSorted HANDS BACK: where c stands already, the slice itself; else a new one. -/
def InsOk (L : List (List UInt8)) (c : List UInt8) (n : Nat) (w : World) (s : Value) (e : Ending) (w' : World) : Prop :=
  ∃ p, p ≤ n ∧ (∀ i, i < p → Op.bytesLess (nth L i) c = true) ∧
    ((p < n ∧ nth L p = c ∧ e = .returned s) ∨
     ((p < n → Op.bytesLess (nth L p) c = false ∧ nth L p ≠ c) ∧ ∃ v, e = .returned v ∧ w'.ownsRow w.heap.size 9 1 v (ins L c p n).length ((ins L c p n).map encStr)))

set_option maxHeartbeats 2000000 in
set_option maxRecDepth 100000 in
theorem insert12 (g cap : Nat) (L : List (List UInt8)) (c : List UInt8) (w : World) (hL : L.length ≤ 5000) (hg : g < w.heap.size)
    (hcell : ∀ i, i < L.length → w.cell? ⟨g, i, none⟩ = some (.string ⟨(L.getD i []).toArray⟩)) :
    Calls Try.prog 12 #[.slice (some ⟨g, 0, none⟩) L.length cap, .string ⟨c.toArray⟩] w fun e w' => InsOk L c L.length w (.slice (some ⟨g, 0, none⟩) L.length cap) e w' ∧ Below w.heap.size w w' := by
  obtain ⟨i0, hi, hz0, hz1, hz2⟩ := info_parts info9
  generalize hn : L.length = n at *
  have HN : Hid (L.length = n) := hn
  have HC : Hid (∀ i, i < n → w.cell? ⟨g, i, none⟩ = some (.string ⟨(nth L i).toArray⟩)) := hcell
  clear hn hcell
  go_enter Try.func12, Try.ntmps12
  go_wp2
  go_loop [5] (fun t => ∃ p : Nat, p ≤ n ∧ t = .int .i64 p ∧ ∀ i, i < p → Op.bytesLess (nth L i) c = true) (fun t => n - (intOf t).toNat)
  case atStart => exact ⟨0, Nat.zero_le _, rfl, fun i hi => absurd hi (Nat.not_lt_zero _)⟩
  case round =>
    obtain ⟨p, hp, rfl, hlo⟩ := hrel
    have HLO : Hid (∀ i, i < p → Op.bytesLess (nth L i) c = true) := hlo
    clear hlo
    by_cases hgo : p < n ∧ Op.bytesLess (nth L p) c = true
    · obtain ⟨hlt, hless⟩ := hgo
      have hc := HC.out p hlt
      have HL : Hid (∀ i, i < p + 1 → Op.bytesLess (nth L i) c = true) := fun i hi => by
        by_cases e : i = p
        · rw [e]; exact hless
        · exact HLO.out i (by omega)
      generalize nth L p = x at hc hless
      have hlt' : (p : Int) < (n : Int) := by omega
      go_wp2
      go_round
      case rel => exact ⟨p + 1, by omega, by go_num, HL.out⟩
      case measure => simp [intOf]; omega
    · by_cases heq : p < n ∧ nth L p = c
      · obtain ⟨hlt, he⟩ := heq
        have hc := HC.out p hlt
        have hless : Op.bytesLess (nth L p) c = false := by
          cases h : Op.bytesLess (nth L p) c
          · rfl
          · exact absurd ⟨hlt, h⟩ hgo
        have HE : Hid (nth L p = c) := he
        rw [he] at hc hless
        have hlt' : (p : Int) < (n : Int) := by omega
        clear hgo he
        go_wp2
        go_ret
        exact ⟨⟨p, hp, HLO.out, .inl ⟨hlt, HE.out, rfl⟩⟩, Below.refl _ _⟩
      · have hfacts : Hid (p < n → Op.bytesLess (nth L p) c = false ∧ nth L p ≠ c) := fun hlt => ⟨by
          cases h : Op.bytesLess (nth L p) c
          · rfl
          · exact absurd ⟨hlt, h⟩ hgo, fun e => heq ⟨hlt, e⟩⟩
        clear hgo heq
        have hcase : p = n ∨ p < n := by omega
        rcases hcase with hpn | hlt
        · have hnlt : ¬ (p : Int) < (n : Int) := by omega
          have HP : Hid (p = n) := hpn
          clear hpn
          go_wp2_with (first
            | (at_make; refine wpList_make_own _ rfl _ _ 29 rfl w.heap.size 9 i0 (.string ByteArray.empty) 1 Try.underlying29 hi hz0 hz1 .i64 .i64 _ (n + 1) rfl rfl (by omega) (by rw [hz2]; omega) (by unfold maxLen; omega) (Nat.le_refl _) ?_; intro w1 hown1 hgrow1)
            | go_in)
          go_loopw [6, 7] (fun v i wr => ∃ j : Nat, j ≤ p ∧ i = .int .i64 j ∧ v = .slice (some ⟨w.heap.size, 0, none⟩) j (n + 1) ∧ wr.ownsRow w.heap.size 9 1 (.slice (some ⟨w.heap.size, 0, none⟩) j (n + 1)) j ((L.take j).map encStr) ∧ Below w.heap.size w wr) (fun _ i _ => p - (intOf i).toNat)
          case atStart => exact ⟨0, Nat.zero_le _, rfl, rfl, hown1, (Below.refl _ _).grown hgrow1 (Nat.le_refl _) (fun j hj => by cases hj)⟩
          case round =>
            obtain ⟨j, hj, rfl, rfl, hown, hnx⟩ := hrel
            by_cases hjp : j < p
            · have hc2 := (hnx.cell (p := ⟨g, j, none⟩) hg).trans (HC.out j (by omega))
              have HK : Hid (L.take (j + 1) = L.take j ++ [nth L j]) := take_next L j (by have := HN.out; omega)
              generalize nth L j = y at hc2 HK
              go_wp2_with (first
                | (at_builtin; refine wpList_append_fits _ rfl _ _ 29 rfl w.heap.size 9 i0 1 Try.underlying29 hi hz1 w.heap.size j (n + 1) _ rfl (hown.alloc _) ⟨wr.heap.size, 0, none⟩ 1 1 [.string ⟨y.toArray⟩] rfl rfl (cell_one_new _ _ _) (fun z hz => by simp at hz; subst hz; rfl) (by omega) ?_; intro w2 hown2 hgrow2)
                | go_in)
              go_roundw
              case rel =>
                refine ⟨j + 1, by omega, by go_num, rfl, ?_, (hnx.alloc hnx.size _).grown hgrow2 (by have := hnx.size; simp; omega) (fun j hj => by cases hj; exact Nat.le_refl _)⟩
                rw [HK.out, List.map_append]
                exact hown2
              case measure => simp [intOf]; omega
            · have hjp' : j = p := by omega
              subst j
              go_wp2_with (first
                | (at_builtin; refine wpList_append_fits _ rfl _ _ 29 rfl w.heap.size 9 i0 1 Try.underlying29 hi hz1 w.heap.size p (n + 1) _ rfl (hown.alloc _) ⟨wr.heap.size, 0, none⟩ 1 1 [.string ⟨c.toArray⟩] rfl rfl (cell_one_new _ _ _) (fun z hz => by simp at hz; subst hz; rfl) (by omega) ?_; intro w2 hown2 hgrow2)
                | go_in)
              have hb2 : Below w.heap.size w w2 := (hnx.alloc hnx.size _).grown hgrow2 (by have := hnx.size; simp; omega) (fun j hj => by cases hj; exact Nat.le_refl _)
              have hown3 : w2.ownsRow w.heap.size 9 1 (.slice (some ⟨w.heap.size, 0, none⟩) (p + 1) (n + 1)) (p + 1) ((ins L c p p).map encStr) := by
                rw [ins_start, List.map_append]
                exact hown2
              clear hown2 hown hgrow2 hnx hown1 hgrow1
              go_loopw [6, 8] (fun v i w5 => ∃ j : Nat, p ≤ j ∧ j ≤ n ∧ i = .int .i64 j ∧ v = .slice (some ⟨w.heap.size, 0, none⟩) (j + 1) (n + 1) ∧ w5.ownsRow w.heap.size 9 1 (.slice (some ⟨w.heap.size, 0, none⟩) (j + 1) (n + 1)) (j + 1) ((ins L c p j).map encStr) ∧ Below w.heap.size w w5) (fun _ i _ => n - (intOf i).toNat)
              case atStart => exact ⟨p, Nat.le_refl _, hp, rfl, rfl, hown3, hb2⟩
              case round =>
                obtain ⟨j, hj1, hj2, rfl, rfl, hown, hnx⟩ := hrel
                by_cases hjn : j < n
                · exfalso
                  omega
                · have hjn' : j = n := by omega
                  subst j
                  go_wp2
                  go_ret
                  exact ⟨⟨p, hp, HLO.out, .inr ⟨hfacts.out, _, rfl, by rw [ins_length L c p n hj1 (by have := HN.out; omega)]; exact hown⟩⟩, hnx⟩
        · have hc := HC.out p hlt
          obtain ⟨hless, hne⟩ := hfacts.out hlt
          generalize nth L p = x at hc hless hne
          have hne1 : (x == c) = false := by simp [hne]
          have hlt' : (p : Int) < (n : Int) := by omega
          go_wp2_with (first
            | (at_make; refine wpList_make_own _ rfl _ _ 29 rfl w.heap.size 9 i0 (.string ByteArray.empty) 1 Try.underlying29 hi hz0 hz1 .i64 .i64 _ (n + 1) rfl rfl (by omega) (by rw [hz2]; omega) (by unfold maxLen; omega) (Nat.le_refl _) ?_; intro w1 hown1 hgrow1)
            | go_in)
          go_loopw [6, 7] (fun v i wr => ∃ j : Nat, j ≤ p ∧ i = .int .i64 j ∧ v = .slice (some ⟨w.heap.size, 0, none⟩) j (n + 1) ∧ wr.ownsRow w.heap.size 9 1 (.slice (some ⟨w.heap.size, 0, none⟩) j (n + 1)) j ((L.take j).map encStr) ∧ Below w.heap.size w wr) (fun _ i _ => p - (intOf i).toNat)
          case atStart => exact ⟨0, Nat.zero_le _, rfl, rfl, hown1, (Below.refl _ _).grown hgrow1 (Nat.le_refl _) (fun j hj => by cases hj)⟩
          case round =>
            obtain ⟨j, hj, rfl, rfl, hown, hnx⟩ := hrel
            by_cases hjp : j < p
            · have hc2 := (hnx.cell (p := ⟨g, j, none⟩) hg).trans (HC.out j (by omega))
              have HK : Hid (L.take (j + 1) = L.take j ++ [nth L j]) := take_next L j (by have := HN.out; omega)
              generalize nth L j = y at hc2 HK
              go_wp2_with (first
                | (at_builtin; refine wpList_append_fits _ rfl _ _ 29 rfl w.heap.size 9 i0 1 Try.underlying29 hi hz1 w.heap.size j (n + 1) _ rfl (hown.alloc _) ⟨wr.heap.size, 0, none⟩ 1 1 [.string ⟨y.toArray⟩] rfl rfl (cell_one_new _ _ _) (fun z hz => by simp at hz; subst hz; rfl) (by omega) ?_; intro w2 hown2 hgrow2)
                | go_in)
              go_roundw
              case rel =>
                refine ⟨j + 1, by omega, by go_num, rfl, ?_, (hnx.alloc hnx.size _).grown hgrow2 (by have := hnx.size; simp; omega) (fun j hj => by cases hj; exact Nat.le_refl _)⟩
                rw [HK.out, List.map_append]
                exact hown2
              case measure => simp [intOf]; omega
            · have hjp' : j = p := by omega
              subst j
              go_wp2_with (first
                | (at_builtin; refine wpList_append_fits _ rfl _ _ 29 rfl w.heap.size 9 i0 1 Try.underlying29 hi hz1 w.heap.size p (n + 1) _ rfl (hown.alloc _) ⟨wr.heap.size, 0, none⟩ 1 1 [.string ⟨c.toArray⟩] rfl rfl (cell_one_new _ _ _) (fun z hz => by simp at hz; subst hz; rfl) (by omega) ?_; intro w2 hown2 hgrow2)
                | go_in)
              have hb2 : Below w.heap.size w w2 := (hnx.alloc hnx.size _).grown hgrow2 (by have := hnx.size; simp; omega) (fun j hj => by cases hj; exact Nat.le_refl _)
              have hown3 : w2.ownsRow w.heap.size 9 1 (.slice (some ⟨w.heap.size, 0, none⟩) (p + 1) (n + 1)) (p + 1) ((ins L c p p).map encStr) := by
                rw [ins_start, List.map_append]
                exact hown2
              clear hown2 hown hgrow2 hnx hown1 hgrow1
              go_loopw [6, 8] (fun v i w5 => ∃ j : Nat, p ≤ j ∧ j ≤ n ∧ i = .int .i64 j ∧ v = .slice (some ⟨w.heap.size, 0, none⟩) (j + 1) (n + 1) ∧ w5.ownsRow w.heap.size 9 1 (.slice (some ⟨w.heap.size, 0, none⟩) (j + 1) (n + 1)) (j + 1) ((ins L c p j).map encStr) ∧ Below w.heap.size w w5) (fun _ i _ => n - (intOf i).toNat)
              case atStart => exact ⟨p, Nat.le_refl _, hp, rfl, rfl, hown3, hb2⟩
              case round =>
                obtain ⟨j, hj1, hj2, rfl, rfl, hown, hnx⟩ := hrel
                by_cases hjn : j < n
                · have hc2 := (hnx.cell (p := ⟨g, j, none⟩) hg).trans (HC.out j hjn)
                  have HK : Hid (ins L c p (j + 1) = ins L c p j ++ [nth L j]) := ins_next L c p j hj1 (by have := HN.out; omega)
                  generalize nth L j = y at hc2 HK
                  go_wp2_with (first
                    | (at_builtin; refine wpList_append_fits _ rfl _ _ 29 rfl w.heap.size 9 i0 1 Try.underlying29 hi hz1 w.heap.size (j + 1) (n + 1) _ rfl (hown.alloc _) ⟨_, 0, none⟩ 1 1 [.string ⟨y.toArray⟩] rfl rfl (cell_one_new _ _ _) (fun z hz => by simp at hz; subst hz; rfl) (by omega) ?_; intro w6 hown6 hgrow6)
                    | go_in)
                  go_roundw
                  case rel =>
                    refine ⟨j + 1, by omega, by omega, by go_num, rfl, ?_, (hnx.alloc hnx.size _).grown hgrow6 (by have := hnx.size; simp; omega) (fun j hj => by cases hj; exact Nat.le_refl _)⟩
                    rw [HK.out, List.map_append]
                    exact hown6
                  case measure => simp [intOf]; omega
                · have hjn' : j = n := by omega
                  subst j
                  go_wp2
                  go_ret
                  exact ⟨⟨p, hp, HLO.out, .inr ⟨hfacts.out, _, rfl, by rw [ins_length L c p n hj1 (by have := HN.out; omega)]; exact hown⟩⟩, hnx⟩

end Go.Proofs.Qxb6604665a
