/-
  Seat b6604665a. THE WALK of FnCausesAreTheSortedCauses (function 3).
-/
import Derived.Test.Qxb6604665aSets
namespace Go.Proofs.Qxb6604665a
open Go.RowKit Go.Maps Go.Sort Go.Shelf

theorem below_drew {B : Nat} {a w : World} (h : Below B a w) (q : Nat) : Below B a (w.drewN q) := ⟨h.os, h.tape, h.output, h.size, h.block⟩

/-- What the last loop reads: at each index the name, the look-up, the name before it. -/
theorem row_facts {H : Type} {len g gr m n : Nat} {w4 wr : World} (N T : Nat → ByteArray) {L : List (List UInt8)} (hS : Sorted (fun x => has (depD (H := H) N T len) (.string x) = true) L) (hp4 : Pairs w4 g 0 len N T)
    (hcell : ∀ i, i < L.length → w4.cell? ⟨gr, i, none⟩ = some (.string ⟨(L.getD i []).toArray⟩)) (hnx : Below w4.heap.size w4 wr) (hgr : gr < w4.heap.size)
    (hown : wr.ownsMap Try.prog 9 (plainElem Try.prog 4) m n (namD (H := H) N len)) :
    ∀ j, j < L.length → ∃ s1 : ByteArray, wr.cell? ⟨gr, j, none⟩ = some (.string s1) ∧ (∀ q, (Instr.lookup 31 (.map (some m)) (.string s1) false).run Try.prog (wr.drewN q) = .ok (.bool true) (wr.drewN q)) ∧
      (0 < j → ∃ s0 : ByteArray, wr.cell? ⟨gr, j - 1, none⟩ = some (.string s0) ∧ Op.bytesLess s0.toList s1.toList = true) := by
  intro j hj
  have hmem : L.getD j [] ∈ L := by rw [List.getD, List.getElem?_eq_getElem hj]; exact List.getElem_mem hj
  obtain ⟨i, hi, hN⟩ := (has_depD N T _ len).1 ((hS.2 _).1 hmem)
  obtain ⟨_, _, hsz, _⟩ := hp4 i hi
  refine ⟨⟨(L.getD j []).toArray⟩, (hnx.cell (p := ⟨gr, j, none⟩) hgr).trans (hcell j hj), fun q => ?_, fun h0 => ?_⟩
  · refine look31 (H := H) (n := n) (D := namD N len) hown ?_ ?_
    · rw [← hN]; exact hsz
    · exact at_namD N _ _ len ((has_namD N _ len).2 ⟨i, hi, by rw [hN]⟩)
  · refine ⟨⟨(L.getD (j - 1) []).toArray⟩, (hnx.cell (p := ⟨gr, j - 1, none⟩) hgr).trans (hcell (j - 1) (by omega)), ?_⟩
    rw [ByteArray.toList_mk, ByteArray.toList_mk]
    exact less_of_lt (lt_of_sorted hS.1 (by omega) hj)

set_option maxHeartbeats 2000000 in
set_option maxRecDepth 100000 in
theorem law3 (x : Addr) (len cap : Nat) (N T : Nat → ByteArray) (w : World) (hlen : len ≤ maxLen) (hp : PairsAt w x len N T) :
    Calls Try.prog 3 #[.slice (some x) len cap] w fun e w' => e = .returned (.bool true) ∧ Below w.heap.size w w' := by
  have hmm := @run_makeMap Try.prog
  by_cases hl : (len : Int) ≤ 4096
  · have hl' : len ≤ 4096 := by omega
    go_enter Try.func3, Try.ntmps3
    go_wp2_with fail
    refine (bytes5_at x len cap N T _ hlen hp).mono ?_
    rintro e w1 ⟨⟨r, rfl⟩, hw⟩
    subst w1
    cases r
    · go_wp2
      go_ret
      exact ⟨rfl, Below.refl _ _⟩
    go_wp2_with fail
    refine (causes6_at x len cap N T _ hlen hp).mono ?_
    rintro e w1 ⟨⟨n, rfl⟩, hp1, hb1⟩
    by_cases hn : 1048576 < n
    · go_wp2
      go_ret
      exact ⟨rfl, hb1⟩
    go_wp2_with fail
    refine (clone7_at x len cap N T w1 hl' hp1).mono ?_
    rintro e w2 ⟨g, rfl, hg, hp2, hb2⟩
    have hc2 : Below w.heap.size w w2 := hb1.trans (hb2.mono hb1.size)
    go_wp2_with fail
    refine (dep8_at (H := Unit) g len len N T w2 hl' hg hp2).mono ?_
    rintro e w3 ⟨m, rfl, hm, hown3, hb3⟩
    have hp3 := hp2.below hb3 hg
    have hc3 : Below w.heap.size w w3 := hc2.trans (hb3.mono hc2.size)
    have hg3 := Nat.lt_of_lt_of_le hg hb3.size
    clear hp2 hb2 hb3 hb1 hc2 hp1
    go_wp2_with fail
    refine (causes9_row m len _ _ w3 hown3 (Nat.le_trans hown3.size_le (by omega))).mono ?_
    rintro e w4 ⟨v, L, he, hS, hL, hrow, hb4⟩
    have hp4 := hp3.below hb4 hg3
    have hown4 := owns_below hown3 hb4 hown3.lt
    have hc4 : Below w.heap.size w w4 := hc3.trans (hb4.mono hc3.size)
    have hg4 := Nat.lt_of_lt_of_le hg3 hb4.size
    rcases hrow with ⟨rfl, rfl⟩ | ⟨gr, capr, rfl, hgr, hgr4, hcell⟩
    · subst he
      have HL : Hid (0 = Maps.size (depD (H := Unit) N T len)) := hL
      clear hL
      go_wp2
      go_loopw [6] (fun i wr => ∃ k : Nat, k ≤ len ∧ i = .int .i64 k ∧ wr.ownsMap Try.prog 9 (plainElem Try.prog 4) w4.heap.size k (namD (H := Unit) N k) ∧ Below w4.heap.size w4 wr) (fun i _ => len - (intOf i).toNat)
      case atStart => exact ⟨0, Nat.zero_le _, rfl, World.ownsMap_made _ _ _ _, (Below.refl _ _).alloc (Nat.le_refl _) _⟩
      case round =>
        obtain ⟨k, hk, rfl, hown, hnx⟩ := hrel
        by_cases hlt : k < len
        · obtain ⟨h1, h2, h3, h4⟩ := hp4 k hlt
          have g1 := (hnx.cell (p := ⟨g, 0 + k * 2, none⟩) hg4).trans h1
          rw [Nat.zero_add] at g1
          clear h1 h2
          obtain ⟨w5, hrun, hown5, hgrow5⟩ := hown.update law9 Try.underlying31 (by unfold maxLen; omega) (WideMaps.keyOf_string_mk Try.underlying9 h3) (plainElem_bool Try.underlying4 true)
          go_wp2
          go_roundw
          case rel => exact ⟨k + 1, by omega, by go_num, hown5, hnx.grown hgrow5 hnx.size (fun j hj => by cases hj; exact Nat.le_refl _)⟩
          case measure => simp [intOf]; omega
        · have hkl : k = len := by omega
          subst hkl
          have hsz := (size_named N T hown4 hown).trans HL.out.symm
          have hlen31 := fun ty => hown.len Try.underlying31 ty
          rw [hsz] at hlen31
          clear hsz hown3 hown4 hp3 hp4 hp hS HL
          go_wp2
          refine wp_loop_rounds 1 ?_
          rw [rounds_succ]
          go_wp2
          go_ret
          exact ⟨rfl, hc4.trans (hnx.mono hc4.size)⟩
    · subst he
      have hL1 : L.length ≤ 4096 := by rw [hL]; exact Nat.le_trans hown3.size_le hl'
      have HL : Hid (L.length = Maps.size (depD (H := Unit) N T len)) := hL
      clear hL
      go_wp2
      go_loopw [6] (fun i wr => ∃ k : Nat, k ≤ len ∧ i = .int .i64 k ∧ wr.ownsMap Try.prog 9 (plainElem Try.prog 4) w4.heap.size k (namD (H := Unit) N k) ∧ Below w4.heap.size w4 wr) (fun i _ => len - (intOf i).toNat)
      case atStart => exact ⟨0, Nat.zero_le _, rfl, World.ownsMap_made _ _ _ _, (Below.refl _ _).alloc (Nat.le_refl _) _⟩
      case round =>
        obtain ⟨k, hk, rfl, hown, hnx⟩ := hrel
        by_cases hlt : k < len
        · obtain ⟨h1, h2, h3, h4⟩ := hp4 k hlt
          have g1 := (hnx.cell (p := ⟨g, 0 + k * 2, none⟩) hg4).trans h1
          rw [Nat.zero_add] at g1
          clear h1 h2
          obtain ⟨w5, hrun, hown5, hgrow5⟩ := hown.update law9 Try.underlying31 (by unfold maxLen; omega) (WideMaps.keyOf_string_mk Try.underlying9 h3) (plainElem_bool Try.underlying4 true)
          go_wp2
          go_roundw
          case rel => exact ⟨k + 1, by omega, by go_num, hown5, hnx.grown hgrow5 hnx.size (fun j hj => by cases hj; exact Nat.le_refl _)⟩
          case measure => simp [intOf]; omega
        · have hkl : k = len := by omega
          subst hkl
          have hsz := (size_named N T hown4 hown).trans HL.out.symm
          have hlen31 := fun ty => hown.len Try.underlying31 ty
          rw [hsz] at hlen31
          have hne : (((L.length : Nat) : Int) != ((L.length : Nat) : Int)) = false := by simp
          have hfacts := row_facts N T hS hp4 hcell hnx hgr4 hown
          clear hsz hown3 hown4 hp3 hp4 hp hcell hS HL
          go_wp2
          go_loopw [7] (fun i w5 => ∃ j : Nat, j ≤ L.length ∧ i = .int .i64 j ∧ ∃ q, w5 = wr.drewN q) (fun i _ => L.length - (intOf i).toNat)
          case atStart => exact ⟨0, Nat.zero_le _, rfl, 0, rfl⟩
          case round =>
            obtain ⟨j, hj, rfl, q, rfl⟩ := hrel
            by_cases hjl : j < L.length
            · obtain ⟨s1, c1, l1, hb⟩ := hfacts j hjl
              have l1q := l1 q
              clear hfacts l1
              by_cases h0 : j = 0
              · subst h0
                clear hb
                have hjl' : (0 : Int) < (L.length : Int) := by omega
                go_wp2
                go_quiet (fail)
                go_wp2
                go_roundw
                case rel => exact ⟨1, by omega, by go_num, q + nq, rfl⟩
                case measure => simp [intOf]; omega
              · obtain ⟨i, rfl⟩ : ∃ i, j = i + 1 := ⟨j - 1, by omega⟩
                obtain ⟨s0, c0, hb⟩ := hb (by omega)
                simp only [Nat.add_sub_cancel] at c0
                have hjl' : (i : Int) + 1 < (L.length : Int) := by omega
                have hjl2 : (i : Int) < (L.length : Int) := by omega
                have h01 : (0 : Int) < (i : Int) + 1 := by omega
                go_wp2
                go_quiet (fail)
                go_wp2
                go_roundw
                case rel => exact ⟨i + 2, by omega, by go_num, q + nq, rfl⟩
                case measure => simp [intOf]; omega
            · go_wp2
              go_ret
              exact ⟨rfl, hc4.trans (below_drew (hnx.mono hc4.size) q)⟩
  · have hl' : (4096 : Int) < len := by omega
    go_enter Try.func3, Try.ntmps3
    go_wp2_with fail
    refine (bytes5_at x len cap N T _ hlen hp).mono ?_
    rintro e w1 ⟨⟨r, rfl⟩, hw⟩
    subst w1
    cases r
    · go_wp2
      go_ret
      exact ⟨rfl, Below.refl _ _⟩
    · go_wp2
      go_ret
      exact ⟨rfl, Below.refl _ _⟩

set_option maxHeartbeats 2000000 in
set_option maxRecDepth 100000 in
theorem law3_nil (w : World) :
    Calls Try.prog 3 #[.slice none 0 0] w fun e w' => e = .returned (.bool true) ∧ Below w.heap.size w w' := by
  have hmm := @run_makeMap Try.prog
  go_enter Try.func3, Try.ntmps3
  go_wp2_with fail
  refine (bytes5_none none 0 _).mono ?_
  rintro e w1 ⟨⟨r, rfl⟩, hw⟩
  subst w1
  cases r
  · go_wp2
    go_ret
    exact ⟨rfl, Below.refl _ _⟩
  go_wp2_with fail
  refine (causes6_none none 0 _).mono ?_
  rintro e w1 ⟨⟨n, rfl⟩, q, hq⟩
  have hb1 : Below w.heap.size w w1 := by rw [hq]; exact below_drew (Below.refl _ _) q
  clear hq
  by_cases hn : 1048576 < n
  · go_wp2
    go_ret
    exact ⟨rfl, hb1⟩
  go_wp2_with fail
  refine (clone7_nil _).mono ?_
  rintro e w2 ⟨rfl, hw⟩
  subst w2
  go_wp2_with fail
  refine (dep8_nil _).mono ?_
  rintro e w2 ⟨rfl, hw⟩
  subst w2
  go_wp2_with fail
  refine (causes9_nil _).mono ?_
  rintro e w2 ⟨rfl, hb2⟩
  have hc2 : Below w.heap.size w w2 := hb1.trans (hb2.mono hb1.size)
  have hown : (w2.alloc (.map #[] 0)).ownsMap Try.prog 9 (plainElem (H := Unit) Try.prog 4) w2.heap.size 0 (.map []) := World.ownsMap_made _ _ _ _
  have hlen31 : ∀ ty, (Builtin.len_ #[31] ty #[.map (some w2.heap.size)]).run Try.prog (w2.alloc (.map #[] 0)) = .ok (.int .i64 0) (w2.alloc (.map #[] 0)) := fun ty => hown.len Try.underlying31 ty
  clear hown
  go_wp2
  refine wp_loop_rounds 1 ?_
  rw [rounds_succ]
  go_wp2
  refine wp_loop_rounds 1 ?_
  rw [rounds_succ]
  go_wp2
  go_ret
  exact ⟨rfl, hc2.alloc hc2.size _⟩

end Go.Proofs.Qxb6604665a
