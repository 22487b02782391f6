/-
  Seat b6604665a. PLAIN LAWS on strictly rising lists; the three functions on rows, by their contracts; the guard zzBytes (10).
-/
import Derived.Test.Qxb6604665aInsert
namespace Go.Proofs.Qxb6604665a
open Go.RowKit Go.Maps Go.Sort Go.Shelf

theorem nodup_of_rising {L : List (List UInt8)} (h : L.Pairwise (fun x y => x < y)) : L.Nodup :=
  List.pairwise_iff_getElem.2 fun i j hi hj hij e => List.lt_irrefl _ (e ▸ List.pairwise_iff_getElem.1 h i j hi hj hij)

/-- ONE SET, ONE RISING LIST. -/
theorem sorted_unique {S : List UInt8 → Prop} {L L' : List (List UInt8)} (h : Sorted S L) (h' : Sorted S L') : L = L' := by
  have hp : L.Perm L' := (List.perm_ext_iff_of_nodup (nodup_of_rising h.1) (nodup_of_rising h'.1)).2 fun x => (h.2 x).trans (h'.2 x).symm
  exact List.Perm.eq_of_pairwise (le := fun x y => x < y) (fun a b _ _ h1 h2 => absurd (List.lt_trans h1 h2) (List.lt_irrefl _)) h.1 h'.1 hp

theorem sorted_congr {S S' : List UInt8 → Prop} {L : List (List UInt8)} (h : Sorted S L) (e : ∀ x, S x ↔ S' x) : Sorted S' L := ⟨h.1, fun x => (h.2 x).trans (e x)⟩

theorem sorted_kept {S : List UInt8 → Prop} {L : List (List UInt8)} (h : Sorted S L) (c : List UInt8) : Sorted (fun x => S x ∧ x ≠ c) (kept L c L.length) := by
  unfold kept
  rw [List.take_length]
  refine ⟨h.1.filter _, fun x => ?_⟩
  rw [List.mem_filter, h.2 x, bne_iff_ne]

theorem mem_nth {L : List (List UInt8)} {x : List UInt8} (h : x ∈ L) : ∃ i, i < L.length ∧ nth L i = x := by
  obtain ⟨i, hi, e⟩ := List.mem_iff_getElem.1 h
  exact ⟨i, hi, by unfold nth; rw [List.getD, List.getElem?_eq_getElem hi]; exact e⟩

theorem less_iff {x y : List UInt8} : Op.bytesLess x y = true ↔ x < y := by rw [bytesLess_dec, decide_eq_true_iff]

theorem mem_take_nth {L : List (List UInt8)} {p : Nat} {x : List UInt8} (h : x ∈ L.take p) : ∃ i, i < p ∧ i < L.length ∧ nth L i = x := by
  obtain ⟨i, hi, e⟩ := List.mem_iff_getElem.1 h
  rw [List.length_take] at hi
  refine ⟨i, by omega, by omega, ?_⟩
  unfold nth
  rw [List.getD, List.getElem?_eq_getElem (by omega)]
  simpa using e

theorem mem_drop_nth {L : List (List UInt8)} {p : Nat} {x : List UInt8} (h : x ∈ L.drop p) : ∃ i, p ≤ i ∧ i < L.length ∧ nth L i = x := by
  obtain ⟨i, hi, e⟩ := List.mem_iff_getElem.1 h
  rw [List.length_drop] at hi
  refine ⟨p + i, by omega, by omega, ?_⟩
  unfold nth
  rw [List.getD, List.getElem?_eq_getElem (by omega)]
  simpa using e

theorem lt_of_not {x y : List UInt8} (h : Op.bytesLess x y = false) (hne : x ≠ y) : y < x := by
  have h1 : ¬ x < y := fun h' => by rw [less_iff.2 h'] at h; cases h
  have h2 : y ≤ x := List.not_lt.1 h1
  exact Classical.byContradiction fun h3 => hne (List.le_antisymm (List.not_lt.1 h3) h2)

theorem sorted_ins {S : List UInt8 → Prop} {L : List (List UInt8)} (h : Sorted S L) (c : List UInt8) (p : Nat) (hp : p ≤ L.length) (hlo : ∀ i, i < p → Op.bytesLess (nth L i) c = true)
    (hhi : p < L.length → Op.bytesLess (nth L p) c = false ∧ nth L p ≠ c) : Sorted (fun x => S x ∨ x = c) (ins L c p L.length) := by
  unfold ins
  rw [List.take_length]
  have hafter : ∀ x ∈ L.drop p, c < x := by
    intro x hx
    obtain ⟨i, hi, hil, rfl⟩ := mem_drop_nth hx
    obtain ⟨h1, h2⟩ := hhi (by omega)
    have h3 := lt_of_not h1 h2
    by_cases e : i = p
    · rw [e]; exact h3
    · exact List.lt_trans h3 (lt_of_sorted h.1 (by omega) hil)
  have hbefore : ∀ x ∈ L.take p, x < c := by
    intro x hx
    obtain ⟨i, hi, hil, rfl⟩ := mem_take_nth hx
    exact less_iff.1 (hlo i hi)
  refine ⟨List.pairwise_append.2 ⟨List.pairwise_append.2 ⟨h.1.take, List.pairwise_singleton _ _, fun a ha b hb => ?_⟩, h.1.drop, fun a ha b hb => ?_⟩, fun x => ?_⟩
  · rw [List.mem_singleton.1 hb]; exact hbefore a ha
  · rcases List.mem_append.1 ha with ha | ha
    · exact List.lt_trans (hbefore a ha) (hafter b hb)
    · rw [List.mem_singleton.1 ha]; exact hafter b hb
  · show _ ↔ S x ∨ x = c
    rw [List.mem_append, List.mem_append, List.mem_singleton, ← h.2 x]
    have : x ∈ L ↔ x ∈ L.take p ∨ x ∈ L.drop p := by rw [← List.mem_append, List.take_append_drop]
    rw [this]
    constructor
    · rintro ((h1 | h1) | h1)
      · exact .inl (.inl h1)
      · exact .inr h1
      · exact .inl (.inr h1)
    · rintro ((h1 | h1) | h1)
      · exact .inl (.inl h1)
      · exact .inr h1
      · exact .inl (.inr h1)

theorem bytes_back (s : ByteArray) : (⟨s.data.toList.toArray⟩ : ByteArray) = s := by simp

set_option maxHeartbeats 1000000 in
set_option maxRecDepth 100000 in
theorem insert12_none (a : Option Addr) (cap : Nat) (c : List UInt8) (w : World) :
    Calls Try.prog 12 #[.slice a 0 cap, .string ⟨c.toArray⟩] w fun e w' => (∃ v, e = .returned v ∧ w'.ownsRow w.heap.size 9 1 v 1 [encStr c]) ∧ Below w.heap.size w w' := by
  obtain ⟨i0, hi, hz0, hz1, hz2⟩ := info_parts info9
  go_enter Try.func12, Try.ntmps12
  go_wp2
  refine wp_loop_rounds 1 ?_
  rw [rounds_succ]
  go_wp2_with (first
    | (at_make; refine wpList_make_own _ rfl _ _ 29 rfl w.heap.size 9 i0 (.string ByteArray.empty) 1 Try.underlying29 hi hz0 hz1 .i64 .i64 _ 1 rfl rfl rfl (by rw [hz2]; omega) (by unfold maxLen; omega) (Nat.le_refl _) ?_; intro w1 hown1 hgrow1)
    | go_in)
  refine wp_loop_rounds 1 ?_
  rw [rounds_succ]
  go_wp2_with (first
    | (at_builtin; refine wpList_append_fits _ rfl _ _ 29 rfl w.heap.size 9 i0 1 Try.underlying29 hi hz1 w.heap.size 0 1 _ rfl (hown1.alloc _) ⟨w1.heap.size, 0, none⟩ 1 1 [.string ⟨c.toArray⟩] rfl rfl (cell_one_new _ _ _) (fun z hz => by simp at hz; subst hz; rfl) (by omega) ?_; intro w2 hown2 hgrow2)
    | go_in)
  refine wp_loop_rounds 1 ?_
  rw [rounds_succ]
  go_wp2
  go_ret
  have hb1 : Below w.heap.size w w1 := (Below.refl _ _).grown hgrow1 (Nat.le_refl _) (fun j hj => by cases hj)
  exact ⟨⟨_, rfl, hown2⟩, (hb1.alloc hb1.size _).grown hgrow2 (by have := hb1.size; simp; omega) (fun j hj => by cases hj; exact Nat.le_refl _)⟩

/-- zzInsertSorted on a row: a row of the set with c in it. -/
theorem insert_row {S : List UInt8 → Prop} {base : Nat} {v : Value} {L : List (List UInt8)} (cs : ByteArray) (w : World) (hrow : Row w base v L) (hS : Sorted S L) (hL : L.length ≤ 5000) :
    Calls Try.prog 12 #[v, .string cs] w fun e w' => ∃ v' L', e = .returned v' ∧ Sorted (fun x => S x ∨ x = cs.data.toList) L' ∧ Row w' 0 v' L' ∧ Below w.heap.size w w' := by
  rcases hrow with ⟨rfl, rfl⟩ | ⟨g, cap, rfl, _, hg, hcell⟩
  · have h := insert12_none none 0 cs.data.toList w
    rw [bytes_back] at h
    refine h.mono fun e w' ⟨⟨v', he, hown⟩, hb⟩ => ⟨v', [cs.data.toList], he, ⟨List.pairwise_singleton _ _, fun x => ?_⟩, row_of_owns ?_, hb⟩
    · have := (hS.2 x).2
      rw [List.mem_singleton]
      exact ⟨.inr, fun h => h.elim (fun h => absurd (this h) (List.not_mem_nil)) id⟩
    · exact ownsRow_base_a hown (Nat.zero_le _)
  · have h := insert12 g cap L cs.data.toList w hL hg hcell
    rw [bytes_back] at h
    refine h.mono fun e w' ⟨⟨p, hp, hlo, hor⟩, hb⟩ => ?_
    rcases hor with ⟨hpl, he1, he⟩ | ⟨hhi, v', he, hown⟩
    · refine ⟨_, L, he, sorted_congr hS fun x => ⟨.inl, fun h => h.elim id fun e => ?_⟩, ?_, hb⟩
      · rw [e, ← he1]
        refine (hS.2 _).1 ?_
        unfold nth
        rw [List.getD, List.getElem?_eq_getElem hpl]
        exact List.getElem_mem hpl
      · exact .inr ⟨g, cap, rfl, Nat.zero_le _, Nat.lt_of_lt_of_le hg hb.size, fun i hi => (hb.cell (p := ⟨g, i, none⟩) hg).trans (hcell i hi)⟩
    · exact ⟨v', _, he, sorted_ins hS _ p hp hlo hhi, row_of_owns (ownsRow_base_a hown (Nat.zero_le _)), hb⟩

/-- zzWithout on a row: a row of the set without c. -/
theorem without_row {S : List UInt8 → Prop} {base : Nat} {v : Value} {L : List (List UInt8)} (cs : ByteArray) (w : World) (hrow : Row w base v L) (hS : Sorted S L) (hL : L.length ≤ 5000) :
    Calls Try.prog 13 #[v, .string cs] w fun e w' => ∃ v' L', e = .returned v' ∧ Sorted (fun x => S x ∧ x ≠ cs.data.toList) L' ∧ Row w' 0 v' L' ∧ Below w.heap.size w w' := by
  rcases hrow with ⟨rfl, rfl⟩ | ⟨g, cap, rfl, _, hg, hcell⟩
  · have h := without13_none none 0 cs w
    exact h.mono fun e w' ⟨v', he, hown, hb⟩ => ⟨v', [], he, sorted_kept hS cs.data.toList, row_of_owns (ownsRow_base_a hown (Nat.zero_le _)), hb⟩
  · have h := without13 g cap L cs.data.toList w hL hg hcell
    rw [bytes_back] at h
    exact h.mono fun e w' ⟨v', he, hown, hb⟩ => ⟨v', _, he, sorted_kept hS _, row_of_owns (ownsRow_base_a hown (Nat.zero_le _)), hb⟩

/-- zzSameStrings on two rows of one list. -/
theorem same_row {base base' : Nat} {v v' : Value} {L : List (List UInt8)} (w : World) (hrow : Row w base v L) (hrow' : Row w base' v' L) (hL : L.length ≤ 5000) :
    Calls Try.prog 11 #[v, v'] w fun e w' => e = .returned (.bool true) ∧ Below w.heap.size w w' := by
  rcases hrow with ⟨rfl, rfl⟩ | ⟨g, cap, rfl, _, hg, hcell⟩
  · rcases hrow' with ⟨rfl, _⟩ | ⟨g', cap', rfl, _, hg', hcell'⟩
    · exact same11_none _ _ _ _ w
    · exact same11_none _ _ _ _ w
  · rcases hrow' with ⟨rfl, rfl⟩ | ⟨g', cap', rfl, _, hg', hcell'⟩
    · exact same11_none _ _ _ _ w
    · exact same11 g g' cap cap' L w hL hcell hcell'

set_option maxHeartbeats 2000000 in
set_option maxRecDepth 100000 in
theorem bytes10 (b off len cap : Nat) (N T : Nat → ByteArray) (c t : ByteArray) (w : World) (hlen : len ≤ maxLen) (hc : c.size ≤ maxLen) (ht : t.size ≤ maxLen) (hp : Pairs w b off len N T) :
    Calls Try.prog 10 #[.slice (some ⟨b, off, none⟩) len cap, .string c, .string t] w fun e w' => SomeBool e ∧ w' = w := by
  unfold maxLen at hlen hc ht
  by_cases h0 : (len : Int) ≤ 1048576
  · go_enter Try.func10, Try.ntmps10
    go_wp2
    go_loop [7, 8] (fun z i => ∃ k : Nat, k ≤ len ∧ i = .int .i64 k ∧ ∃ n : Int, 0 ≤ n ∧ n ≤ 1048576 ∧ z = .int .i64 n) (fun _ i => len - (intOf i).toNat)
    case atStart => exact ⟨0, Nat.zero_le _, rfl, len, by omega, by omega, rfl⟩
    case round =>
      obtain ⟨k, hk, rfl, n, hn0, hn1, rfl⟩ := hrel
      by_cases hlt : k < len
      · obtain ⟨h1, h2, h3, h4⟩ := hp k hlt
        unfold maxLen at h3 h4
        go_wp2
        · go_ret; exact ⟨⟨_, rfl⟩, rfl⟩
        · go_ret; exact ⟨⟨_, rfl⟩, rfl⟩
        · go_ret; exact ⟨⟨_, rfl⟩, rfl⟩
        · go_ret; exact ⟨⟨_, rfl⟩, rfl⟩
        · go_round
          case rel => exact ⟨k + 1, by omega, by go_num, _, by omega, by omega, rfl⟩
          case measure => simp [intOf]; omega
      · go_wp2
        all_goals (go_ret; exact ⟨⟨_, rfl⟩, rfl⟩)
  · have h0' : (1048576 : Int) < len := by omega
    go_enter Try.func10, Try.ntmps10
    go_wp2
    go_ret
    exact ⟨⟨_, rfl⟩, rfl⟩

set_option maxHeartbeats 2000000 in
set_option maxRecDepth 100000 in
theorem bytes10_none (a : Option Addr) (cap : Nat) (c t : ByteArray) (w : World) (hc : c.size ≤ maxLen) (ht : t.size ≤ maxLen) :
    Calls Try.prog 10 #[.slice a 0 cap, .string c, .string t] w fun e w' => SomeBool e ∧ w' = w := by
  unfold maxLen at hc ht
  go_enter Try.func10, Try.ntmps10
  go_wp2
  refine wp_loop_rounds 1 ?_
  rw [rounds_succ]
  go_wp2
  all_goals (go_ret; exact ⟨⟨_, rfl⟩, rfl⟩)

theorem bytes10_at (x : Addr) (len cap : Nat) (N T : Nat → ByteArray) (c t : ByteArray) (w : World) (hlen : len ≤ maxLen) (hc : c.size ≤ maxLen) (ht : t.size ≤ maxLen) (hp : PairsAt w x len N T) :
    Calls Try.prog 10 #[.slice (some x) len cap, .string c, .string t] w fun e w' => SomeBool e ∧ w' = w := by
  rcases hp with rfl | ⟨b, off, rfl, _, hp⟩
  · exact bytes10_none _ _ _ _ _ hc ht
  · exact bytes10 b off len cap N T c t w hlen hc ht hp

end Go.Proofs.Qxb6604665a
