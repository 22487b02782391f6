/-
  Seat b6604665a. THE WALK of FnCausesFollowAddAndRemove (function 4).
-/
import Derived.Test.Qxb6604665aRowLaws
namespace Go.Proofs.Qxb6604665a
open Go.RowKit Go.Maps Go.Sort Go.Shelf

theorem Row.grown {w w' : World} {base m : Nat} {v : Value} {L : List (List UInt8)} (h : Row w base v L) (hg : w.grownBy w' (some m)) (hm : m < base) : Row w' base v L := by
  rcases h with h | ⟨g, cap, hv, h1, h2, h3⟩
  · exact .inl h
  · exact .inr ⟨g, cap, hv, h1, Nat.lt_of_lt_of_le h2 hg.size, fun i hi => hg.cell (h3 i hi) (fun e => by simp at e; omega)⟩

theorem has_put_iff {H : Type} {D : DataW H} (hD : IsMap D) (c x : List UInt8) (d : DataW H) : has (D.put (.string c) d) (.string x) = true ↔ has D (.string x) = true ∨ x = c := by
  by_cases e : x = c
  · subst e
    rw [has_put_same hD (isKey _)]
    exact ⟨fun _ => .inr rfl, fun _ => rfl⟩
  · rw [has_put_other (fun h => e (by simpa using h))]
    exact ⟨.inl, fun h => h.elim id (fun h => absurd h e)⟩

theorem has_del_iff {H : Type} {D : DataW H} (c x : List UInt8) (d : DataW H) : has ((D.put (.string c) d).del (.string c)) (.string x) = true ↔ has D (.string x) = true ∧ x ≠ c := by
  by_cases e : x = c
  · subst e
    rw [has_del_same]
    exact ⟨fun h => (Bool.noConfusion h), fun h => absurd rfl h.2⟩
  · rw [has_del_other (fun h => e (by simpa using h)), has_put_other (fun h => e (by simpa using h))]
    exact ⟨fun h => ⟨h, e⟩, fun h => h.1⟩

theorem eq27 (w : World) (r : Option Nat) : (binOp .eql 27 (.map r) (.map none)).run Try.prog w = .ok (.bool r.isNone) w := run_eql_map_nil w _ _ _ r Try.underlying27

set_option maxHeartbeats 2000000 in
set_option maxRecDepth 100000 in
theorem law4 (x : Addr) (len cap : Nat) (N T : Nat → ByteArray) (c t : ByteArray) (w : World) (hlen : len ≤ maxLen) (hc : c.size ≤ maxLen) (ht : t.size ≤ maxLen) (hp : PairsAt w x len N T) (hl : (len : Int) ≤ 4096) (h1 : (c.size : Int) ≤ 65536) (h2 : (t.size : Int) ≤ 65536) :
    Calls Try.prog 4 #[.slice (some x) len cap, .string c, .string t] w fun e w' => e = .returned (.bool true) ∧ Below w.heap.size w w' := by
  have hq := eq27
  have hl' : len ≤ 4096 := by omega
  go_enter Try.func4, Try.ntmps4
  go_wp2_with fail
  refine (bytes10_at x len cap N T c t _ hlen hc ht hp).mono ?_
  rintro e w1 ⟨⟨r, rfl⟩, hw⟩
  subst w1
  cases r
  · go_wp2
    go_ret
    exact ⟨rfl, Below.refl _ _⟩
  go_wp2_with fail
  refine (causes6_at x len cap N T _ hlen hp).mono ?_
  rintro e w1 ⟨⟨n, rfl⟩, hp1, hb1⟩
  go_wp2_with fail
  · go_ret
    exact ⟨rfl, hb1⟩
  refine (clone7_at x len cap N T w1 hl' hp1).mono ?_
  rintro e w2 ⟨g, rfl, hg, hp2, hb2⟩
  have hc2 : Below w.heap.size w w2 := hb1.trans (hb2.mono hb1.size)
  go_wp2_with fail
  refine (dep8_at (H := Unit) g len len N T w2 hl' hg hp2).mono ?_
  rintro e w3 ⟨m, rfl, hm, hown3, hb3⟩
  have hc3 : Below w.heap.size w w3 := hc2.trans (hb3.mono hc2.size)
  have hmw : w.heap.size ≤ m := Nat.le_trans hc2.size hm
  clear hp2 hb2 hb3 hb1 hp1 hg hm
  have hD := isMap_depD (H := Unit) N T len
  generalize depD (H := Unit) N T len = D at hown3 hD
  go_wp2_with fail
  refine (causes9_row m len _ _ w3 hown3 (Nat.le_trans hown3.size_le (by omega))).mono ?_
  rintro e w4 ⟨v1, L1, rfl, hS1, hL1, hrow1, hb4⟩
  have hl1 : L1.length ≤ 5000 := by rw [hL1]; exact Nat.le_trans hown3.size_le (by omega)
  have hown4 := owns_below hown3 hb4 hown3.lt
  have hm3 := hown3.lt
  have hc4 : Below w.heap.size w w4 := hc3.trans (hb4.mono hc3.size)
  obtain ⟨w5, hrun5, hown5, hgrow5⟩ := hown4.update law9 Try.underlying27 (by unfold maxLen; omega) (WideMaps.keyOf_string_mk Try.underlying9 hc) (plainElem_string Try.underlying35 ht)
  have hrow5 := hrow1.grown hgrow5 hm3
  have hc5 : Below w.heap.size w w5 := hc4.grown hgrow5 hc4.size (fun k hk => by cases hk; exact hmw)
  clear hb4 hown3 hL1 hrow1 hgrow5 hown4
  go_wp2_with fail
  refine (causes9_row m (len + 1) _ _ w5 hown5 (Nat.le_trans hown5.size_le (by omega))).mono ?_
  rintro e w6 ⟨v2, L2, rfl, hS2, hL2, hrow2, hb6⟩
  have hl2 : L2.length ≤ 5000 := by rw [hL2]; exact Nat.le_trans hown5.size_le (by omega)
  have hown6 := owns_below hown5 hb6 hown5.lt
  have hrow6 := hrow5.below hb6 (Nat.le_refl _)
  have hm5 := hown5.lt
  have hc6 : Below w.heap.size w w6 := hc5.trans (hb6.mono hc5.size)
  clear hrun5 hrow5 hL2 hown5 hb6
  go_wp2_with (first
    | (at_delete; refine wpList_delete_own _ rfl _ _ 27 9 rfl 35 law9 Try.underlying27 _ m (len + 1) _ rfl hown6 _ _ rfl (WideMaps.keyOf_string_mk Try.underlying9 hc) ?_; intro w7 hown7 hturn7)
    | fail)
  have hrow7 := hrow6.grown hturn7.grown hm3
  have hrow7' := hrow2.grown hturn7.grown hm5
  have hc7 : Below w.heap.size w w7 := hc6.grown hturn7.grown hc6.size (fun k hk => by cases hk; exact hmw)
  clear hrow6 hrow2 hturn7 hown6
  refine (causes9_row m (len + 1) _ _ w7 hown7 (Nat.le_trans hown7.size_le (by omega))).mono ?_
  rintro e w8 ⟨v3, L3, rfl, hS3, hL3, hrow3, hb8⟩
  have hl3 : L3.length ≤ 5000 := by rw [hL3]; exact Nat.le_trans hown7.size_le (by omega)
  have hrow8 := hrow7.below hb8 (Nat.le_refl _)
  have hrow8' := hrow7'.below hb8 (Nat.le_refl _)
  have hc8 : Below w.heap.size w w8 := hc7.trans (hb8.mono hc7.size)
  clear hrow7 hrow7' hL3 hown7 hb8
  go_wp2_with fail
  refine (insert_row c w8 hrow8 hS1 hl1).mono ?_
  rintro e w9 ⟨v4, L4, rfl, hS4, hrow4, hb9⟩
  obtain rfl : L2 = L4 := sorted_unique (sorted_congr hS2 fun x => has_put_iff hD _ x _) hS4
  have hrow9 := hrow8.below hb9 (Nat.le_refl _)
  have hrow9' := hrow8'.below hb9 (Nat.le_refl _)
  have hrow9'' := hrow3.below hb9 (Nat.le_refl _)
  have hc9 : Below w.heap.size w w9 := hc8.trans (hb9.mono hc8.size)
  clear hrow8 hrow8' hrow3 hb9 hS4
  go_wp2_with fail
  refine (same_row w9 hrow9' hrow4 hl2).mono ?_
  rintro e w10 ⟨rfl, hb10⟩
  have hrow10 := hrow9.below hb10 (Nat.le_refl _)
  have hrow10' := hrow9''.below hb10 (Nat.le_refl _)
  have hc10 : Below w.heap.size w w10 := hc9.trans (hb10.mono hc9.size)
  clear hrow9 hrow9' hrow9'' hb10 hrow4
  go_wp2_with fail
  refine (without_row c w10 hrow10 hS1 hl1).mono ?_
  rintro e w11 ⟨v5, L5, rfl, hS5, hrow5, hb11⟩
  obtain rfl : L3 = L5 := sorted_unique (sorted_congr hS3 fun x => has_del_iff _ x _) hS5
  have hrow11 := hrow10'.below hb11 (Nat.le_refl _)
  have hc11 : Below w.heap.size w w11 := hc10.trans (hb11.mono hc10.size)
  clear hrow10 hrow10' hb11 hS5
  go_wp2_with fail
  refine (same_row w11 hrow11 hrow5 hl3).mono ?_
  rintro e w12 ⟨rfl, hb12⟩
  have hc12 : Below w.heap.size w w12 := hc11.trans (hb12.mono hc11.size)
  go_wp2
  go_ret
  exact ⟨rfl, hc12⟩

set_option maxHeartbeats 2000000 in
set_option maxRecDepth 100000 in
theorem law4_nil (c t : ByteArray) (w : World) (hc : c.size ≤ maxLen) (ht : t.size ≤ maxLen) (h1 : (c.size : Int) ≤ 65536) (h2 : (t.size : Int) ≤ 65536) :
    Calls Try.prog 4 #[.slice none 0 0, .string c, .string t] w fun e w' => e = .returned (.bool true) ∧ Below w.heap.size w w' := by
  have hq := eq27
  have hmm := @run_makeMap Try.prog
  go_enter Try.func4, Try.ntmps4
  go_wp2_with fail
  refine (bytes10_none none 0 c t _ hc ht).mono ?_
  rintro e w1 ⟨⟨r, rfl⟩, hw⟩
  subst w1
  cases r
  · go_wp2
    go_ret
    exact ⟨rfl, Below.refl _ _⟩
  go_wp2_with fail
  refine (causes6_none none 0 _).mono ?_
  rintro e w1 ⟨⟨n, rfl⟩, q, hqq⟩
  have hb1 : Below w.heap.size w w1 := by rw [hqq]; exact below_drew (Below.refl _ _) q
  clear hqq
  go_wp2_with fail
  · go_ret
    exact ⟨rfl, hb1⟩
  refine (clone7_nil _).mono ?_
  rintro e w2 ⟨rfl, hw⟩
  subst w2
  go_wp2_with fail
  refine (dep8_nil _).mono ?_
  rintro e w2 ⟨rfl, hw⟩
  subst w2
  go_wp2_with fail
  have hown3 : (w1.alloc (.map #[] 0)).ownsMap Try.prog 9 (plainElem (H := Unit) Try.prog 35) w1.heap.size 0 (.map []) := World.ownsMap_made _ _ _ _
  have hc3 : Below w.heap.size w (w1.alloc (.map #[] 0)) := hb1.alloc hb1.size _
  have hmw : w.heap.size ≤ w1.heap.size := hb1.size
  have hD : IsMap (.map [] : DataW Unit) := isMap_empty
  generalize (DataW.map [] : DataW Unit) = D at hown3 hD
  generalize w1.alloc (.map #[] 0) = w3 at hown3 hc3 ⊢
  generalize w1.heap.size = m at hown3 hmw ⊢
  clear hmm hb1
  refine (causes9_row m 0 _ _ w3 hown3 (Nat.le_trans hown3.size_le (by omega))).mono ?_
  rintro e w4 ⟨v1, L1, rfl, hS1, hL1, hrow1, hb4⟩
  have hl1 : L1.length ≤ 5000 := by rw [hL1]; exact Nat.le_trans hown3.size_le (by omega)
  have hown4 := owns_below hown3 hb4 hown3.lt
  have hm3 := hown3.lt
  have hc4 : Below w.heap.size w w4 := hc3.trans (hb4.mono hc3.size)
  obtain ⟨w5, hrun5, hown5, hgrow5⟩ := hown4.update law9 Try.underlying27 (by unfold maxLen; omega) (WideMaps.keyOf_string_mk Try.underlying9 hc) (plainElem_string Try.underlying35 ht)
  have hrow5 := hrow1.grown hgrow5 hm3
  have hc5 : Below w.heap.size w w5 := hc4.grown hgrow5 hc4.size (fun k hk => by cases hk; exact hmw)
  clear hb4 hown3 hL1 hrow1 hgrow5 hown4
  go_wp2_with fail
  refine (causes9_row m 1 _ _ w5 hown5 (Nat.le_trans hown5.size_le (by omega))).mono ?_
  rintro e w6 ⟨v2, L2, rfl, hS2, hL2, hrow2, hb6⟩
  have hl2 : L2.length ≤ 5000 := by rw [hL2]; exact Nat.le_trans hown5.size_le (by omega)
  have hown6 := owns_below hown5 hb6 hown5.lt
  have hrow6 := hrow5.below hb6 (Nat.le_refl _)
  have hm5 := hown5.lt
  have hc6 : Below w.heap.size w w6 := hc5.trans (hb6.mono hc5.size)
  clear hrun5 hrow5 hL2 hown5 hb6
  go_wp2_with (first
    | (at_delete; refine wpList_delete_own _ rfl _ _ 27 9 rfl 35 law9 Try.underlying27 _ m 1 _ rfl hown6 _ _ rfl (WideMaps.keyOf_string_mk Try.underlying9 hc) ?_; intro w7 hown7 hturn7)
    | fail)
  have hrow7 := hrow6.grown hturn7.grown hm3
  have hrow7' := hrow2.grown hturn7.grown hm5
  have hc7 : Below w.heap.size w w7 := hc6.grown hturn7.grown hc6.size (fun k hk => by cases hk; exact hmw)
  clear hrow6 hrow2 hturn7 hown6
  refine (causes9_row m 1 _ _ w7 hown7 (Nat.le_trans hown7.size_le (by omega))).mono ?_
  rintro e w8 ⟨v3, L3, rfl, hS3, hL3, hrow3, hb8⟩
  have hl3 : L3.length ≤ 5000 := by rw [hL3]; exact Nat.le_trans hown7.size_le (by omega)
  have hrow8 := hrow7.below hb8 (Nat.le_refl _)
  have hrow8' := hrow7'.below hb8 (Nat.le_refl _)
  have hc8 : Below w.heap.size w w8 := hc7.trans (hb8.mono hc7.size)
  clear hrow7 hrow7' hL3 hown7 hb8
  go_wp2_with fail
  refine (insert_row c w8 hrow8 hS1 hl1).mono ?_
  rintro e w9 ⟨v4, L4, rfl, hS4, hrow4, hb9⟩
  obtain rfl : L2 = L4 := sorted_unique (sorted_congr hS2 fun x => has_put_iff hD _ x _) hS4
  have hrow9 := hrow8.below hb9 (Nat.le_refl _)
  have hrow9' := hrow8'.below hb9 (Nat.le_refl _)
  have hrow9'' := hrow3.below hb9 (Nat.le_refl _)
  have hc9 : Below w.heap.size w w9 := hc8.trans (hb9.mono hc8.size)
  clear hrow8 hrow8' hrow3 hb9 hS4
  go_wp2_with fail
  refine (same_row w9 hrow9' hrow4 hl2).mono ?_
  rintro e w10 ⟨rfl, hb10⟩
  have hrow10 := hrow9.below hb10 (Nat.le_refl _)
  have hrow10' := hrow9''.below hb10 (Nat.le_refl _)
  have hc10 : Below w.heap.size w w10 := hc9.trans (hb10.mono hc9.size)
  clear hrow9 hrow9' hrow9'' hb10 hrow4
  go_wp2_with fail
  refine (without_row c w10 hrow10 hS1 hl1).mono ?_
  rintro e w11 ⟨v5, L5, rfl, hS5, hrow5, hb11⟩
  obtain rfl : L3 = L5 := sorted_unique (sorted_congr hS3 fun x => has_del_iff _ x _) hS5
  have hrow11 := hrow10'.below hb11 (Nat.le_refl _)
  have hc11 : Below w.heap.size w w11 := hc10.trans (hb11.mono hc10.size)
  clear hrow10 hrow10' hb11 hS5
  go_wp2_with fail
  refine (same_row w11 hrow11 hrow5 hl3).mono ?_
  rintro e w12 ⟨rfl, hb12⟩
  have hc12 : Below w.heap.size w w12 := hc11.trans (hb12.mono hc11.size)
  go_wp2
  go_ret
  exact ⟨rfl, hc12⟩

set_option maxHeartbeats 2000000 in
set_option maxRecDepth 100000 in
/-- BEYOND THE BOUNDS: true at once. -/
theorem law4_far (x : Option Addr) (len cap : Nat) (c t : ByteArray) (w : World) (hb : Calls Try.prog 10 #[.slice x len cap, .string c, .string t] w fun e w' => SomeBool e ∧ w' = w)
    (h : 4096 < (len : Int) ∨ 65536 < (c.size : Int) ∨ 65536 < (t.size : Int)) :
    Calls Try.prog 4 #[.slice x len cap, .string c, .string t] w fun e w' => e = .returned (.bool true) ∧ Below w.heap.size w w' := by
  have h' : (4096 < (len : Int)) ∨ (¬ 4096 < (len : Int) ∧ 65536 < (c.size : Int)) ∨ (¬ 4096 < (len : Int) ∧ ¬ 65536 < (c.size : Int) ∧ 65536 < (t.size : Int)) := by omega
  clear h
  rcases h' with h1 | ⟨h1, h2⟩ | ⟨h1, h2, h3⟩
  all_goals
    go_enter Try.func4, Try.ntmps4
    go_wp2_with fail
    refine hb.mono ?_
    rintro e w1 ⟨⟨r, rfl⟩, hw⟩
    subst w1
    clear hb
    cases r
    · go_wp2
      go_ret
      exact ⟨rfl, Below.refl _ _⟩
    · go_wp2
      go_ret
      exact ⟨rfl, Below.refl _ _⟩

theorem law4_all (x : Addr) (len cap : Nat) (N T : Nat → ByteArray) (c t : ByteArray) (w : World) (hlen : len ≤ maxLen) (hc : c.size ≤ maxLen) (ht : t.size ≤ maxLen) (hp : PairsAt w x len N T) :
    Calls Try.prog 4 #[.slice (some x) len cap, .string c, .string t] w fun e w' => e = .returned (.bool true) ∧ Below w.heap.size w w' := by
  by_cases hin : (len : Int) ≤ 4096 ∧ (c.size : Int) ≤ 65536 ∧ (t.size : Int) ≤ 65536
  · exact law4 x len cap N T c t w hlen hc ht hp hin.1 hin.2.1 hin.2.2
  · exact law4_far _ len cap c t w (bytes10_at x len cap N T c t w hlen hc ht hp) (by omega)

theorem law4_nil_all (c t : ByteArray) (w : World) (hc : c.size ≤ maxLen) (ht : t.size ≤ maxLen) :
    Calls Try.prog 4 #[.slice none 0 0, .string c, .string t] w fun e w' => e = .returned (.bool true) ∧ Below w.heap.size w w' := by
  by_cases hin : (c.size : Int) ≤ 65536 ∧ (t.size : Int) ≤ 65536
  · exact law4_nil c t w hc ht hin.1 hin.2
  · exact law4_far _ 0 0 c t w (bytes10_none none 0 c t w hc ht) (by omega)

end Go.Proofs.Qxb6604665a
