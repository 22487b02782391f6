/-
  Seat b6604665a. (Departure).causes (function 14) and ZZcauses (function 9): the map's keys, strictly sorted; and plain laws on sorted lists of strings.
-/
import Derived.Test.Qxb6604665aLay
import Derived.Test.Qxb6604665aDep
import Derived.Sort.KeysCollected
namespace Go.Proofs.Qxb6604665a
open Go.RowKit Go.Maps Go.Sort Go.Shelf

/-- WHAT 'causes' HANDS BACK: the list of the map's keys, strictly rising. -/
def Sorted (S : List UInt8 → Prop) (L : List (List UInt8)) : Prop := L.Pairwise (fun x y => x < y) ∧ ∀ x, x ∈ L ↔ S x

theorem mem_strKeys {H : Type} {R : Value → Option (DataW H × List MemPlace)} {w : World} {b n : Nat} {D : DataW H} (hown : w.ownsMap Try.prog 9 R b n D) :
    (strKeys D).Nodup ∧ (∀ x, x ∈ strKeys D ↔ has D (.string x) = true) ∧ (strKeys D).length = Maps.size D := by
  obtain ⟨es, hD, hpw⟩ := hown.tidy law9
  obtain ⟨es', hD', hko⟩ := hown.keysOf
  obtain rfl : es = es' := by rw [hD] at hD'; simpa using hD'
  subst hD
  have hk : ∀ p ∈ es, ∃ x, p.1 = .string x := fun p hp => by obtain ⟨v, hv⟩ := hko p hp; obtain ⟨x, _, hx, _⟩ := Maps.keyOf_str Try.underlying9 hv; exact ⟨x, hx⟩
  refine ⟨?_, fun x => ?_, by simp [strKeys, Maps.size]⟩
  · show (es.map fun p => strOf p.1).Nodup
    refine List.pairwise_map.2 (List.pairwise_iff_getElem.2 fun i j hi hj hij e => List.pairwise_iff_getElem.1 hpw i j hi hj hij ?_)
    obtain ⟨a, ha⟩ := hk es[i] (List.getElem_mem hi)
    obtain ⟨b, hb⟩ := hk es[j] (List.getElem_mem hj)
    rw [ha, hb] at e ⊢
    exact congrArg _ e
  · rw [has_eq, List.any_eq_true]
    show x ∈ es.map (fun p => strOf p.1) ↔ _
    rw [List.mem_map]
    constructor
    · rintro ⟨p, hp', rfl⟩
      obtain ⟨a, ha⟩ := hk p hp'
      exact ⟨p, hp', by rw [ha]; simp [Lit.sameKey, strOf]⟩
    · rintro ⟨p, hp', hs⟩
      obtain ⟨a, ha⟩ := hk p hp'
      rw [ha] at hs
      exact ⟨p, hp', by rw [ha]; simpa [Lit.sameKey, strOf] using hs⟩

theorem sorted_of_perm {K ss : List (List UInt8)} (hp : ss.Perm K) (hn : K.Nodup) : (ss.mergeSort (fun x y => decide (x ≤ y))).Pairwise (fun x y => x < y) ∧ ∀ x, x ∈ ss.mergeSort (fun x y => decide (x ≤ y)) ↔ x ∈ K := by
  have tr : ∀ a b c : List UInt8, leB a b = true → leB b c = true → leB a c = true := fun a b c h1 h2 => by simp only [leB, decide_eq_true_eq] at *; exact List.le_trans h1 h2
  have to : ∀ a b : List UInt8, (leB a b || leB b a) = true := fun a b => by simp only [leB, Bool.or_eq_true, decide_eq_true_eq]; exact List.le_total a b
  have h1 := List.pairwise_mergeSort tr to ss
  have h2 : (ss.mergeSort leB).Nodup := ((List.mergeSort_perm ss leB).trans hp).nodup_iff.2 hn
  refine ⟨List.pairwise_iff_getElem.2 fun i j hi hj hij => ?_, fun x => ((List.mergeSort_perm ss leB).trans hp).mem_iff⟩
  have hle : (ss.mergeSort leB)[i] ≤ (ss.mergeSort leB)[j] := by simpa [leB] using List.pairwise_iff_getElem.1 h1 i j hi hj hij
  exact Classical.byContradiction fun hlt => List.pairwise_iff_getElem.1 h2 i j hi hj hij (List.le_antisymm hle (List.not_lt.1 hlt))

set_option maxHeartbeats 1000000 in
theorem causes14 {H : Type} (b nn : Nat) (D0 : DataW H) (R : Value → Option (DataW H × List MemPlace)) (w : World) (hown : w.ownsMap Try.prog 9 R b nn D0) (hmax : Maps.size D0 ≤ 5000) :
    Calls Try.prog 14 #[.map (some b)] w fun e w' => ∃ (v : Value) (L : List (List UInt8)), e = .returned v ∧ Sorted (fun x => has D0 (.string x) = true) L ∧ L.length = Maps.size D0 ∧
      w'.ownsRow w.heap.size 9 1 v L.length (L.map encStr) ∧ (v = .slice none 0 0 ↔ L = []) ∧ Below w.heap.size w w' := by
  refine (callsIn_wide (n := 6)).1 ?_
  have hfK : Fence.wide.fn 16 := trivial
  have hfS : Fence.wide.fn 15 := trivial
  have hmax1 : Maps.size D0 ≤ maxLen := by unfold maxLen; omega
  refine callsIn_of_wp Try.func14 rfl trivial ?_ rfl
  simp only [Try.ntmps14, List.size_toArray, List.length_cons, List.length_nil, Nat.reduceAdd, Nat.reduceSub, Array.replicate_succ, Array.replicate_zero, List.push_toArray, List.append_toArray, List.nil_append, List.cons_append]
  gi_wp2_with (first
    | (gi_at_call 16; refine (Try.maps_Keys_16 _ _).mono ?_; rintro e w' ⟨rfl, rfl⟩)
    | (gi_at_call 15; refine (Try.slices_Sorted_keys_15_16 b nn D0 R w hown hmax1 (by omega)).mono ?_; rintro e w' ⟨v, ss, rfl, hS, hrow, hnil, hb⟩))
  go_ret
  obtain ⟨k1, k2, k3⟩ := mem_strKeys hown
  obtain ⟨s1, s2⟩ := sorted_of_perm hS k1
  have hl : (ss.mergeSort (fun x y => decide (x ≤ y))).length = ss.length := List.length_mergeSort ss
  refine ⟨v, ss.mergeSort (fun x y => decide (x ≤ y)), rfl, ⟨s1, fun x => (s2 x).trans (k2 x)⟩, hl.trans (hS.length_eq.trans k3), ?_, ?_, ((Below.refl _ w).alloc (Nat.le_refl _) _).trans (hb.mono (by simp))⟩
  · rw [hl]; exact ownsRow_base_a hrow (by simp)
  · rw [hnil, ← List.length_eq_zero_iff, ← List.length_eq_zero_iff, hl]

set_option maxHeartbeats 1000000 in
theorem causes14_nil (w : World) :
    Calls Try.prog 14 #[.map none] w fun e w' => e = .returned (.slice none 0 0) ∧ Below w.heap.size w w' := by
  refine (callsIn_wide (n := 6)).1 ?_
  have hfK : Fence.wide.fn 16 := trivial
  have hfS : Fence.wide.fn 15 := trivial
  refine callsIn_of_wp Try.func14 rfl trivial ?_ rfl
  simp only [Try.ntmps14, List.size_toArray, List.length_cons, List.length_nil, Nat.reduceAdd, Nat.reduceSub, Array.replicate_succ, Array.replicate_zero, List.push_toArray, List.append_toArray, List.nil_append, List.cons_append]
  gi_wp2_with (first
    | (gi_at_call 16; refine (Try.maps_Keys_16 _ _).mono ?_; rintro e w' ⟨rfl, rfl⟩)
    | (gi_at_call 15; refine (Try.slices_Sorted_keys_nil_15_16 w).mono ?_; rintro e w' ⟨v, ss, rfl, hS, hrow, hnil, hb⟩))
  go_ret
  exact ⟨by rw [hnil.2 hS]; rfl, ((Below.refl _ w).alloc (Nat.le_refl _) _).trans (hb.mono (by simp))⟩

set_option maxHeartbeats 1000000 in
theorem causes9 {H : Type} (b nn : Nat) (D0 : DataW H) (R : Value → Option (DataW H × List MemPlace)) (w : World) (hown : w.ownsMap Try.prog 9 R b nn D0) (hmax : Maps.size D0 ≤ 5000) :
    Calls Try.prog 9 #[.map (some b)] w fun e w' => ∃ (v : Value) (L : List (List UInt8)), e = .returned v ∧ Sorted (fun x => has D0 (.string x) = true) L ∧ L.length = Maps.size D0 ∧
      w'.ownsRow w.heap.size 9 1 v L.length (L.map encStr) ∧ (v = .slice none 0 0 ↔ L = []) ∧ Below w.heap.size w w' := by
  go_enter Try.func9, Try.ntmps9
  go_wp2_with (go_at_call 14; refine (causes14 b nn D0 R _ hown hmax).mono ?_; rintro e w' ⟨v, L, rfl, h1, h2, h3, h4, h5⟩)
  go_ret
  exact ⟨v, L, rfl, h1, h2, h3, h4, h5⟩

set_option maxHeartbeats 1000000 in
theorem causes9_nil (w : World) :
    Calls Try.prog 9 #[.map none] w fun e w' => e = .returned (.slice none 0 0) ∧ Below w.heap.size w w' := by
  go_enter Try.func9, Try.ntmps9
  go_wp2_with (go_at_call 14; refine (causes14_nil _).mono ?_; rintro e w' ⟨rfl, h5⟩)
  go_ret
  exact ⟨rfl, h5⟩

end Go.Proofs.Qxb6604665a
