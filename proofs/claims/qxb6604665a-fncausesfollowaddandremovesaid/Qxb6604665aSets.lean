/-
  Seat b6604665a. PLAIN LAWS: which keys the two maps hold; rows of strings; the contracts on 'pairs' at whatever address.
-/
import Derived.Test.Qxb6604665aCauses
namespace Go.Proofs.Qxb6604665a
open Go.RowKit Go.Maps Go.Sort Go.Shelf

/-- The set 'named' behind k rounds. -/
def namD {H : Type} (N : Nat → ByteArray) : Nat → DataW H
  | 0 => .map []
  | k + 1 => (namD N k).put (.string (N k).data.toList) (.lit (.bool true))

theorem isKey (s : List UInt8) : WideAt.IsKeyLit (.string s) := trivial

theorem isMap_depD {H : Type} (N T : Nat → ByteArray) : ∀ k, IsMap (depD (H := H) N T k)
  | 0 => isMap_empty
  | k + 1 => (isMap_depD N T k).put _ _
theorem isMap_namD {H : Type} (N : Nat → ByteArray) : ∀ k, IsMap (namD (H := H) N k)
  | 0 => isMap_empty
  | k + 1 => (isMap_namD N k).put _ _

theorem has_depD {H : Type} (N T : Nat → ByteArray) (x : List UInt8) : ∀ k, has (depD (H := H) N T k) (.string x) = true ↔ ∃ j, j < k ∧ (N j).data.toList = x
  | 0 => by simp [depD, has]
  | k + 1 => by
    unfold depD
    by_cases e : (N k).data.toList = x
    · subst e
      rw [has_put_same (isMap_depD N T k) (isKey _)]
      exact ⟨fun _ => ⟨k, by omega, rfl⟩, fun _ => rfl⟩
    · rw [has_put_other (fun h => e (by simpa using h.symm)), has_depD N T x k]
      constructor
      · rintro ⟨j, hj, h⟩; exact ⟨j, by omega, h⟩
      · rintro ⟨j, hj, h⟩
        have : j ≠ k := fun e' => e (e' ▸ h)
        exact ⟨j, by omega, h⟩

theorem has_namD {H : Type} (N : Nat → ByteArray) (x : List UInt8) : ∀ k, has (namD (H := H) N k) (.string x) = true ↔ ∃ j, j < k ∧ (N j).data.toList = x
  | 0 => by simp [namD, has]
  | k + 1 => by
    unfold namD
    by_cases e : (N k).data.toList = x
    · subst e
      rw [has_put_same (isMap_namD N k) (isKey _)]
      exact ⟨fun _ => ⟨k, by omega, rfl⟩, fun _ => rfl⟩
    · rw [has_put_other (fun h => e (by simpa using h.symm)), has_namD N x k]
      constructor
      · rintro ⟨j, hj, h⟩; exact ⟨j, by omega, h⟩
      · rintro ⟨j, hj, h⟩
        have : j ≠ k := fun e' => e (e' ▸ h)
        exact ⟨j, by omega, h⟩

theorem at_namD {H : Type} (N : Nat → ByteArray) (x : List UInt8) (z : DataW H) : ∀ k, has (namD (H := H) N k) (.string x) = true → (namD (H := H) N k).atKey (.string x) z = .lit (.bool true)
  | 0 => by simp [namD, has]
  | k + 1 => by
    unfold namD
    intro h
    by_cases e : (N k).data.toList = x
    · subst e
      rw [atKey_put_same (isMap_namD N k) (isKey _)]
    · rw [has_put_other (fun h => e (by simpa using h.symm))] at h
      rw [atKey_put_other (fun h => e (by simpa using h.symm)), at_namD N x z k h]

theorem plainElem_bool_inv {H : Type} {v : Value} {z : DataW H × List MemPlace} (h : plainElem Try.prog 4 v = some z) : ∃ x, v = .bool x ∧ z = (.lit (.bool x), []) := by
  unfold plainElem at h
  rw [Try.underlying4] at h
  cases v <;> simp at h
  subst h
  exact ⟨_, rfl, rfl⟩

theorem zero4 (w : World) : (zeroValue 4).run Try.prog w = .ok (.bool false) w := by kernel_rfl

/-- 'named[s]', s among the names: true. -/
theorem look31 {H : Type} {w : World} {b n : Nat} {D : DataW H} {s : ByteArray} (hown : w.ownsMap Try.prog 9 (plainElem Try.prog 4) b n D) (hs : s.size ≤ maxLen)
    (hat : D.atKey (.string s.data.toList) (.lit (.bool false)) = .lit (.bool true)) : (Instr.lookup 31 (.map (some b)) (.string s) false).run Try.prog w = .ok (.bool true) w := by
  obtain ⟨v, ps, hrun, hv⟩ := hown.lookup law9 Try.underlying31 (zero4 w) (plainElem_bool Try.underlying4 false) (WideMaps.keyOf_string_mk Try.underlying9 hs)
  rw [hat] at hv
  obtain ⟨x, rfl, hx⟩ := plainElem_bool_inv hv
  simp at hx
  rw [hrun, hx.1]

/-- A ROW OF STRINGS that a slice value leads to; from block 'base' on. -/
def Row (w : World) (base : Nat) (v : Value) (L : List (List UInt8)) : Prop :=
  (v = .slice none 0 0 ∧ L = []) ∨
  ∃ g cap, v = .slice (some ⟨g, 0, none⟩) L.length cap ∧ base ≤ g ∧ g < w.heap.size ∧ ∀ i, i < L.length → w.cell? ⟨g, i, none⟩ = some (.string ⟨(L.getD i []).toArray⟩)

theorem row_of_owns {w : World} {base : Nat} {v : Value} {L : List (List UInt8)} (h : w.ownsRow base 9 1 v L.length (L.map encStr)) : Row w base v L := by
  rcases h.2 with ⟨hv, hn⟩ | ⟨g, cap, cur, rfl, hb, hg, h1, h2, h3, h4⟩
  · exact .inl ⟨hv, List.length_eq_zero_iff.1 hn⟩
  · refine .inr ⟨g, cap, rfl, hb, (Array.getElem?_eq_some_iff.1 hg).1, fun i hi => ?_⟩
    rw [h.cellAt i (by omega)]
    simp [List.getD, hi]

theorem Row.below {w w' : World} {base : Nat} {v : Value} {L : List (List UInt8)} (h : Row w base v L) {B : Nat} (hb : Below B w w') (hB : w.heap.size ≤ B) : Row w' base v L := by
  rcases h with h | ⟨g, cap, hv, h1, h2, h3⟩
  · exact .inl h
  · exact .inr ⟨g, cap, hv, h1, Nat.lt_of_lt_of_le h2 hb.size, fun i hi => (hb.cell (p := ⟨g, i, none⟩) (by show g < B; omega)).trans (h3 i hi)⟩

theorem Pairs.below {w w' : World} {b off len : Nat} {N T : Nat → ByteArray} (h : Pairs w b off len N T) {B : Nat} (hb : Below B w w') (hB : b < B) : Pairs w' b off len N T := fun i hi => by
  obtain ⟨h1, h2, h3, h4⟩ := h i hi
  exact ⟨(hb.cell (p := ⟨b, off + i * 2, none⟩) hB).trans h1, (hb.cell (p := ⟨b, off + i * 2 + 1, none⟩) hB).trans h2, h3, h4⟩

/-- A map below stays what it is. -/
theorem owns_below {H : Type} {w w' : World} {R : Value → Option (DataW H × List MemPlace)} {b n : Nat} {D : DataW H} (h : w.ownsMap Try.prog 9 R b n D) {B : Nat} (hb : Below B w w') (hB : b < B) : w'.ownsMap Try.prog 9 R b n D := by
  obtain ⟨es, clock, h1, r⟩ := h
  exact ⟨es, clock, (hb.block b hB).trans h1, r⟩

/-- THE PAIRS at whatever address (of an empty slice nothing is known of it). -/
def PairsAt (w : World) (x : Addr) (len : Nat) (N T : Nat → ByteArray) : Prop := len = 0 ∨ ∃ b off, x = ⟨b, off, none⟩ ∧ b < w.heap.size ∧ Pairs w b off len N T

theorem bytes5_at (x : Addr) (len cap : Nat) (N T : Nat → ByteArray) (w : World) (hlen : len ≤ maxLen) (hp : PairsAt w x len N T) :
    Calls Try.prog 5 #[.slice (some x) len cap] w fun e w' => SomeBool e ∧ w' = w := by
  rcases hp with rfl | ⟨b, off, rfl, _, hp⟩
  · exact bytes5_none _ _ _
  · exact bytes5 b off len cap N T w hlen hp

theorem causes6_at (x : Addr) (len cap : Nat) (N T : Nat → ByteArray) (w : World) (hlen : len ≤ maxLen) (hp : PairsAt w x len N T) :
    Calls Try.prog 6 #[.slice (some x) len cap] w fun e w' => SomeInt e ∧ PairsAt w' x len N T ∧ Below w.heap.size w w' := by
  have fin : ∀ (e : Ending) (w' : World), (SomeInt e ∧ ∃ q, w' = w.drewN q) → SomeInt e ∧ PairsAt w' x len N T ∧ Below w.heap.size w w' := by
    rintro e w' ⟨h1, q, rfl⟩
    exact ⟨h1, hp, rfl, rfl, rfl, Nat.le_refl _, fun _ _ => rfl⟩
  have hp' := hp
  rcases hp' with rfl | ⟨b, off, rfl, _, hp'⟩
  · exact (causes6_none _ _ _).mono fin
  · exact (causes6 b off len cap N T w hlen hp').mono fin

theorem clone7_at (x : Addr) (len cap : Nat) (N T : Nat → ByteArray) (w : World) (hlen : len ≤ 4096) (hp : PairsAt w x len N T) :
    Calls Try.prog 7 #[.slice (some x) len cap] w fun e w' => ∃ g, e = .returned (.slice (some ⟨g, 0, none⟩) len len) ∧ g < w'.heap.size ∧ Pairs w' g 0 len N T ∧ Below w.heap.size w w' := by
  rcases hp with rfl | ⟨b, off, rfl, hb, hp⟩
  · exact (clone7_zero x cap w).mono fun e w' ⟨h1, h2, h3⟩ => ⟨_, h1, h3, fun i hi => absurd hi (Nat.not_lt_zero _), h2⟩
  · exact (clone7 b off len cap N T w hlen hb hp).mono fun e w' ⟨h1, h2, h3, h4⟩ => ⟨_, h1, h4, h2, h3⟩

theorem dep8_at {H : Type} (g len cap : Nat) (N T : Nat → ByteArray) (w : World) (hlen : len ≤ 4096) (hb : g < w.heap.size) (hp : Pairs w g 0 len N T) :
    Calls Try.prog 8 #[.slice (some ⟨g, 0, none⟩) len cap] w fun e w' => ∃ m, e = .returned (.map (some m)) ∧ w.heap.size ≤ m ∧ w'.ownsMap Try.prog 9 (plainElem Try.prog 35) m len (depD (H := H) N T len) ∧ Below w.heap.size w w' :=
  (dep8 g 0 len cap N T w hlen hb hp).mono fun _ _ ⟨h1, h2, h3⟩ => ⟨_, h1, Nat.le_refl _, h2, h3⟩

/-- 'causes', the slice's shape written out. -/
theorem causes9_row {H : Type} (b nn : Nat) (D0 : DataW H) (R : Value → Option (DataW H × List MemPlace)) (w : World) (hown : w.ownsMap Try.prog 9 R b nn D0) (hmax : Maps.size D0 ≤ 5000) :
    Calls Try.prog 9 #[.map (some b)] w fun e w' => ∃ (v : Value) (L : List (List UInt8)), e = .returned v ∧ Sorted (fun x => has D0 (.string x) = true) L ∧ L.length = Maps.size D0 ∧
      Row w' w.heap.size v L ∧ Below w.heap.size w w' :=
  (causes9 b nn D0 R w hown hmax).mono fun _ _ ⟨v, L, h1, h2, h3, h4, _, h6⟩ => ⟨v, L, h1, h2, h3, row_of_owns h4, h6⟩

/-- Two lists that rise strictly over one set are as long as one another; the map 'named' has as many entries. -/
theorem size_named {H : Type} {w w' : World} {R R' : Value → Option (DataW H × List MemPlace)} {m m' n n' len : Nat} (N T : Nat → ByteArray)
    (h : w.ownsMap Try.prog 9 R m n (depD (H := H) N T len)) (h' : w'.ownsMap Try.prog 9 R' m' n' (namD (H := H) N len)) : Maps.size (namD (H := H) N len) = Maps.size (depD (H := H) N T len) := by
  obtain ⟨a1, a2, a3⟩ := mem_strKeys h
  obtain ⟨b1, b2, b3⟩ := mem_strKeys h'
  rw [← a3, ← b3]
  exact ((List.perm_ext_iff_of_nodup b1 a1).2 fun x => by rw [a2, b2, has_depD, has_namD]).length_eq

theorem lt_of_sorted {L : List (List UInt8)} (h : L.Pairwise (fun x y => x < y)) {i j : Nat} (hij : i < j) (hj : j < L.length) : L.getD i [] < L.getD j [] := by
  rw [List.getD, List.getD, List.getElem?_eq_getElem hj, List.getElem?_eq_getElem (by omega)]
  exact List.pairwise_iff_getElem.1 h i j (by omega) hj hij

theorem bytesLess_dec : ∀ (x y : List UInt8), Op.bytesLess x y = decide (x < y)
  | [], [] => by simp [Op.bytesLess]
  | _ :: _, [] => by simp [Op.bytesLess]
  | [], _ :: _ => by simp [Op.bytesLess]
  | a :: x, b :: y => by
    rw [Op.bytesLess, bytesLess_dec x y]
    simp only [List.cons_lt_cons_iff]
    by_cases h1 : a < b <;> by_cases h2 : a = b <;> by_cases h3 : x < y <;> simp [h1, h2, h3]

theorem less_of_lt {x y : List UInt8} (h : x < y) : Op.bytesLess x y = true := by
  rw [bytesLess_dec]
  exact decide_eq_true h

end Go.Proofs.Qxb6604665a
