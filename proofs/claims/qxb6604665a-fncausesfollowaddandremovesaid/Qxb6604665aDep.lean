/-
  Seat b6604665a. zzDeparture (function 8): the map that the pairs describe.
-/
import Derived.Test.Qxb6604665aClone
import Derived.Maps.OwnSet
import Derived.RegionTactic
import Derived.ChangeAlike
namespace Go.Proofs.Qxb6604665a
open Go.RowKit Go.Maps Go.WideMaps

/-- The map behind k rounds. -/
def depD {H : Type} (N T : Nat → ByteArray) : Nat → DataW H
  | 0 => .map []
  | k + 1 => (depD N T k).put (.string (N k).data.toList) (.lit (.string (T k).data.toList))

theorem law9 : Keyed Try.prog 9 := string_keyed Try.underlying9

set_option maxHeartbeats 1000000 in
set_option maxRecDepth 100000 in
theorem dep8 {H : Type} (b off len cap : Nat) (N T : Nat → ByteArray) (w : World) (hlen : len ≤ 4096) (hb : b < w.heap.size) (hp : Pairs w b off len N T) :
    Calls Try.prog 8 #[.slice (some ⟨b, off, none⟩) len cap] w fun e w' => e = .returned (.map (some w.heap.size)) ∧ w'.ownsMap Try.prog 9 (plainElem Try.prog 35) w.heap.size len (depD (H := H) N T len) ∧ Below w.heap.size w w' := by
  have hq := eq22
  have hmm := @run_makeMap Try.prog
  go_enter Try.func8, Try.ntmps8
  go_wp2
  go_loopw [4] (fun i wr => ∃ k : Nat, k ≤ len ∧ i = .int .i64 k ∧ wr.ownsMap Try.prog 9 (plainElem Try.prog 35) w.heap.size k (depD (H := H) N T k) ∧ Below w.heap.size w wr) (fun i _ => len - (intOf i).toNat)
  case atStart => exact ⟨0, Nat.zero_le _, rfl, World.ownsMap_made _ _ _ _, (Below.refl _ _).alloc (Nat.le_refl _) _⟩
  case round =>
    obtain ⟨k, hk, rfl, hown, hnx⟩ := hrel
    by_cases hlt : k < len
    · obtain ⟨h1, h2, h3, h4⟩ := hp k hlt
      have g1 := (hnx.cell (p := ⟨b, off + k * 2, none⟩) hb).trans h1
      have g2 := (hnx.cell (p := ⟨b, off + k * 2 + 1, none⟩) hb).trans h2
      clear h1 h2
      have hlt' : (k : Int) < (len : Int) := by omega
      obtain ⟨w1, hrun, hown1, hgrow1⟩ := hown.drew.update law9 Try.underlying27 (by unfold maxLen; omega) (keyOf_string_mk Try.underlying9 h3) (plainElem_string Try.underlying35 h4)
      go_wp2
      go_region
      go_wp2
      go_roundw
      case rel => exact ⟨k + 1, by omega, by go_num, hown1, (hnx.drew).grown hgrow1 hnx.size (fun j hj => by cases hj; exact Nat.le_refl _)⟩
      case measure => simp [intOf]; omega
    · have : k = len := by omega
      subst this
      go_wp2
      go_ret
      exact ⟨rfl, hown, hnx⟩

set_option maxHeartbeats 1000000 in
set_option maxRecDepth 100000 in
theorem dep8_zero {H : Type} (x : Addr) (cap : Nat) (w : World) (N T : Nat → ByteArray) :
    Calls Try.prog 8 #[.slice (some x) 0 cap] w fun e w' => e = .returned (.map (some w.heap.size)) ∧ w'.ownsMap Try.prog 9 (plainElem Try.prog 35) w.heap.size 0 (depD (H := H) N T 0) ∧ Below w.heap.size w w' := by
  have hq := eq22
  have hmm := @run_makeMap Try.prog
  go_enter Try.func8, Try.ntmps8
  go_wp2
  refine wp_loop_rounds 1 ?_
  rw [rounds_succ]
  go_wp2
  go_ret
  exact ⟨rfl, World.ownsMap_made _ _ _ _, (Below.refl _ _).alloc (Nat.le_refl _) _⟩

set_option maxHeartbeats 1000000 in
set_option maxRecDepth 100000 in
theorem dep8_nil (w : World) :
    Calls Try.prog 8 #[.slice none 0 0] w fun e w' => e = .returned (.map none) ∧ w' = w := by
  have hq := eq22
  go_enter Try.func8, Try.ntmps8
  go_wp2
  go_ret
  exact ⟨rfl, rfl⟩

end Go.Proofs.Qxb6604665a
