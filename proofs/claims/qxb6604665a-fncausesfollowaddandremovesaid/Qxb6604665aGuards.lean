/-
  Seat b6604665a. THE TWO GUARDS over 'pairs': zzBytes_.. (function 5) and zzCausesBytes (function 6): each returns, whatever the pairs; nothing is written.
-/
import Derived.Test.Qxb6604665aRows
import Derived.WalkKit
import Derived.WalkSpells
import Derived.WalkLawsBesides
import Derived.Deep.QuietTactic
import Derived.BigQuiet
namespace Go.Proofs.Qxb6604665a
open Go.RowKit

/-- WHAT A WALK IS TOLD OF THE PAIRS: element i lies in the two cells at 'off + i * 2' of block b. -/
def Pairs (w : World) (b off len : Nat) (N T : Nat → ByteArray) : Prop :=
  ∀ i, i < len → w.cell? ⟨b, off + i * 2, none⟩ = some (.string (N i)) ∧ w.cell? ⟨b, off + i * 2 + 1, none⟩ = some (.string (T i)) ∧ (N i).size ≤ maxLen ∧ (T i).size ≤ maxLen

/-- Some bool comes back. -/
def SomeBool (e : Ending) : Prop := ∃ r : Bool, e = .returned (.bool r)
/-- Some int comes back. -/
def SomeInt (e : Ending) : Prop := ∃ n : Int, e = .returned (.int .i64 n)

set_option maxHeartbeats 1000000 in
set_option maxRecDepth 100000 in
theorem bytes5 (b off len cap : Nat) (N T : Nat → ByteArray) (w : World) (hlen : len ≤ maxLen) (hp : Pairs w b off len N T) :
    Calls Try.prog 5 #[.slice (some ⟨b, off, none⟩) len cap] w fun e w' => SomeBool e ∧ w' = w := by
  unfold maxLen at hlen
  by_cases h0 : (len : Int) ≤ 1048576
  · go_enter Try.func5, Try.ntmps5
    go_wp2
    go_loop [3, 4] (fun z i => ∃ k : Nat, k ≤ len ∧ i = .int .i64 k ∧ ∃ n : Int, 0 ≤ n ∧ n ≤ 1048576 ∧ z = .int .i64 n) (fun _ i => len - (intOf i).toNat)
    case atStart => exact ⟨0, Nat.zero_le _, rfl, len, by omega, by omega, rfl⟩
    case round =>
      obtain ⟨k, hk, rfl, n, hn0, hn1, rfl⟩ := hrel
      by_cases hlt : k < len
      · obtain ⟨h1, h2, h3, h4⟩ := hp k hlt
        unfold maxLen at h3 h4
        go_wp2
        · go_ret; exact ⟨⟨_, rfl⟩, rfl⟩
        · go_ret; exact ⟨⟨_, rfl⟩, rfl⟩
        · go_ret; exact ⟨⟨_, rfl⟩, rfl⟩
        · go_ret; exact ⟨⟨_, rfl⟩, rfl⟩
        · go_round
          case rel => exact ⟨k + 1, by omega, by go_num, _, by omega, by omega, rfl⟩
          case measure => simp [intOf]; omega
      · go_wp2
        go_ret
        exact ⟨⟨_, rfl⟩, rfl⟩
  · have h0' : (1048576 : Int) < len := by omega
    go_enter Try.func5, Try.ntmps5
    go_wp2
    go_ret
    exact ⟨⟨_, rfl⟩, rfl⟩

set_option maxHeartbeats 1000000 in
set_option maxRecDepth 100000 in
theorem bytes5_none (a : Option Addr) (cap : Nat) (w : World) :
    Calls Try.prog 5 #[.slice a 0 cap] w fun e w' => SomeBool e ∧ w' = w := by
  go_enter Try.func5, Try.ntmps5
  go_wp2
  refine wp_loop_rounds 1 ?_
  rw [rounds_succ]
  go_wp2
  go_ret
  exact ⟨⟨_, rfl⟩, rfl⟩

set_option maxHeartbeats 1000000 in
set_option maxRecDepth 100000 in
theorem causes6 (b off len cap : Nat) (N T : Nat → ByteArray) (w : World) (hlen : len ≤ maxLen) (hp : Pairs w b off len N T) :
    Calls Try.prog 6 #[.slice (some ⟨b, off, none⟩) len cap] w fun e w' => SomeInt e ∧ ∃ q, w' = w.drewN q := by
  unfold maxLen at hlen
  go_enter Try.func6, Try.ntmps6
  go_wp2
  go_loopw [3, 4] (fun z i wr => ∃ k : Nat, k ≤ len ∧ i = .int .i64 k ∧ (∃ n : Int, z = .int .i64 n) ∧ ∃ q, wr = w.drewN q) (fun _ i _ => len - (intOf i).toNat)
  case atStart => exact ⟨0, Nat.zero_le _, rfl, ⟨_, rfl⟩, 0, rfl⟩
  case round =>
    obtain ⟨k, hk, rfl, ⟨n, rfl⟩, q, rfl⟩ := hrel
    by_cases hlt : k < len
    · obtain ⟨h1, h2, h3, h4⟩ := hp k hlt
      unfold maxLen at h3 h4
      have hlt' : (k : Int) < (len : Int) := by omega
      go_wp2
      go_quiet (fail)
      go_wp2
      · go_ret
        exact ⟨⟨_, rfl⟩, q + nq, rfl⟩
      · go_roundw
        case rel => exact ⟨k + 1, by omega, by go_num, ⟨_, rfl⟩, q + nq, rfl⟩
        case measure => simp [intOf]; omega
    · go_wp2
      go_ret
      exact ⟨⟨_, rfl⟩, q, rfl⟩

set_option maxHeartbeats 1000000 in
set_option maxRecDepth 100000 in
theorem causes6_none (a : Option Addr) (cap : Nat) (w : World) :
    Calls Try.prog 6 #[.slice a 0 cap] w fun e w' => SomeInt e ∧ ∃ q, w' = w.drewN q := by
  go_enter Try.func6, Try.ntmps6
  go_wp2
  refine wp_loop_rounds 1 ?_
  rw [rounds_succ]
  go_wp2
  go_ret
  exact ⟨⟨_, rfl⟩, 0, rfl⟩

end Go.Proofs.Qxb6604665a
