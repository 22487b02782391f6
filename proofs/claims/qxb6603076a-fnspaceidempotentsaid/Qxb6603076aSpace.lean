/-
  Seat b6603076a. (*jsonReader).space (19).
-/
import Derived.Test.Qxb6603076aRows
import Derived.WalkKit
import Derived.WalkSpells
import Derived.WalkLawsBesides
import Derived.Deep.QuietTactic
import Derived.BigQuiet
import Derived.Deep.OwnRows
import Derived.Deep.LoopGhost
namespace Go.Proofs.Qxb6603076a
open Go.RowKit

/-- The four bytes that space passes. -/
def spaceB (x : Int) : Bool := x == 32 || x == 9 || x == 10 || x == 13
/-- Space moves nowhere from here. -/
def Stop (X : Nat → Int) (n p : Nat) : Prop := p < n → spaceB (X p) = false

/-- The reader's three fields. -/
abbrev rd (g n cap : Nat) (p d : Int) : Array Value := #[.slice (some ⟨g, 0, none⟩) n cap, .int .i64 p, .int .i64 d]

def Nums (w : World) (b off n : Nat) (X : Nat → Int) : Prop := ∀ k, k < n → w.cell? ⟨b, off + k, none⟩ = some (.int .u8 (X k))

theorem grown_drew1 {w w' : World} {row : Option Nat} (h : w.grownBy w' row) (q : Nat) : w.grownBy (w'.drewN q) row := ⟨h.os, h.tape, h.output, h.size, h.block⟩
theorem grown_set {w w' : World} {s : Nat} (h : w.grownBy w' (some s)) (q : Nat) (v : Value) : w.grownBy ((w'.drewN q).setCell ⟨s, 1, none⟩ v) (some s) := by
  refine ⟨h.os, h.tape, h.output, by simpa [World.setCell] using h.size, fun k hk hne => ?_⟩
  rw [heap_setCell_other _ _ _ _ (fun e => hne (by rw [e]))]
  exact h.block k hk hne
theorem next_heap {w : World} {s g n cap k : Nat} {d : Int} (h : w.heap[s]? = some (.cells (rd g n cap k d) 40 (0, 0))) (q : Nat) :
    ((w.drewN q).setCell ⟨s, 1, none⟩ (.int .i64 ((k : Int) + 1))).heap[s]? = some (.cells (rd g n cap ((k + 1 : Nat) : Int) d) 40 (0, 0)) := by
  have h1 := heap_setCell_same (w.drewN q) s 1 (rd g n cap k d) 40 (.int .i64 ((k : Int) + 1)) h
  rw [h1]
  rfl
theorem not_stop {X : Nat → Int} {n k p : Nat} {y : Int} (hlt : k < n) (hy : y = X k) (hs : spaceB y = true) (e : k = p) : ¬ Stop X n p := fun h => by
  subst e
  have := h hlt
  rw [← hy, hs] at this
  cases this

set_option maxHeartbeats 2000000 in
set_option maxRecDepth 100000 in
theorem space19 (s g n cap p : Nat) (d : Int) (X : Nat → Int) (w : World) (hn : n ≤ 1048576) (hsg : g ≠ s) (hs : w.heap[s]? = some (.cells (rd g n cap p d) 40 (0, 0))) (hx : Nums w g 0 n X) :
    Calls Try.prog 19 #[.pointer (some ⟨s, 0, none⟩)] w fun e w' => e = .returned (.tuple #[]) ∧ ∃ p2 : Nat, p ≤ p2 ∧ Stop X n p2 ∧ (Stop X n p → p2 = p) ∧ w'.heap[s]? = some (.cells (rd g n cap p2 d) 40 (0, 0)) ∧ w.grownBy w' (some s) := by
  have HX : Hid (Nums w g 0 n X) := hx
  have HS : Hid (w.heap[s]? = some (.cells (rd g n cap p d) 40 (0, 0))) := hs
  clear hx hs
  go_enter Try.func19, Try.ntmps19
  go_wp2
  go_loopg [2] (n + 1 - p) (fun gk _ wr => ∃ k : Nat, p ≤ k ∧ gk = n + 1 - k ∧ (Stop X n p → k = p) ∧ wr.heap[s]? = some (.cells (rd g n cap k d) 40 (0, 0)) ∧ w.grownBy wr (some s))
  case atStart => exact ⟨p, Nat.le_refl _, rfl, fun _ => rfl, HS.out, World.grownBy.refl _ _⟩
  case round =>
    obtain ⟨k, hk, hgk, hstop, hcs, hgr⟩ := hrel
    have c0 : wr.cell? ⟨s, 0, none⟩ = some (.slice (some ⟨g, 0, none⟩) n cap) := (cell_of_row wr _ _ _ _ _ hcs).trans rfl
    have c1 : wr.cell? ⟨s, 1, none⟩ = some (.int .i64 (k : Int)) := (cell_of_row wr _ _ _ _ _ hcs).trans rfl
    have f1 := frozen_of_row wr s 1 _ _ hcs
    have HC : Hid (wr.heap[s]? = some (.cells (rd g n cap k d) 40 (0, 0))) := hcs
    have HK : Hid (gk = n + 1 - k ∧ (Stop X n p → k = p)) := ⟨hgk, hstop⟩
    clear hcs hgk hstop
    by_cases hlt : k < n
    · have hlt' : (k : Int) < (n : Int) := by omega
      have hx := hgr.cell (HX.out k hlt) (fun e => hsg (by simpa using e))
      rw [Nat.zero_add] at hx
      obtain ⟨y, hy⟩ : ∃ y, y = X k := ⟨_, rfl⟩
      rw [← hy] at hx
      have HY : Hid (y = X k) := hy
      clear hy
      by_cases e1 : y = 32
      · have q1 : (y == 32) = true := beq_iff_eq.2 e1
        have hsp : spaceB y = true := by unfold spaceB; rw [q1]; rfl
        have HP : Hid (spaceB y = true) := hsp
        clear hsp e1
        go_wp2
        go_quiet (fail)
        go_wp2
        go_quiet (fail)
        go_wp2
        go_roundg (n + 1 - (k + 1))
        case measure => have := HK.out.1; omega
        case rel => exact ⟨k + 1, by omega, rfl, fun hst => absurd hst (not_stop hlt HY.out HP.out (HK.out.2 hst)), next_heap HC.out _, grown_set hgr _ _⟩
      · have q1 : (y == 32) = false := beq_eq_false_iff_ne.2 e1
        by_cases e2 : y = 9
        · have q2 : (y == 9) = true := beq_iff_eq.2 e2
          have hsp : spaceB y = true := by unfold spaceB; rw [q1, q2]; rfl
          have HP : Hid (spaceB y = true) := hsp
          clear hsp e1 e2
          go_wp2
          go_quiet (fail)
          go_wp2
          go_quiet (fail)
          go_wp2
          go_roundg (n + 1 - (k + 1))
          case measure => have := HK.out.1; omega
          case rel => exact ⟨k + 1, by omega, rfl, fun hst => absurd hst (not_stop hlt HY.out HP.out (HK.out.2 hst)), next_heap HC.out _, grown_set hgr _ _⟩
        · have q2 : (y == 9) = false := beq_eq_false_iff_ne.2 e2
          by_cases e3 : y = 10
          · have q3 : (y == 10) = true := beq_iff_eq.2 e3
            have hsp : spaceB y = true := by unfold spaceB; rw [q1, q2, q3]; rfl
            have HP : Hid (spaceB y = true) := hsp
            clear hsp e1 e2 e3
            go_wp2
            go_quiet (fail)
            go_wp2
            go_quiet (fail)
            go_wp2
            go_roundg (n + 1 - (k + 1))
            case measure => have := HK.out.1; omega
            case rel => exact ⟨k + 1, by omega, rfl, fun hst => absurd hst (not_stop hlt HY.out HP.out (HK.out.2 hst)), next_heap HC.out _, grown_set hgr _ _⟩
          · have q3 : (y == 10) = false := beq_eq_false_iff_ne.2 e3
            by_cases e4 : y = 13
            · have q4 : (y == 13) = true := beq_iff_eq.2 e4
              have hsp : spaceB y = true := by unfold spaceB; rw [q1, q2, q3, q4]; rfl
              have HP : Hid (spaceB y = true) := hsp
              clear hsp e1 e2 e3 e4
              go_wp2
              go_quiet (fail)
              go_wp2
              go_quiet (fail)
              go_wp2
              go_roundg (n + 1 - (k + 1))
              case measure => have := HK.out.1; omega
              case rel => exact ⟨k + 1, by omega, rfl, fun hst => absurd hst (not_stop hlt HY.out HP.out (HK.out.2 hst)), next_heap HC.out _, grown_set hgr _ _⟩
            · have q4 : (y == 13) = false := beq_eq_false_iff_ne.2 e4
              have hst : Stop X n k := fun _ => by rw [← HY.out]; unfold spaceB; rw [q1, q2, q3, q4]; rfl
              have HT : Hid (Stop X n k) := hst
              clear hst e1 e2 e3 e4
              go_wp2
              go_quiet (fail)
              go_wp2
              go_quiet (fail)
              go_wp2
              exact bodyPost_ret (results_none rfl _ _ _) rfl ⟨rfl, k, hk, HT.out, HK.out.2, HC.out, grown_drew1 hgr _⟩
    · have hlt' : ¬ (k : Int) < (n : Int) := by omega
      have hst : Stop X n k := fun h => absurd h hlt
      go_wp2
      go_quiet (fail)
      go_wp2
      go_end0
      exact ⟨rfl, k, hk, hst, HK.out.2, HC.out, grown_drew1 hgr _⟩

set_option maxHeartbeats 2000000 in
set_option maxRecDepth 100000 in
/-- An empty text: space moves nowhere. -/
theorem space19_none (s : Nat) (a : Option Addr) (cap : Nat) (p d : Int) (w : World) (h0 : 0 ≤ p) (hs : w.heap[s]? = some (.cells #[.slice a 0 cap, .int .i64 p, .int .i64 d] 40 (0, 0))) :
    Calls Try.prog 19 #[.pointer (some ⟨s, 0, none⟩)] w fun e w' => e = .returned (.tuple #[]) ∧ ∃ q, w' = w.drewN q := by
  have c0 : w.cell? ⟨s, 0, none⟩ = some (.slice a 0 cap) := (cell_of_row w _ _ _ _ _ hs).trans rfl
  have c1 : w.cell? ⟨s, 1, none⟩ = some (.int .i64 p) := (cell_of_row w _ _ _ _ _ hs).trans rfl
  have hp : ¬ p < 0 := by omega
  clear hs
  go_enter Try.func19, Try.ntmps19
  go_wp2
  refine wp_loop_rounds 1 ?_
  rw [rounds_succ]
  go_wp2
  go_quiet (fail)
  go_wp2
  go_end0
  exact ⟨rfl, _, rfl⟩

end Go.Proofs.Qxb6603076a
