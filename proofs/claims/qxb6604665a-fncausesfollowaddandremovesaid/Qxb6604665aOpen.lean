/-
  Seat b6604665a. FROM THE FORM's READING of a '[]ZCause' to what the walks are told.
-/
import Derived.Test.Qxb6604665aRows
import Derived.Test.Qxb6604665aSets
import Derived.Deep.SlicePairs
import Derived.ProofKit
import Derived.OpenShut
import Derived.ShutString
import Derived.ChangeOld
import Derived.Below
namespace Go.Proofs.Qxb6604665a
open Go.ChangeShapes Go.WideShapes Go.ChangeAt Go.RowKit

theorem own : ownKnob Try.prog.godebug = none := by kernel_rfl
theorem laidOut : laidOutB Try.prog = true := by kernel_rfl
theorem cells33 : Try.prog.cellsOf 33 = 2 := by kernel_rfl
theorem cells9 : Try.prog.cellsOf 9 = 1 := by kernel_rfl

/-- THE ARGUMENT 'pairs': nil; or at an address, of so many pairs. -/
theorem pairs_open {H : Type} {enc : TypeId × Value → H} {W : World} {base : Nat} {spare : Nat → Bool} {held : Bool} {a : Option Addr} {len cap : Nat} {x : DataW H} {ps : List MemPlace}
    (h : DataW.Trod enc Try.prog W base spare held 22 (.slice a len cap) x ps) :
    (a = none ∧ len = 0 ∧ cap = 0) ∨ ∃ (y : Addr) (N T : Nat → ByteArray), a = some y ∧ len ≤ maxLen ∧ PairsAt W y len N T := by
  obtain ⟨fuel, hf⟩ := h
  rcases Go.Deep.open_slice_pairs Try.underlying22 Try.underlying33 cells33 rfl rfl cells9 cells9 hf with ⟨hcs, _⟩ | ⟨y, l, c, m, n, V0, V1, D0, D1, P0, P1, hcs, _, hl, hm, hmm, _, hx⟩
  · simp [Value.cells] at hcs
    obtain ⟨rfl, rfl, rfl⟩ := hcs
    exact .inl ⟨rfl, rfl, rfl⟩
  · simp [Value.cells] at hcs
    obtain ⟨rfl, rfl, rfl⟩ := hcs
    right
    have hlm : len ≤ m := by rw [hmm]; split <;> omega
    by_cases h0 : len = 0
    · exact ⟨y, fun _ => ByteArray.empty, fun _ => ByteArray.empty, rfl, by omega, .inl h0⟩
    have hN : ∀ i, i < len → ∃ p : ByteArray × ByteArray, V0 i = .string p.1 ∧ V1 i = .string p.2 ∧ p.1.size ≤ maxLen ∧ p.2.size ≤ maxLen := fun i hi => by
      obtain ⟨_, _, t0, t1⟩ := hx i (by omega)
      obtain ⟨s0, e0, _, z0⟩ := DataW.trod_string Try.underlying9 t0
      obtain ⟨s1, e1, _, z1⟩ := DataW.trod_string Try.underlying9 t1
      exact ⟨(s0, s1), by simpa using e0, by simpa using e1, z0, z1⟩
    have : Inhabited (ByteArray × ByteArray) := ⟨(ByteArray.empty, ByteArray.empty)⟩
    obtain ⟨p, hp⟩ := Go.Deep.choose_lt hN
    have hspot : ∃ b off, y = ⟨b, off, none⟩ := by
      obtain ⟨b, off, spot⟩ := y
      have hs : spot = none := by simpa [Addr.add] using World.cell?_spot (hx 0 (by omega)).1
      exact ⟨b, off, by rw [hs]⟩
    obtain ⟨b, off, rfl⟩ := hspot
    refine ⟨_, fun i => (p i).1, fun i => (p i).2, rfl, by omega, .inr ⟨b, off, rfl, ?_, fun i hi => ?_⟩⟩
    · exact block_lt_of_cell (a := (⟨b, off, none⟩ : Addr).add (0 * 2)) (hx 0 (by omega)).1
    · obtain ⟨c0, c1, _, _⟩ := hx i (by omega)
      obtain ⟨e0, e1, z0, z1⟩ := hp i hi
      rw [add_plain] at c0 c1
      rw [e0] at c0
      rw [e1] at c1
      exact ⟨c0, by rw [Nat.add_assoc]; exact c1, z0, z1⟩

end Go.Proofs.Qxb6604665a
