/-
  Seat b6602705a. THE STATEMENT 'Rows.FnPieceSetAddKeepsCountInvariantSaid' (the frame: the kit's shell, written for this statement).
-/
import Derived.Test.Qxb6602705aFacts10
import Derived.Test.Qxb6602705aLaw10
import Derived.Test.Qxb6602705aRows
import Derived.WalkKit
import Derived.ProofKit
import Derived.OpenShut
import Derived.ShutString
import Derived.ChangeOld
import Derived.Below
namespace Go.Proofs.Qxb6602705a.fnPieceSetAddKeepsCountInvariant
open Go.ChangeShapes Go.WideShapes Go.ChangeAt Go.RowKit
open Go.ChangeMaps (open_string shut_string)
set_option linter.unusedVariables false

theorem own : ownKnob Try.prog.godebug = none := by kernel_rfl
theorem laidOut : laidOutB Try.prog = true := by kernel_rfl

/-- WHAT THE WALK IS TOLD OF A SLICE OF INTEGERS THAT CAME IN: it is nil; or it leads to a row of 'cap' cells, the numbers 'zs' (the first 'len' are its elements, the rest its spare room), each fitting its kind. -/
def IsRow (k : IntKind) (w : World) (a : Option Addr) (len cap : Nat) (zs : List Int) : Prop :=
  (a = none ∧ len = 0 ∧ cap = 0 ∧ zs = []) ∨
  ∃ x, a = some x ∧ len ≤ cap ∧ cap ≤ maxLen ∧ zs.length = cap ∧ (∀ i, i < zs.length → w.cell? (x.add i) = some (.int k (zs.getD i 0))) ∧ ∀ n ∈ zs, (Lit.int k n).wf = true

/-- The numbers as words. -/
theorem words_of {w : World} {b off len cap : Nat} {zs : List Int} (hz : zs.length = cap) (hl : len ≤ cap) (hc : ∀ j, j < zs.length → w.cell? ⟨b, off + j, none⟩ = some (.int .u64 (zs.getD j 0))) (hwf : ∀ n ∈ zs, (Lit.int .u64 n).wf = true) :
    Wds w b off len (fun k => (zs.getD k 0).toNat) := by
  intro k hk
  have hmem : zs.getD k 0 ∈ zs := by rw [List.getD, List.getElem?_eq_getElem (by omega)]; exact List.getElem_mem _
  obtain ⟨b0, b1⟩ := bounds_u64 (hwf _ hmem)
  have e : (((zs.getD k 0).toNat : Nat) : Int) = zs.getD k 0 := by omega
  refine ⟨?_, by show (zs.getD k 0).toNat < _; omega⟩
  show _ = some (Value.int .u64 (((zs.getD k 0).toNat : Nat) : Int))
  rw [e]
  exact hc k (by omega)

theorem walk (a0 : Option Addr) (len0 cap0 : Nat) (z0 : List Int) (a1 : Int) (a2 : Int) (a3 : Int) (w : World) (w0 : IsRow .u64 w a0 len0 cap0 z0) (w1 : (Lit.int .i64 a1).wf = true) (w2 : (Lit.int .i64 a2).wf = true) (w3 : (Lit.int .i64 a3).wf = true) :
    Calls Try.prog 10 #[.slice a0 len0 cap0, .int .i64 a1, .int .i64 a2, .int .i64 a3] w fun e w' => e = .returned (.bool true) ∧ Below w.heap.size w w' := by
  have hlen : len0 ≤ maxLen := by
    rcases w0 with ⟨_, h, _⟩ | ⟨x, _, h1, h2, _⟩
    · rw [h]; exact Nat.zero_le _
    · exact Nat.le_trans h1 h2
  have hi : a3 ≤ 9223372036854775807 := (bounds_i64 w3).2
  by_cases hfar : 65536 < (len0 : Int) ∨ (¬ 65536 < (len0 : Int) ∧ a3 < 0) ∨ (¬ 65536 < (len0 : Int) ∧ 0 ≤ a3 ∧ (len0 : Int) ≤ a3 / 64)
  · exact law10_far a0 len0 cap0 a1 a2 a3 w hlen hi hfar
  · have h1 : (len0 : Int) ≤ 65536 := by omega
    have h2 : 0 ≤ a3 := by omega
    have h3 : a3 / 64 < (len0 : Int) := by omega
    obtain ⟨j, rfl⟩ := Int.eq_ofNat_of_zero_le h2
    have hj : j / 64 < len0 := by omega
    rcases w0 with ⟨_, h, _⟩ | ⟨x, rfl, hl, hm, hz, hcell, hwf⟩
    · omega
    · obtain ⟨b, off, rfl, hc⟩ := ints_at hcell (by omega)
      have hb0 : b < w.heap.size := block_lt_of_cell (a := ⟨b, off + 0, none⟩) (hc 0 (by omega))
      have hw : Wds w b off len0 (fun k => (z0.getD k 0).toNat) := words_of hz hl hc hwf
      by_cases hd : a2 = (tot (fun k => (z0.getD k 0).toNat) len0 : Int)
      · subst hd
        cases hbit : ((fun k => (z0.getD k 0).toNat) (j / 64)).testBit (j % 64)
        · exact law10_new b off len0 cap0 j a1 _ w h1 hb0 hw hj hbit
        · exact law10_old b off len0 cap0 j a1 _ w h1 hb0 hw hj hbit
      · exact law10_diff b off len0 cap0 j a1 a2 _ w h1 hw hj hd


set_option maxRecDepth 100000 in
theorem lifted (os : Os) (started : os.Started) (H : Type) (enc : TypeId × Value → H) :
    ReturnsInHanded {} Try.checked os 10 .any (Rows.fnPieceSetAddKeepsCountInvariantSpec.pre6 enc Try.prog Try.f10 Rows.fnPieceSetAddKeepsCountInvariantRow.domain false) (Rows.fnPieceSetAddKeepsCountInvariantSpec.post enc Try.prog Try.f10 false true false false) := by
  refine returnsInHanded_of_change (C := Try.checked) own started (by kernel_rfl) Try.func10
    (ChangeSpec.witness6 (enc := enc) (C := Try.checked) false ⟨#[], #[.slice none 0 0, .int .i64 0, .int .i64 0, .int .i64 0], []⟩ 8 (by kernel_rfl) (by kernel_rfl) (by kernel_rfl) (by kernel_rfl)) ?_
  intro W base args ds gs before hval0 hW hcnd _
  have hval : ∀ (j : Nat) t v, Try.f10.params[j]? = some t → args[j]? = some v → Value.okWide Try.prog W .any base t v := hval0
  have hW' := hW
  obtain ⟨p, q, hA0, hV, rfl, hfz, hnd⟩ := hW
  have hA : DataW.TrodAll enc Try.prog W 0 (fun _ => true) true Try.f10.params.toList args.toList ds p := hA0
  rw [Try.params10] at hA hval
  obtain ⟨v0, vs0, d0, ds0, p0, q0, hargs, rfl, rfl, h0, r0⟩ := trodAll_cons hA
  obtain ⟨v1, vs1, d1, ds1, p1, q1, rfl, rfl, rfl, h1, r1⟩ := trodAll_cons r0
  obtain ⟨v2, vs2, d2, ds2, p2, q2, rfl, rfl, rfl, h2, r2⟩ := trodAll_cons r1
  obtain ⟨v3, vs3, d3, ds3, p3, q3, rfl, rfl, rfl, h3, r3⟩ := trodAll_cons r2
  obtain ⟨rfl, rfl, rfl⟩ := trodAll_nil r3
  obtain rfl : args = #[v0, v1, v2, v3] := by cases args; simp_all
  obtain ⟨rfl, rfl⟩ := trodVars_none hV
  obtain ⟨a0, len0, cap0, rfl⟩ := okWide_slice Try.underlying23 (hval 0 23 v0 rfl rfl)
  have k0 := h0
  have lt0 : ∀ x ∈ p0, x.block < W.heap.size := by obtain ⟨m, hm⟩ := k0; exact DataW.trod_lt m _ _ _ hm
  obtain ⟨z0, w0⟩ : ∃ zs, IsRow .u64 W a0 len0 cap0 zs := by
    obtain ⟨fuel, hf⟩ := h0
    rcases open_ints Try.underlying23 Try.underlying30 (by kernel_rfl) hf with ⟨hcs, _⟩ | ⟨x, l, c, zs, hcs, _, hl, hm, hz, _, hcell, hwz⟩
    · simp [Value.cells] at hcs
      obtain ⟨rfl, rfl, rfl⟩ := hcs
      exact ⟨[], .inl ⟨rfl, rfl, rfl, rfl⟩⟩
    · simp [Value.cells] at hcs
      obtain ⟨rfl, rfl, rfl⟩ := hcs
      exact ⟨zs, .inr ⟨_, rfl, hl, hm, by simpa using hz, hcell, hwz⟩⟩
  obtain ⟨a1, rfl, rfl, rfl, w1⟩ := open_int Try.underlying3 (hval 1 3 v1 rfl rfl) h1
  obtain ⟨a2, rfl, rfl, rfl, w2⟩ := open_int Try.underlying3 (hval 2 3 v2 rfl rfl) h2
  obtain ⟨a3, rfl, rfl, rfl, w3⟩ := open_int Try.underlying3 (hval 3 3 v3 rfl rfl) h3
  clear hA0 hval0
  refine (walk a0 len0 cap0 z0 a1 a2 a3 W w0 w1 w2 w3).mono fun e W' ⟨he, bel⟩ => ?_
  subst he
  exact ⟨_, rfl, _, _, _, [], _, [], hW', trodAll_mk1 (shut_bool Try.underlying4 _), (trodAll_cons_mk (Below.trod laidOut (by kernel_rfl) (of_decide_eq_true (by kernel_rfl)) k0 bel lt0) (trodAll_cons_mk (shut_int Try.underlying3 w1) (trodAll_cons_mk (shut_int Try.underlying3 w2) (trodAll_cons_mk (shut_int Try.underlying3 w3) trodAll_mk0)))), rfl, bel.frame _, fun h => by cases h⟩

theorem over : Rows.fnPieceSetAddKeepsCountInvariantRow.holds Try.pinned (OpenSpec.ofChange Rows.fnPieceSetAddKeepsCountInvariantSpec) :=
  OpenClaim.holds_of_wide 10 Try.f10 rfl rfl rfl rfl rfl rfl rfl ⟨rfl, rfl, rfl, rfl, rfl⟩ rfl rfl rfl rfl rfl named Try.func10 closed instanced wrapped
    (fun os started H enc _ => lifted os started H enc)

/-- THE STATEMENT -/
theorem proved : Rows.FnPieceSetAddKeepsCountInvariantSaid := over
end Go.Proofs.Qxb6602705a.fnPieceSetAddKeepsCountInvariant

namespace Go.Proofs.Qxb6602705a
theorem provedAddKeepsCount : Rows.FnPieceSetAddKeepsCountInvariantSaid := fnPieceSetAddKeepsCountInvariant.proved
end Go.Proofs.Qxb6602705a
