/-
  Seat b6602705a. THE CLOSED FACTS of the row of FnPieceSetAddKeepsCountInvariant, each a lemma of its own (so that the kernel gives its memory back behind each).
-/
import Derived.Test.Qxb6602705aHead
namespace Go.Proofs.Qxb6602705a.fnPieceSetAddKeepsCountInvariant

theorem lifted_at : (Rows.fnPieceSetAddKeepsCountInvariantRow.lifted == Try.prog.liftsFinal) = true := by rw [lifts_at]; rfl
theorem made_at : (Try.prog.make == some Rows.fnPieceSetAddKeepsCountInvariantRow.make) = true := by rw [make_at]; rfl

set_option maxHeartbeats 4000000 in
theorem closed : joinedFacts Try.prog 10 Try.f10 Rows.fnPieceSetAddKeepsCountInvariantSpec Rows.fnPieceSetAddKeepsCountInvariantRow = true := by
  unfold joinedFacts
  repeat' (with_reducible refine and_join ?_ ?_)
  all_goals first
    | (with_reducible exact mayEnter_at)
    | (with_reducible exact lifted_at)
    | (with_reducible exact made_at)
    | (as_aux_lemma => kernel_rfl)

theorem named : Try.prog.funcNamed Rows.fnPieceSetAddKeepsCountInvariantRow.func = some 10 := by kernel_rfl
theorem instanced : Try.f10.isInstance Try.prog Rows.fnPieceSetAddKeepsCountInvariantRow.origin Rows.fnPieceSetAddKeepsCountInvariantRow.targs := of_decide_eq_true (by kernel_rfl)
theorem wrapped : Try.f10.isWrapper Try.prog Rows.fnPieceSetAddKeepsCountInvariantRow.wrapper Rows.fnPieceSetAddKeepsCountInvariantRow.mainSum := by
  unfold Func.isWrapper
  first | (rw [if_pos (by decide +kernel)]; kernel_rfl) | (rw [if_neg (by decide +kernel)]; exact ⟨rfl, rfl⟩)

end Go.Proofs.Qxb6602705a.fnPieceSetAddKeepsCountInvariant
