/-
  Seat b6602705a. THE CLOSED FACTS of the row of FnPieceSetAddMatchesBitModel, each a lemma of its own (so that the kernel gives its memory back behind each).
-/
import Derived.Test.Qxb6602705aHead
namespace Go.Proofs.Qxb6602705a.fnPieceSetAddMatchesBitModel

theorem lifted_at : (Rows.fnPieceSetAddMatchesBitModelRow.lifted == Try.prog.liftsFinal) = true := by rw [lifts_at]; rfl
theorem made_at : (Try.prog.make == some Rows.fnPieceSetAddMatchesBitModelRow.make) = true := by rw [make_at]; rfl

set_option maxHeartbeats 4000000 in
theorem closed : joinedFacts Try.prog 9 Try.f9 Rows.fnPieceSetAddMatchesBitModelSpec Rows.fnPieceSetAddMatchesBitModelRow = true := by
  unfold joinedFacts
  repeat' (with_reducible refine and_join ?_ ?_)
  all_goals first
    | (with_reducible exact mayEnter_at)
    | (with_reducible exact lifted_at)
    | (with_reducible exact made_at)
    | (as_aux_lemma => kernel_rfl)

theorem named : Try.prog.funcNamed Rows.fnPieceSetAddMatchesBitModelRow.func = some 9 := by kernel_rfl
theorem instanced : Try.f9.isInstance Try.prog Rows.fnPieceSetAddMatchesBitModelRow.origin Rows.fnPieceSetAddMatchesBitModelRow.targs := of_decide_eq_true (by kernel_rfl)
theorem wrapped : Try.f9.isWrapper Try.prog Rows.fnPieceSetAddMatchesBitModelRow.wrapper Rows.fnPieceSetAddMatchesBitModelRow.mainSum := by
  unfold Func.isWrapper
  first | (rw [if_pos (by decide +kernel)]; kernel_rfl) | (rw [if_neg (by decide +kernel)]; exact ⟨rfl, rfl⟩)

end Go.Proofs.Qxb6602705a.fnPieceSetAddMatchesBitModel
