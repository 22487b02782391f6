/-
  Seat b6603076a. THE CLOSED FACTS of the row of FnSpaceIdempotent, each a lemma of its own (so that the kernel gives its memory back behind each).
-/
import Derived.Test.Qxb6603076aHead
namespace Go.Proofs.Qxb6603076a.fnSpaceIdempotent

theorem lifted_at : (Rows.fnSpaceIdempotentRow.lifted == Try.prog.liftsFinal) = true := by rw [lifts_at]; rfl
theorem made_at : (Try.prog.make == some Rows.fnSpaceIdempotentRow.make) = true := by rw [make_at]; rfl

set_option maxHeartbeats 4000000 in
theorem closed : joinedFacts Try.prog 4 Try.f4 Rows.fnSpaceIdempotentSpec Rows.fnSpaceIdempotentRow = true := by
  unfold joinedFacts
  repeat' (with_reducible refine and_join ?_ ?_)
  all_goals first
    | (with_reducible exact mayEnter_at)
    | (with_reducible exact lifted_at)
    | (with_reducible exact made_at)
    | (as_aux_lemma => kernel_rfl)

theorem named : Try.prog.funcNamed Rows.fnSpaceIdempotentRow.func = some 4 := by kernel_rfl
theorem instanced : Try.f4.isInstance Try.prog Rows.fnSpaceIdempotentRow.origin Rows.fnSpaceIdempotentRow.targs := of_decide_eq_true (by kernel_rfl)
theorem wrapped : Try.f4.isWrapper Try.prog Rows.fnSpaceIdempotentRow.wrapper Rows.fnSpaceIdempotentRow.mainSum := by
  unfold Func.isWrapper
  first | (rw [if_pos (by decide +kernel)]; kernel_rfl) | (rw [if_neg (by decide +kernel)]; exact ⟨rfl, rfl⟩)

end Go.Proofs.Qxb6603076a.fnSpaceIdempotent
