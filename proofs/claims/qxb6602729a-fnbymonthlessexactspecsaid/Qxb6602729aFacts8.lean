/-
  Seat b6602729a. THE CLOSED FACTS of the row of FnByMonthLessExactSpec, each a lemma of its own (so that the kernel gives its memory back behind each).
-/
import Derived.Test.Qxb6602729aHead
namespace Go.Proofs.Qxb6602729a.fnByMonthLessExactSpec

theorem lifted_at : (Rows.fnByMonthLessExactSpecRow.lifted == Try.prog.liftsFinal) = true := by rw [lifts_at]; rfl
theorem made_at : (Try.prog.make == some Rows.fnByMonthLessExactSpecRow.make) = true := by rw [make_at]; rfl

set_option maxHeartbeats 4000000 in
theorem closed : joinedFacts Try.prog 8 Try.f8 Rows.fnByMonthLessExactSpecSpec Rows.fnByMonthLessExactSpecRow = true := by
  unfold joinedFacts
  repeat' (with_reducible refine and_join ?_ ?_)
  all_goals first
    | (with_reducible exact mayEnter_at)
    | (with_reducible exact lifted_at)
    | (with_reducible exact made_at)
    | (as_aux_lemma => kernel_rfl)

theorem named : Try.prog.funcNamed Rows.fnByMonthLessExactSpecRow.func = some 8 := by kernel_rfl
theorem instanced : Try.f8.isInstance Try.prog Rows.fnByMonthLessExactSpecRow.origin Rows.fnByMonthLessExactSpecRow.targs := of_decide_eq_true (by kernel_rfl)
theorem wrapped : Try.f8.isWrapper Try.prog Rows.fnByMonthLessExactSpecRow.wrapper Rows.fnByMonthLessExactSpecRow.mainSum := by
  unfold Func.isWrapper
  first | (rw [if_pos (by decide +kernel)]; kernel_rfl) | (rw [if_neg (by decide +kernel)]; exact ⟨rfl, rfl⟩)

end Go.Proofs.Qxb6602729a.fnByMonthLessExactSpec
