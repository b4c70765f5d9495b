/- FnCycleStepsCountsPathsClosingAtRoot: the row's closed facts. -/
import Derived.Test.Qxb6003137aHead
namespace Go.Proofs.Qxb6003137a.Cyc

theorem fact1 : Try.pinned.checked.prog.funcNamed Rows.fnCycleStepsCountsPathsClosingAtRootRow.func = some 5 := by kernel_rfl
theorem fact2 : joinedFacts Try.pinned.checked.prog 5 Try.f5 Rows.fnCycleStepsCountsPathsClosingAtRootSpec Rows.fnCycleStepsCountsPathsClosingAtRootRow = true := by
  unfold joinedFacts
  rw [Head.mayEnter, Head.liftsFinal, Head.make]
  kernel_rfl
theorem fact3 : decide (Try.f5.isInstance Try.pinned.checked.prog Rows.fnCycleStepsCountsPathsClosingAtRootRow.origin Rows.fnCycleStepsCountsPathsClosingAtRootRow.targs) = true := by kernel_rfl
theorem fact4 : Try.f5.isWrapper Try.pinned.checked.prog Rows.fnCycleStepsCountsPathsClosingAtRootRow.wrapper Rows.fnCycleStepsCountsPathsClosingAtRootRow.mainSum := by
  unfold Func.isWrapper; first | (rw [if_pos (by decide +kernel)]; kernel_rfl) | (rw [if_neg (by decide +kernel)]; exact ⟨rfl, rfl⟩)
end Go.Proofs.Qxb6003137a.Cyc
