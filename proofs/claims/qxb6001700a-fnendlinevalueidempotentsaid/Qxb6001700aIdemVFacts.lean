/- FnEndLineValueIdempotent: the row's closed facts. -/
import Derived.Test.Qxb6001700aHead
namespace Go.Proofs.Qxb6001700a.IdemV

theorem fact1 : Try.pinned.checked.prog.funcNamed Rows.fnEndLineValueIdempotentRow.func = some 11 := by kernel_rfl
theorem fact2 : joinedFacts Try.pinned.checked.prog 11 Try.f11 Rows.fnEndLineValueIdempotentSpec Rows.fnEndLineValueIdempotentRow = true := by
  unfold joinedFacts
  rw [Head.mayEnter, Head.liftsFinal, Head.make]
  kernel_rfl
theorem fact3 : decide (Try.f11.isInstance Try.pinned.checked.prog Rows.fnEndLineValueIdempotentRow.origin Rows.fnEndLineValueIdempotentRow.targs) = true := by kernel_rfl
theorem fact4 : Try.f11.isWrapper Try.pinned.checked.prog Rows.fnEndLineValueIdempotentRow.wrapper Rows.fnEndLineValueIdempotentRow.mainSum := by
  unfold Func.isWrapper; first | (rw [if_pos (by decide +kernel)]; kernel_rfl) | (rw [if_neg (by decide +kernel)]; exact ⟨rfl, rfl⟩)
end Go.Proofs.Qxb6001700a.IdemV
