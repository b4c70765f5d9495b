/- FnEndLineDCFModel: the row's closed facts. -/
import Derived.Test.Qxb6001700aHead
namespace Go.Proofs.Qxb6001700a.DcfM

theorem fact1 : Try.pinned.checked.prog.funcNamed Rows.fnEndLineDCFModelRow.func = some 8 := by kernel_rfl
theorem fact2 : joinedFacts Try.pinned.checked.prog 8 Try.f8 Rows.fnEndLineDCFModelSpec Rows.fnEndLineDCFModelRow = true := by
  unfold joinedFacts
  rw [Head.mayEnter, Head.liftsFinal, Head.make]
  kernel_rfl
theorem fact3 : decide (Try.f8.isInstance Try.pinned.checked.prog Rows.fnEndLineDCFModelRow.origin Rows.fnEndLineDCFModelRow.targs) = true := by kernel_rfl
theorem fact4 : Try.f8.isWrapper Try.pinned.checked.prog Rows.fnEndLineDCFModelRow.wrapper Rows.fnEndLineDCFModelRow.mainSum := by
  unfold Func.isWrapper; first | (rw [if_pos (by decide +kernel)]; kernel_rfl) | (rw [if_neg (by decide +kernel)]; exact ⟨rfl, rfl⟩)
end Go.Proofs.Qxb6001700a.DcfM
