/- FnEndLineDCFPartsAgree: the row's closed facts. -/
import Derived.Test.Qxb6001700aHead
namespace Go.Proofs.Qxb6001700a.PartsA

theorem fact1 : Try.pinned.checked.prog.funcNamed Rows.fnEndLineDCFPartsAgreeRow.func = some 9 := by kernel_rfl
theorem fact2 : joinedFacts Try.pinned.checked.prog 9 Try.f9 Rows.fnEndLineDCFPartsAgreeSpec Rows.fnEndLineDCFPartsAgreeRow = true := by
  unfold joinedFacts
  rw [Head.mayEnter, Head.liftsFinal, Head.make]
  kernel_rfl
theorem fact3 : decide (Try.f9.isInstance Try.pinned.checked.prog Rows.fnEndLineDCFPartsAgreeRow.origin Rows.fnEndLineDCFPartsAgreeRow.targs) = true := by kernel_rfl
theorem fact4 : Try.f9.isWrapper Try.pinned.checked.prog Rows.fnEndLineDCFPartsAgreeRow.wrapper Rows.fnEndLineDCFPartsAgreeRow.mainSum := by
  unfold Func.isWrapper; first | (rw [if_pos (by decide +kernel)]; kernel_rfl) | (rw [if_neg (by decide +kernel)]; exact ⟨rfl, rfl⟩)
end Go.Proofs.Qxb6001700a.PartsA
