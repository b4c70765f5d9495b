/- FnEndLineDeb822KeepsLines: the row's closed facts. -/
import Derived.Test.Qxb6001700aHead
namespace Go.Proofs.Qxb6001700a.Keep

theorem fact1 : Try.pinned.checked.prog.funcNamed Rows.fnEndLineDeb822KeepsLinesRow.func = some 10 := by kernel_rfl
theorem fact2 : joinedFacts Try.pinned.checked.prog 10 Try.f10 Rows.fnEndLineDeb822KeepsLinesSpec Rows.fnEndLineDeb822KeepsLinesRow = true := by
  unfold joinedFacts
  rw [Head.mayEnter, Head.liftsFinal, Head.make]
  kernel_rfl
theorem fact3 : decide (Try.f10.isInstance Try.pinned.checked.prog Rows.fnEndLineDeb822KeepsLinesRow.origin Rows.fnEndLineDeb822KeepsLinesRow.targs) = true := by kernel_rfl
theorem fact4 : Try.f10.isWrapper Try.pinned.checked.prog Rows.fnEndLineDeb822KeepsLinesRow.wrapper Rows.fnEndLineDeb822KeepsLinesRow.mainSum := by
  unfold Func.isWrapper; first | (rw [if_pos (by decide +kernel)]; kernel_rfl) | (rw [if_neg (by decide +kernel)]; exact ⟨rfl, rfl⟩)
end Go.Proofs.Qxb6001700a.Keep
