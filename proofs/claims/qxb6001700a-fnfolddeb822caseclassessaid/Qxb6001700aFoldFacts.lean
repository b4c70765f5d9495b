/- FnFoldDeb822CaseClasses: the row's closed facts. -/
import Derived.Test.Qxb6001700aHead
namespace Go.Proofs.Qxb6001700a.Fold

theorem fact1 : Try.pinned.checked.prog.funcNamed Rows.fnFoldDeb822CaseClassesRow.func = some 4 := by kernel_rfl
theorem fact2 : joinedFacts Try.pinned.checked.prog 4 Try.f4 Rows.fnFoldDeb822CaseClassesSpec Rows.fnFoldDeb822CaseClassesRow = true := by
  unfold joinedFacts
  rw [Head.mayEnter, Head.liftsFinal, Head.make]
  kernel_rfl
theorem fact3 : decide (Try.f4.isInstance Try.pinned.checked.prog Rows.fnFoldDeb822CaseClassesRow.origin Rows.fnFoldDeb822CaseClassesRow.targs) = true := by kernel_rfl
theorem fact4 : Try.f4.isWrapper Try.pinned.checked.prog Rows.fnFoldDeb822CaseClassesRow.wrapper Rows.fnFoldDeb822CaseClassesRow.mainSum := by
  unfold Func.isWrapper; first | (rw [if_pos (by decide +kernel)]; kernel_rfl) | (rw [if_neg (by decide +kernel)]; exact ⟨rfl, rfl⟩)
end Go.Proofs.Qxb6001700a.Fold
