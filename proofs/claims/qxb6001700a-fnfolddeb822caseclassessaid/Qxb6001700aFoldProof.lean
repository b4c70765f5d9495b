/- FnFoldDeb822CaseClasses: the walk of the law, and the row (the given shell, its hole filled). -/
import Derived.Test.Qxb6001700aFoldWalks
import Derived.Test.Qxb6001700aFoldFacts
import Derived.WalkKit
import Derived.ProofKit
import Derived.OpenShut
import Derived.ShutString
namespace Go.Proofs.Qxb6001700a.Fold
open Go.ChangeShapes Go.WideShapes Go.ChangeAt Go.RowKit
open Go.ChangeMaps (open_string shut_string)
set_option linter.unusedVariables false      -- a walk need not use every 'w<i>' (that an integer argument fits its kind)

theorem own : ownKnob Try.prog.godebug = none := by kernel_rfl

/-! ### STEP 1: THE WALK: the Go text returns true. 'Grown w w'': the world has at most new blocks (Derived/RowKit3.lean). Part the cases AHEAD of 'go_enter' where a test parts the walk; take each callee by a contract of your own. -/
theorem walk (a0 : Int) (a1 : Int) (w0 : (Lit.int .u8 a0).wf = true) (w1 : (Lit.int .u8 a1).wf = true) (w : World) :
    Calls Try.prog 4 #[.int .u8 a0, .int .u8 a1] w fun e w' => e = .returned (.bool true) ∧ Grown w w' := by
  have b0 := bounds_u8 w0
  have b1 := bounds_u8 w1
  obtain ⟨c0, c1⟩ := b0
  obtain ⟨e0, e1⟩ := b1
  by_cases hcd : a0 = a1
  · subst hcd
    have q0 : (a0 == a0) = true := by simp
    by_cases hl : isL a0 = true
    · have hor := or_letter a0 c0 c1 hl
      go_enter Try.func4, Try.ntmps4
      go_wp2_with (first | (go_at_call 12; refine (zzfold_any _ _ (by assumption) (by assumption)).mono ?_; rintro e w' ⟨rfl, hw⟩; obtain rfl := hw.symm) | (go_at_call 13; refine (letter_any _ _ (by assumption) (by assumption)).mono ?_; rintro e w' ⟨rfl, hw⟩; obtain rfl := hw.symm))
      go_ret
      exact ⟨rfl, Grown.refl _⟩
    · have hl' : isL a0 = false := by simpa using hl
      have hf := fold_other a0 hl'
      clear hl
      go_enter Try.func4, Try.ntmps4
      go_wp2_with (first | (go_at_call 12; refine (zzfold_any _ _ (by assumption) (by assumption)).mono ?_; rintro e w' ⟨rfl, hw⟩; obtain rfl := hw.symm) | (go_at_call 13; refine (letter_any _ _ (by assumption) (by assumption)).mono ?_; rintro e w' ⟨rfl, hw⟩; obtain rfl := hw.symm))
      go_ret
      exact ⟨rfl, Grown.refl _⟩
  · have q0 : (a0 == a1) = false := by simp [hcd]
    by_cases hl : isL a0 = true
    · have hor := or_letter a0 c0 c1 hl
      by_cases hl1 : isL a1 = true
      · have hor1 := or_letter a1 e0 e1 hl1
        clear hcd
        go_enter Try.func4, Try.ntmps4
        go_wp2_with (first | (go_at_call 12; refine (zzfold_any _ _ (by assumption) (by assumption)).mono ?_; rintro e w' ⟨rfl, hw⟩; obtain rfl := hw.symm) | (go_at_call 13; refine (letter_any _ _ (by assumption) (by assumption)).mono ?_; rintro e w' ⟨rfl, hw⟩; obtain rfl := hw.symm))
        go_ret
        exact ⟨by simp, Grown.refl _⟩
      · have hl1' : isL a1 = false := by simpa using hl1
        have hne : (foldI a0 == foldI a1) = false := by rw [fold_other a1 hl1']; simpa using fold_ne a0 a1 hl hl1'
        clear hcd hl1
        go_enter Try.func4, Try.ntmps4
        go_wp2_with (first | (go_at_call 12; refine (zzfold_any _ _ (by assumption) (by assumption)).mono ?_; rintro e w' ⟨rfl, hw⟩; obtain rfl := hw.symm) | (go_at_call 13; refine (letter_any _ _ (by assumption) (by assumption)).mono ?_; rintro e w' ⟨rfl, hw⟩; obtain rfl := hw.symm))
        go_ret
        exact ⟨by simp, Grown.refl _⟩
    · have hl' : isL a0 = false := by simpa using hl
      have hf := fold_other a0 hl'
      have hne : (a0 == foldI a1) = false := by have := fold_ne2 a0 a1 hl' hcd; rw [hf] at this; simpa using this
      clear hcd hl
      go_enter Try.func4, Try.ntmps4
      go_wp2_with (first | (go_at_call 12; refine (zzfold_any _ _ (by assumption) (by assumption)).mono ?_; rintro e w' ⟨rfl, hw⟩; obtain rfl := hw.symm) | (go_at_call 13; refine (letter_any _ _ (by assumption) (by assumption)).mono ?_; rintro e w' ⟨rfl, hw⟩; obtain rfl := hw.symm))
      go_ret
      exact ⟨by simp, Grown.refl _⟩

/-! ### THE ROW's STEP: WRITTEN OUT: LEAVE IT -/
set_option maxRecDepth 100000 in
theorem lifted (os : Os) (started : os.Started) (H : Type) (enc : TypeId × Value → H) :
    ReturnsInHanded {} Try.checked os 4 .any (Rows.fnFoldDeb822CaseClassesSpec.pre6 enc Try.prog Try.f4 Rows.fnFoldDeb822CaseClassesRow.domain false) (Rows.fnFoldDeb822CaseClassesSpec.post enc Try.prog Try.f4 false true false false) := by
  refine returnsInHanded_of_change (C := Try.checked) own started (by kernel_rfl) Try.func4
    (ChangeSpec.witness6 (enc := enc) (C := Try.checked) false ⟨#[], #[.int .u8 0, .int .u8 0], []⟩ 8 (by kernel_rfl) (by kernel_rfl) (by kernel_rfl) (by kernel_rfl)) ?_
  intro W base args ds gs before hval0 hW hcnd _
  have hval : ∀ (j : Nat) t v, Try.f4.params[j]? = some t → args[j]? = some v → Value.okWide Try.prog W .any base t v := hval0
  have hW' := hW
  obtain ⟨p, q, hA0, hV, rfl, hfz, hnd⟩ := hW
  have hA : DataW.TrodAll enc Try.prog W 0 (fun _ => true) true Try.f4.params.toList args.toList ds p := hA0
  rw [Try.params4] at hA hval
  obtain ⟨v0, vs0, d0, ds0, p0, q0, hargs, rfl, rfl, h0, r0⟩ := trodAll_cons hA
  obtain ⟨v1, vs1, d1, ds1, p1, q1, rfl, rfl, rfl, h1, r1⟩ := trodAll_cons r0
  obtain ⟨rfl, rfl, rfl⟩ := trodAll_nil r1
  obtain rfl : args = #[v0, v1] := by cases args; simp_all
  obtain ⟨rfl, rfl⟩ := trodVars_none hV
  obtain ⟨a0, rfl, rfl, rfl, w0⟩ := open_int Try.underlying5 (hval 0 5 v0 rfl rfl) h0
  obtain ⟨a1, rfl, rfl, rfl, w1⟩ := open_int Try.underlying5 (hval 1 5 v1 rfl rfl) h1
  clear hA0 hval0
  simp only [List.append_nil] at hW'
  refine (walk a0 a1 w0 w1 W).mono fun e W' ⟨he, hg⟩ => ?_
  subst he
  exact ⟨_, rfl, post_of_same (pa := []) (pv := []) hW' (fun _ _ _ => (trodAll_cons_mk (shut_bool Try.underlying4 _) trodAll_mk0)) (fun sp _ => (trodAll_cons_mk (shut_int Try.underlying5 w0) (trodAll_cons_mk (shut_int Try.underlying5 w1) trodAll_mk0))) (fun _ _ => rfl) rfl
    (hg.frame _) hg.2.1 (ok_one (by kernel_rfl) rfl (okWide_bool_mk Try.underlying4 _))⟩

theorem over : Rows.fnFoldDeb822CaseClassesRow.holds Try.pinned (OpenSpec.ofChange Rows.fnFoldDeb822CaseClassesSpec) :=
  OpenClaim.holds_of_wide 4 Try.f4 rfl rfl rfl rfl rfl rfl rfl ⟨rfl, rfl, rfl, rfl, rfl⟩ rfl rfl rfl rfl rfl fact1 Try.func4 fact2
    (of_decide_eq_true fact3) fact4
    (fun os started H enc _ => lifted os started H enc)

/-- ████ THE STATEMENT ████ -/
theorem proved : Rows.FnFoldDeb822CaseClassesSaid :=
  over
#print axioms proved
end Go.Proofs.Qxb6001700a.Fold
