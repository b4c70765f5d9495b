/-
  No cell of these rows narrows 'for every input' (looked for: loops, veiled, ifaces, maps, wideKeys, modest, calm, conditions, laid).
  DERIVED. THE GIVEN ROWS OF THIS SEAT. 9 by the template 'for every input the law returns true; each argument reads behind the call as it read before'; 0 by the template 'total and deterministic' (their statements: Qxb6001700aTotals.lean).
  GIVEN WITH THE SEED: the statements are not yours to turn. If you find one false, say at which input.
  Laid BY PROGRAM, IN A SANDBOX (cutbox-rows.mjs): the forced cells as the released guide's own fill.sh prints them over the translation 017fe6d353a330b1… (all of the seat's roots in one cut). By AI agents, Wed Nov 11 2026. No macro, syntax, notation, axiom, sorry.
-/
import Derived.Test.Qxb6001700aChecked
import GoSem.Claim
import GoSem.ClaimJoined
import GoSem.ClaimMapViews
import Derived.JoinedTies
import Derived.KernelRfl
namespace Go.Proofs.Qxb6001700a
/- THE CELL 'sum', in the pinned program and in every row, IS THE sha256 OF THE DUMP (.gsa) THAT Qxb6001700aProg.lean LOADS. Nothing in Lean hashes anything: it is a label: what it is worth is what the hold of that sum in a sandbox is worth. -/
noncomputable def Try.pinned : Pinned := { name := "qxb6001700a", sum := "017fe6d353a330b1f1f0c30cfe54a20c814fc0b8f46801eca7366ea6ec01a462", checked := Try.checked }
namespace Rows
def none {H : Type} : Left H := { results := [], args := [] }

/-- 'zzlaws_root_b1.FnFoldIdempotent': WHATEVER THE INPUT: true; the input reads as it did. -/
def fnFoldIdempotentSpec : ChangeSpec := { name := "fnFoldIdempotent", fn := fun _ => fun
  | [d1, d2] => { results := [.lit (.bool true)], args := [d1, d2] }
  | _ => none }
def fnFoldIdempotentRow : OpenClaim := { program := "qxb6001700a", sum := "017fe6d353a330b1f1f0c30cfe54a20c814fc0b8f46801eca7366ea6ec01a462", func := "example.com/leaf/leaf/zzlaws_root_b1.FnFoldIdempotent", spec := "fnFoldIdempotent", apart := false }
def FnFoldIdempotentSaid : Prop := fnFoldIdempotentRow.holds Try.pinned (OpenSpec.ofChange fnFoldIdempotentSpec)

/-- ITS FALSE NEIGHBOUR: 'it returns false'. Refute it at one input. -/
def fnFoldIdempotentWrong : ChangeSpec := { name := "fnFoldIdempotent", fn := fun _ => fun
  | [d1, d2] => { results := [.lit (.bool false)], args := [d1, d2] }
  | _ => none }
def FnFoldIdempotentWrongFalsely : Prop := fnFoldIdempotentRow.holds Try.pinned (OpenSpec.ofChange fnFoldIdempotentWrong)

/-- 'zzlaws_root_b1.FnFoldDeb822CaseClasses': WHATEVER THE INPUT: true; the input reads as it did. -/
def fnFoldDeb822CaseClassesSpec : ChangeSpec := { name := "fnFoldDeb822CaseClasses", fn := fun _ => fun
  | [d1, d2] => { results := [.lit (.bool true)], args := [d1, d2] }
  | _ => none }
def fnFoldDeb822CaseClassesRow : OpenClaim := { program := "qxb6001700a", sum := "017fe6d353a330b1f1f0c30cfe54a20c814fc0b8f46801eca7366ea6ec01a462", func := "example.com/leaf/leaf/zzlaws_root_b1.FnFoldDeb822CaseClasses", spec := "fnFoldDeb822CaseClasses", apart := false }
def FnFoldDeb822CaseClassesSaid : Prop := fnFoldDeb822CaseClassesRow.holds Try.pinned (OpenSpec.ofChange fnFoldDeb822CaseClassesSpec)

/-- ITS FALSE NEIGHBOUR: 'it returns false'. Refute it at one input. -/
def fnFoldDeb822CaseClassesWrong : ChangeSpec := { name := "fnFoldDeb822CaseClasses", fn := fun _ => fun
  | [d1, d2] => { results := [.lit (.bool false)], args := [d1, d2] }
  | _ => none }
def FnFoldDeb822CaseClassesWrongFalsely : Prop := fnFoldDeb822CaseClassesRow.holds Try.pinned (OpenSpec.ofChange fnFoldDeb822CaseClassesWrong)

/-- 'zzlaws_root_b1.FnLineLengthLFSpec': WHATEVER THE INPUT: true; the input reads as it did. -/
def fnLineLengthLFSpecSpec : ChangeSpec := { name := "fnLineLengthLFSpec", fn := fun _ => fun
  | [d] => { results := [.lit (.bool true)], args := [d] }
  | _ => none }
def fnLineLengthLFSpecRow : OpenClaim := { program := "qxb6001700a", sum := "017fe6d353a330b1f1f0c30cfe54a20c814fc0b8f46801eca7366ea6ec01a462", func := "example.com/leaf/leaf/zzlaws_root_b1.FnLineLengthLFSpec", spec := "fnLineLengthLFSpec", inPlace := ["internal/bytealg.IndexByte"], unfollowed := true, recurses := true, apart := false }
def FnLineLengthLFSpecSaid : Prop := fnLineLengthLFSpecRow.holds Try.pinned (OpenSpec.ofChange fnLineLengthLFSpecSpec)

/-- ITS FALSE NEIGHBOUR: 'it returns false'. Refute it at one input. -/
def fnLineLengthLFSpecWrong : ChangeSpec := { name := "fnLineLengthLFSpec", fn := fun _ => fun
  | [d] => { results := [.lit (.bool false)], args := [d] }
  | _ => none }
def FnLineLengthLFSpecWrongFalsely : Prop := fnLineLengthLFSpecRow.holds Try.pinned (OpenSpec.ofChange fnLineLengthLFSpecWrong)

/-- 'zzlaws_root_b1.FnLineLengthLFPrefix': WHATEVER THE INPUT: true; the input reads as it did. -/
def fnLineLengthLFPrefixSpec : ChangeSpec := { name := "fnLineLengthLFPrefix", fn := fun _ => fun
  | [d1, d2] => { results := [.lit (.bool true)], args := [d1, d2] }
  | _ => none }
def fnLineLengthLFPrefixRow : OpenClaim := { program := "qxb6001700a", sum := "017fe6d353a330b1f1f0c30cfe54a20c814fc0b8f46801eca7366ea6ec01a462", func := "example.com/leaf/leaf/zzlaws_root_b1.FnLineLengthLFPrefix", spec := "fnLineLengthLFPrefix", inPlace := ["internal/bytealg.IndexByte"], unfollowed := true, recurses := true, apart := false }
def FnLineLengthLFPrefixSaid : Prop := fnLineLengthLFPrefixRow.holds Try.pinned (OpenSpec.ofChange fnLineLengthLFPrefixSpec)

/-- ITS FALSE NEIGHBOUR: 'it returns false'. Refute it at one input. -/
def fnLineLengthLFPrefixWrong : ChangeSpec := { name := "fnLineLengthLFPrefix", fn := fun _ => fun
  | [d1, d2] => { results := [.lit (.bool false)], args := [d1, d2] }
  | _ => none }
def FnLineLengthLFPrefixWrongFalsely : Prop := fnLineLengthLFPrefixRow.holds Try.pinned (OpenSpec.ofChange fnLineLengthLFPrefixWrong)

/-- 'zzlaws_root_b1.FnLineLengthLFConcat': WHATEVER THE INPUT: true; the input reads as it did. -/
def fnLineLengthLFConcatSpec : ChangeSpec := { name := "fnLineLengthLFConcat", fn := fun _ => fun
  | [d1, d2] => { results := [.lit (.bool true)], args := [d1, d2] }
  | _ => none }
def fnLineLengthLFConcatRow : OpenClaim := { program := "qxb6001700a", sum := "017fe6d353a330b1f1f0c30cfe54a20c814fc0b8f46801eca7366ea6ec01a462", func := "example.com/leaf/leaf/zzlaws_root_b1.FnLineLengthLFConcat", spec := "fnLineLengthLFConcat", inPlace := ["internal/bytealg.IndexByte"], unfollowed := true, recurses := true, apart := false }
def FnLineLengthLFConcatSaid : Prop := fnLineLengthLFConcatRow.holds Try.pinned (OpenSpec.ofChange fnLineLengthLFConcatSpec)

/-- ITS FALSE NEIGHBOUR: 'it returns false'. Refute it at one input. -/
def fnLineLengthLFConcatWrong : ChangeSpec := { name := "fnLineLengthLFConcat", fn := fun _ => fun
  | [d1, d2] => { results := [.lit (.bool false)], args := [d1, d2] }
  | _ => none }
def FnLineLengthLFConcatWrongFalsely : Prop := fnLineLengthLFConcatRow.holds Try.pinned (OpenSpec.ofChange fnLineLengthLFConcatWrong)

/-- 'zzlaws_root_b1.FnEndLineDCFModel': WHATEVER THE INPUT: true; the input reads as it did. -/
def fnEndLineDCFModelSpec : ChangeSpec := { name := "fnEndLineDCFModel", fn := fun _ => fun
  | [d] => { results := [.lit (.bool true)], args := [d] }
  | _ => none }
def fnEndLineDCFModelRow : OpenClaim := { program := "qxb6001700a", sum := "017fe6d353a330b1f1f0c30cfe54a20c814fc0b8f46801eca7366ea6ec01a462", func := "example.com/leaf/leaf/zzlaws_root_b1.FnEndLineDCFModel", spec := "fnEndLineDCFModel", apart := false }
def FnEndLineDCFModelSaid : Prop := fnEndLineDCFModelRow.holds Try.pinned (OpenSpec.ofChange fnEndLineDCFModelSpec)

/-- ITS FALSE NEIGHBOUR: 'it returns false'. Refute it at one input. -/
def fnEndLineDCFModelWrong : ChangeSpec := { name := "fnEndLineDCFModel", fn := fun _ => fun
  | [d] => { results := [.lit (.bool false)], args := [d] }
  | _ => none }
def FnEndLineDCFModelWrongFalsely : Prop := fnEndLineDCFModelRow.holds Try.pinned (OpenSpec.ofChange fnEndLineDCFModelWrong)

/-- 'zzlaws_root_b1.FnEndLineDCFPartsAgree': WHATEVER THE INPUT: true; the input reads as it did. -/
def fnEndLineDCFPartsAgreeSpec : ChangeSpec := { name := "fnEndLineDCFPartsAgree", fn := fun _ => fun
  | [d1, d2] => { results := [.lit (.bool true)], args := [d1, d2] }
  | _ => none }
def fnEndLineDCFPartsAgreeRow : OpenClaim := { program := "qxb6001700a", sum := "017fe6d353a330b1f1f0c30cfe54a20c814fc0b8f46801eca7366ea6ec01a462", func := "example.com/leaf/leaf/zzlaws_root_b1.FnEndLineDCFPartsAgree", spec := "fnEndLineDCFPartsAgree", apart := false }
def FnEndLineDCFPartsAgreeSaid : Prop := fnEndLineDCFPartsAgreeRow.holds Try.pinned (OpenSpec.ofChange fnEndLineDCFPartsAgreeSpec)

/-- ITS FALSE NEIGHBOUR: 'it returns false'. Refute it at one input. -/
def fnEndLineDCFPartsAgreeWrong : ChangeSpec := { name := "fnEndLineDCFPartsAgree", fn := fun _ => fun
  | [d1, d2] => { results := [.lit (.bool false)], args := [d1, d2] }
  | _ => none }
def FnEndLineDCFPartsAgreeWrongFalsely : Prop := fnEndLineDCFPartsAgreeRow.holds Try.pinned (OpenSpec.ofChange fnEndLineDCFPartsAgreeWrong)

/-- 'zzlaws_root_b1.FnEndLineDeb822KeepsLines': WHATEVER THE INPUT: true; the input reads as it did. -/
def fnEndLineDeb822KeepsLinesSpec : ChangeSpec := { name := "fnEndLineDeb822KeepsLines", fn := fun _ => fun
  | [d] => { results := [.lit (.bool true)], args := [d] }
  | _ => none }
def fnEndLineDeb822KeepsLinesRow : OpenClaim := { program := "qxb6001700a", sum := "017fe6d353a330b1f1f0c30cfe54a20c814fc0b8f46801eca7366ea6ec01a462", func := "example.com/leaf/leaf/zzlaws_root_b1.FnEndLineDeb822KeepsLines", spec := "fnEndLineDeb822KeepsLines", apart := false }
def FnEndLineDeb822KeepsLinesSaid : Prop := fnEndLineDeb822KeepsLinesRow.holds Try.pinned (OpenSpec.ofChange fnEndLineDeb822KeepsLinesSpec)

/-- ITS FALSE NEIGHBOUR: 'it returns false'. Refute it at one input. -/
def fnEndLineDeb822KeepsLinesWrong : ChangeSpec := { name := "fnEndLineDeb822KeepsLines", fn := fun _ => fun
  | [d] => { results := [.lit (.bool false)], args := [d] }
  | _ => none }
def FnEndLineDeb822KeepsLinesWrongFalsely : Prop := fnEndLineDeb822KeepsLinesRow.holds Try.pinned (OpenSpec.ofChange fnEndLineDeb822KeepsLinesWrong)

/-- 'zzlaws_root_b1.FnEndLineValueIdempotent': WHATEVER THE INPUT: true; the input reads as it did. -/
def fnEndLineValueIdempotentSpec : ChangeSpec := { name := "fnEndLineValueIdempotent", fn := fun _ => fun
  | [d] => { results := [.lit (.bool true)], args := [d] }
  | _ => none }
def fnEndLineValueIdempotentRow : OpenClaim := { program := "qxb6001700a", sum := "017fe6d353a330b1f1f0c30cfe54a20c814fc0b8f46801eca7366ea6ec01a462", func := "example.com/leaf/leaf/zzlaws_root_b1.FnEndLineValueIdempotent", spec := "fnEndLineValueIdempotent", apart := false }
def FnEndLineValueIdempotentSaid : Prop := fnEndLineValueIdempotentRow.holds Try.pinned (OpenSpec.ofChange fnEndLineValueIdempotentSpec)

/-- ITS FALSE NEIGHBOUR: 'it returns false'. Refute it at one input. -/
def fnEndLineValueIdempotentWrong : ChangeSpec := { name := "fnEndLineValueIdempotent", fn := fun _ => fun
  | [d] => { results := [.lit (.bool false)], args := [d] }
  | _ => none }
def FnEndLineValueIdempotentWrongFalsely : Prop := fnEndLineValueIdempotentRow.holds Try.pinned (OpenSpec.ofChange fnEndLineValueIdempotentWrong)

end Rows
end Go.Proofs.Qxb6001700a
