/- Contracts for FnFoldDeb822CaseClasses. -/
import Derived.Test.Qxb6001700aRows
import Derived.WalkKit
import Derived.ProofKit
import Derived.WalkLawsBesides
namespace Go.Proofs.Qxb6001700a.Fold
open Go.ChangeShapes Go.WideShapes Go.ChangeAt Go.RowKit
set_option linter.unusedVariables false

def foldI (x : Int) : Int := if 65 ≤ x ∧ x ≤ 90 then x + 32 else x

theorem ret_int {k : IntKind} {a b : Int} (h : a = b) : Ending.returned (.int k a) = .returned (.int k b) := by rw [h]
theorem ret_bool {a b : Bool} (h : a = b) : Ending.returned (.bool a) = .returned (.bool b) := by rw [h]

theorem fold_any (x : Int) (w : World) (h0 : 0 ≤ x) (h1 : x ≤ 255) : Calls Try.prog 35 #[.int .u8 0, .int .u8 x] w fun e w' => e = .returned (.int .u8 (foldI x)) ∧ w' = w := by
  by_cases a : 65 ≤ x
  · by_cases b : x ≤ 90
    · go_enter Try.func35, Try.ntmps35
      go_wp2
      go_ret
      exact ⟨ret_int (by simp only [foldI]; rw [if_pos ⟨a, b⟩]; omega), rfl⟩
    · go_enter Try.func35, Try.ntmps35
      go_wp2
      go_ret
      exact ⟨ret_int (by simp only [foldI]; rw [if_neg (by omega)]), rfl⟩
  · go_enter Try.func35, Try.ntmps35
    go_wp2
    go_ret
    exact ⟨ret_int (by simp only [foldI]; rw [if_neg (by omega)]), rfl⟩

theorem zzfold_any (x : Int) (w : World) (h0 : 0 ≤ x) (h1 : x ≤ 255) : Calls Try.prog 12 #[.int .u8 0, .int .u8 x] w fun e w' => e = .returned (.int .u8 (foldI x)) ∧ w' = w := by
  go_enter Try.func12, Try.ntmps12
  go_wp2_with (go_at_call 35; refine (fold_any x _ h0 h1).mono ?_; rintro e w' ⟨rfl, hw⟩; obtain rfl := hw.symm)
  go_ret
  exact ⟨rfl, rfl⟩

def isL (x : Int) : Bool := decide ((65 ≤ x ∧ x ≤ 90) ∨ (97 ≤ x ∧ x ≤ 122))

theorem or_fin : ∀ n : Fin 256, (bits BinOp.or IntKind.u8 (n.val : Int) 32 = if 65 ≤ (n.val : Int) ∧ (n.val : Int) ≤ 90 then (n.val : Int) + 32 else bits BinOp.or IntKind.u8 (n.val : Int) 32) ∧
    (97 ≤ (n.val : Int) → (n.val : Int) ≤ 122 → bits BinOp.or IntKind.u8 (n.val : Int) 32 = (n.val : Int)) ∧
    (isL (n.val : Int) = (decide (97 ≤ bits BinOp.or IntKind.u8 (n.val : Int) 32) && decide (bits BinOp.or IntKind.u8 (n.val : Int) 32 ≤ 122))) := by decide +kernel

theorem fin_of (x : Int) (h0 : 0 ≤ x) (h1 : x ≤ 255) : ∃ n : Fin 256, (n.val : Int) = x := ⟨⟨x.toNat, by omega⟩, by simp; omega⟩

theorem isL_or (x : Int) (h0 : 0 ≤ x) (h1 : x ≤ 255) : isL x = (decide (97 ≤ bits BinOp.or IntKind.u8 x 32) && decide (bits BinOp.or IntKind.u8 x 32 ≤ 122)) := by
  obtain ⟨n, rfl⟩ := fin_of x h0 h1
  exact (or_fin n).2.2

theorem or_letter (x : Int) (h0 : 0 ≤ x) (h1 : x ≤ 255) (h : isL x = true) : bits BinOp.or IntKind.u8 x 32 = foldI x := by
  simp only [isL, decide_eq_true_eq] at h
  obtain ⟨n, rfl⟩ := fin_of x h0 h1
  unfold foldI
  by_cases a : 65 ≤ (n.val : Int) ∧ (n.val : Int) ≤ 90
  · rw [if_pos a]
    have := (or_fin n).1
    rwa [if_pos a] at this
  · rw [if_neg a]
    exact (or_fin n).2.1 (by omega) (by omega)

theorem fold_other (x : Int) (h : isL x = false) : foldI x = x := by
  simp only [isL, decide_eq_false_iff_not] at h
  unfold foldI
  rw [if_neg (by omega)]

theorem fold_ne (x y : Int) (hx : isL x = true) (hy : isL y = false) : foldI x ≠ y := by
  simp only [isL, decide_eq_true_eq] at hx
  simp only [isL, decide_eq_false_iff_not] at hy
  unfold foldI
  split <;> omega

theorem fold_ne2 (x y : Int) (hx : isL x = false) (hxy : x ≠ y) : foldI x ≠ foldI y := by
  by_cases hy : isL y = true
  · rw [fold_other x hx]; exact fun e => fold_ne y x hy hx e.symm
  · have hy' : isL y = false := by simpa using hy
    rw [fold_other x hx, fold_other y hy']; exact hxy

set_option maxHeartbeats 400000 in
theorem letter_any (x : Int) (w : World) (h0 : 0 ≤ x) (h1 : x ≤ 255) : Calls Try.prog 13 #[.int .u8 x] w fun e w' => e = .returned (.bool (isL x)) ∧ w' = w := by
  have H : Hid (isL x = (decide (97 ≤ bits BinOp.or IntKind.u8 x 32) && decide (bits BinOp.or IntKind.u8 x 32 ≤ 122))) := isL_or x h0 h1
  by_cases a : 97 ≤ bits BinOp.or IntKind.u8 x 32
  · have H2 : Hid (isL x = decide (bits BinOp.or IntKind.u8 x 32 ≤ 122)) := by show _ = _; rw [H.out, decide_eq_true a]; rfl
    go_enter Try.func13, Try.ntmps13
    go_wp2
    go_ret
    exact ⟨ret_bool H2.out.symm, rfl⟩
  · have H2 : Hid (isL x = false) := by show _ = _; rw [H.out, decide_eq_false a]; rfl
    go_enter Try.func13, Try.ntmps13
    go_wp2
    go_ret
    exact ⟨ret_bool H2.out.symm, rfl⟩
end Go.Proofs.Qxb6001700a.Fold
