/- cycleSteps: what is still to be handed down. -/
import Derived.Test.Qxb6003137aVisit
import Derived.Test.Qxb6003137aSat
namespace Go.Proofs.Qxb6003137a
open Go.ChangeShapes Go.WideShapes Go.ChangeAt Go.RowKit
set_option linter.unusedVariables false
set_option linter.unusedSimpArgs false
namespace CY

def capI (m : Nat) (P : Nat → Nat) : Nat → Int := fun x => ((cap m (P x) : Nat) : Int)
theorem capI_upd (m : Nat) (P : Nat → Nat) (x y : Nat) : capI m (upd P x y) = upd (capI m P) x ((cap m y : Nat) : Int) := by
  funext i
  unfold capI upd
  split <;> rfl
theorem capI_zero (m : Nat) : capI m (fun _ => 0) = fun _ => 0 := by funext i; simp [capI, cap_zero]

/-- The numbers of paths and lengths are still to be handed down: nothing is lost. -/
def Due (N T P L : Nat → Nat) (S : Nat) (l : List Nat) (more C : Nat) : Prop := S + (l.map (phi N T P L)).sum + more = C

theorem due_edge {N T P L : Nat → Nat} {S : Nat} {l : List Nat} {C Pv Lv w : Nat} {a b : Nat → Nat} {xs : List Nat} {j : Nat} (hj : j < xs.length) (hw : xs[j] = w) (h : Due N T P L S l (Lv * sumD a xs j + Pv * sumD b xs j) C) (hl : l.Nodup) (hm : w ∈ l) (ha : a w = N w) (hb : b w = T w + N w + 2 * N w) :
    Due N T (upd P w (P w + Pv)) (upd L w (L w + (Lv + Pv))) S l (Lv * sumD a xs (j + 1) + Pv * sumD b xs (j + 1)) C := by
  unfold Due at *
  rw [phi_edge N T P L w Pv Lv l hl hm]
  rw [sumD_step a xs j hj, sumD_step b xs j hj, hw, ha, hb, Nat.mul_add, Nat.mul_add] at h
  omega
theorem due_root {N T P L : Nat → Nat} {S : Nat} {l : List Nat} {C Pv Lv w : Nat} {a b : Nat → Nat} {xs : List Nat} {j : Nat} (hj : j < xs.length) (hw : xs[j] = w) (h : Due N T P L S l (Lv * sumD a xs j + Pv * sumD b xs j) C) (ha : a w = 1) (hb : b w = 2) :
    Due N T P L (S + (Lv + Pv + Pv)) l (Lv * sumD a xs (j + 1) + Pv * sumD b xs (j + 1)) C := by
  unfold Due at *
  rw [sumD_step a xs j hj, sumD_step b xs j hj, hw, ha, hb, Nat.mul_add, Nat.mul_add] at h
  omega
theorem due_skip {N T P L : Nat → Nat} {S : Nat} {l : List Nat} {C Pv Lv w : Nat} {a b : Nat → Nat} {xs : List Nat} {j : Nat} (hj : j < xs.length) (hw : xs[j] = w) (h : Due N T P L S l (Lv * sumD a xs j + Pv * sumD b xs j) C) (ha : a w = 0) (hb : b w = 0) :
    Due N T P L S l (Lv * sumD a xs (j + 1) + Pv * sumD b xs (j + 1)) C := by
  unfold Due at *
  rw [sumD_step a xs j hj, sumD_step b xs j hj, hw, ha, hb, Nat.mul_add, Nat.mul_add] at h
  omega
theorem due_open {G : List (List Nat)} {r : Nat} {pos N T : Nat → Nat} (hP : Paths G r pos N T) {P L : Nat → Nat} {S : Nat} {q : List Nat} {j C : Nat} (hj : j < q.length) (h : Due N T P L S (q.take (j + 1)) 0 C) :
    Due N T P L S (q.take j) (L q[j] * sumD (aOf r pos N q[j]) (row G q[j]) 0 + P q[j] * sumD (bOf r pos N T q[j]) (row G q[j]) 0) C := by
  unfold Due at *
  rw [hP.sumA, hP.sumB]
  rw [← List.take_append_getElem hj, List.map_append, List.sum_append] at h
  simp only [List.map_cons, List.map_nil, List.sum_cons, List.sum_nil, phi] at h
  omega
theorem due_shut {N T P L : Nat → Nat} {S : Nat} {l : List Nat} {C Pv Lv : Nat} {a b : Nat → Nat} {xs : List Nat} (h : Due N T P L S l (Lv * sumD a xs xs.length + Pv * sumD b xs xs.length) C) : Due N T P L S l 0 C := by
  unfold Due at *
  rw [sumD_end, sumD_end, Nat.mul_zero, Nat.mul_zero] at h
  omega
theorem due_start (N T : Nat → Nat) (r : Nat) (q : List Nat) (hq : q.Nodup) (hr : r ∈ q) : Due N T (upd (fun _ => 0) r 1) (fun _ => 0) 0 (q.take q.length) 0 (T r + 2 * N r) := by
  unfold Due
  rw [List.take_length, phi_start N T r q hq hr]
  omega
theorem due_end {N T P L : Nat → Nat} {S C : Nat} {q : List Nat} (h : Due N T P L S (q.take 0) 0 C) : S = C := by
  unfold Due at h
  simp at h
  exact h

/-- What cycleSteps leaves. -/
def Stepped (base p gl gp gn lo hi m : Nat) (f : Nat → Value) (G : List (List Nat)) (wk : Nat) (q : List Nat) (ans : Nat) (w : World) (e : Ending) (w' : World) : Prop :=
  e = .returned (.int .i64 (ans : Int)) ∧ ∃ own' f' P' L', BD w' own' base p gl gp gn lo hi f' (ints G) (fun x => (posOf q x : Int)) (capI m P') (capI m L') q [] ∧ (∀ x, x ∉ q → P' x = 0 ∧ L' x = 0) ∧ f' 4 = .int .i64 ((wk + 2 * workOf G q : Nat) : Int) ∧ f' 2 = f 2 ∧ Below base w w'

theorem work_drop (G : List (List Nat)) (q : List Nat) (j : Nat) (hj : j < q.length) : workOf G (q.drop j) = 1 + (row G q[j]).length + workOf G (q.drop (j + 1)) := by
  unfold workOf
  rw [List.drop_eq_getElem_cons hj, List.map_cons, List.sum_cons]
theorem work_drop_le (G : List (List Nat)) (hG : ∀ v, (row G v).length ≤ 1048576) (q : List Nat) (hq : q.length ≤ 4096) (j : Nat) : workOf G (q.drop j) ≤ 4294971392 := by
  have h1 := workOf_le G hG (q.drop j)
  have h2 : (q.drop j).length ≤ 4096 := by simp; omega
  have h3 := Nat.mul_le_mul_right 1048577 h2
  omega
end CY
end Go.Proofs.Qxb6003137a
