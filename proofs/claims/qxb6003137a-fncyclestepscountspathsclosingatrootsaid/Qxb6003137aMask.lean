/- A region that draws its order: seven operations in whatever order, an invariant over those that are done. -/
import Derived.Orders
namespace Go.Proofs.Qxb6003137a
namespace CY

def lst (b1 b3 b6 b8 b10 b12 b14 : Bool) : Array Bool := #[true, b1, true, b3, true, true, b6, true, b8, true, b10, true, b12, true, b14, false, false, false]
def one (b : Bool) (i : Nat) : List Nat := if b then [] else [i]
def expected (b1 b3 b6 b8 b10 b12 b14 : Bool) : List Nat :=
  one b1 1 ++ (one (!b1 || b3) 3 ++ (one b6 6 ++ (one b8 8 ++ (one b10 10 ++ (one b12 12 ++ (one b14 14 ++ one (!(b1 && b3 && b6 && b8 && b10 && b12 && b14)) 15))))))
def bit (b : Bool) : Nat := if b then 0 else 1
def bits (b1 b3 b6 b8 b10 b12 b14 : Bool) : Nat := bit b1 + bit b3 + bit b6 + bit b8 + bit b10 + bit b12 + bit b14

theorem mem_one {b : Bool} {i j : Nat} : j ∈ one b i ↔ b = false ∧ j = i := by cases b <;> simp [one]

theorem wpAny_masks {P : Program} {md : Region.Mode} {ops : Array Oper} {Q : Exit → Act → World → Prop} (J : Bool → Bool → Bool → Bool → Bool → Bool → Bool → Act → World → Prop)
    (hready : ∀ b1 b3 b6 b8 b10 b12 b14, Region.ready md ops (lst b1 b3 b6 b8 b10 b12 b14) = expected b1 b3 b6 b8 b10 b12 b14)
    (h1 : ∀ b3 b6 b8 b10 b12 b14 a w, J false b3 b6 b8 b10 b12 b14 a w → wpOp P ops Q 1 (J true b3 b6 b8 b10 b12 b14) a w)
    (h3 : ∀ b6 b8 b10 b12 b14 a w, J true false b6 b8 b10 b12 b14 a w → wpOp P ops Q 3 (J true true b6 b8 b10 b12 b14) a w)
    (h6 : ∀ b1 b3 b8 b10 b12 b14 a w, J b1 b3 false b8 b10 b12 b14 a w → wpOp P ops Q 6 (J b1 b3 true b8 b10 b12 b14) a w)
    (h8 : ∀ b1 b3 b6 b10 b12 b14 a w, J b1 b3 b6 false b10 b12 b14 a w → wpOp P ops Q 8 (J b1 b3 b6 true b10 b12 b14) a w)
    (h10 : ∀ b1 b3 b6 b8 b12 b14 a w, J b1 b3 b6 b8 false b12 b14 a w → wpOp P ops Q 10 (J b1 b3 b6 b8 true b12 b14) a w)
    (h12 : ∀ b1 b3 b6 b8 b10 b14 a w, J b1 b3 b6 b8 b10 false b14 a w → wpOp P ops Q 12 (J b1 b3 b6 b8 b10 true b14) a w)
    (h14 : ∀ b1 b3 b6 b8 b10 b12 a w, J b1 b3 b6 b8 b10 b12 false a w → wpOp P ops Q 14 (J b1 b3 b6 b8 b10 b12 true) a w)
    (hend : ∀ a w, J true true true true true true true a w → wpAny P md ops Q 3 (lst true true true true true true true) a w) :
    ∀ (k : Nat) (b1 b3 b6 b8 b10 b12 b14 : Bool) (a : Act) (w : World), bits b1 b3 b6 b8 b10 b12 b14 = k → J b1 b3 b6 b8 b10 b12 b14 a w → wpAny P md ops Q (3 + k) (lst b1 b3 b6 b8 b10 b12 b14) a w := by
  intro k
  induction k with
  | zero =>
    intro b1 b3 b6 b8 b10 b12 b14 a w hk hJ
    have : b1 = true ∧ b3 = true ∧ b6 = true ∧ b8 = true ∧ b10 = true ∧ b12 = true ∧ b14 = true := by
      revert hk; cases b1 <;> cases b3 <;> cases b6 <;> cases b8 <;> cases b10 <;> cases b12 <;> cases b14 <;> simp [bits, bit]
    obtain ⟨rfl, rfl, rfl, rfl, rfl, rfl, rfl⟩ := this
    exact hend a w hJ
  | succ k ih =>
    intro b1 b3 b6 b8 b10 b12 b14 a w hk hJ
    have hall : (b1 && b3 && b6 && b8 && b10 && b12 && b14) = false := by
      revert hk; cases b1 <;> cases b3 <;> cases b6 <;> cases b8 <;> cases b10 <;> cases b12 <;> cases b14 <;> simp [bits, bit]
    refine ⟨fun h0 => ?_, fun i hi => ?_⟩
    · rw [hready] at h0
      revert h0 hall
      cases b1 <;> cases b3 <;> cases b6 <;> cases b8 <;> cases b10 <;> cases b12 <;> cases b14 <;> simp [expected, one]
    · rw [hready] at hi
      simp only [expected, List.mem_append, mem_one, hall, Bool.not_false, Bool.true_eq_false, false_and, or_false] at hi
      have hstep : ∀ (c1 c3 c6 c8 c10 c12 c14 : Bool), bits c1 c3 c6 c8 c10 c12 c14 = k → ∀ a w, J c1 c3 c6 c8 c10 c12 c14 a w → wpAny P md ops Q (3 + k) (lst c1 c3 c6 c8 c10 c12 c14) a w := fun c1 c3 c6 c8 c10 c12 c14 hc a w h => ih c1 c3 c6 c8 c10 c12 c14 a w hc h
      rcases hi with ⟨rfl, rfl⟩ | ⟨hb, rfl⟩ | ⟨rfl, rfl⟩ | ⟨rfl, rfl⟩ | ⟨rfl, rfl⟩ | ⟨rfl, rfl⟩ | ⟨rfl, rfl⟩
      · exact wpOp_mono (fun a w h => hstep true b3 b6 b8 b10 b12 b14 (by simp only [bits, bit] at hk ⊢; simp at hk ⊢; omega) a w h) (h1 _ _ _ _ _ _ a w hJ)
      · simp only [Bool.or_eq_false_iff, Bool.not_eq_false'] at hb
        obtain ⟨rfl, rfl⟩ := hb
        exact wpOp_mono (fun a w h => hstep true true b6 b8 b10 b12 b14 (by simp only [bits, bit] at hk ⊢; simp at hk ⊢; omega) a w h) (h3 _ _ _ _ _ a w hJ)
      · exact wpOp_mono (fun a w h => hstep b1 b3 true b8 b10 b12 b14 (by simp only [bits, bit] at hk ⊢; simp at hk ⊢; omega) a w h) (h6 _ _ _ _ _ _ a w hJ)
      · exact wpOp_mono (fun a w h => hstep b1 b3 b6 true b10 b12 b14 (by simp only [bits, bit] at hk ⊢; simp at hk ⊢; omega) a w h) (h8 _ _ _ _ _ _ a w hJ)
      · exact wpOp_mono (fun a w h => hstep b1 b3 b6 b8 true b12 b14 (by simp only [bits, bit] at hk ⊢; simp at hk ⊢; omega) a w h) (h10 _ _ _ _ _ _ a w hJ)
      · exact wpOp_mono (fun a w h => hstep b1 b3 b6 b8 b10 true b14 (by simp only [bits, bit] at hk ⊢; simp at hk ⊢; omega) a w h) (h12 _ _ _ _ _ _ a w hJ)
      · exact wpOp_mono (fun a w h => hstep b1 b3 b6 b8 b10 b12 true (by simp only [bits, bit] at hk ⊢; simp at hk ⊢; omega) a w h) (h14 _ _ _ _ _ _ a w hJ)
end CY
end Go.Proofs.Qxb6003137a
