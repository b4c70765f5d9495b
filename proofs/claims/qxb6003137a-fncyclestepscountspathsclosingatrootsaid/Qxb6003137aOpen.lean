/- The arguments, opened. -/
import Derived.Test.Qxb6003137aMem
import Derived.OpenShut
import Derived.Deep.Matrix
namespace Go.Proofs.Qxb6003137a
open Go.ChangeShapes Go.WideShapes Go.ChangeAt Go.RowKit Go.Deep
set_option linter.unusedVariables false
namespace CY

theorem wf32 {n : Int} (h : (Lit.int .i32 n).wf = true) : -2147483648 ≤ n ∧ n ≤ 2147483647 := by
  simp only [Lit.wf, Bool.and_eq_true, decide_eq_true_eq] at h
  have h1 : IntKind.i32.min = -2147483648 := by decide
  have h2 : IntKind.i32.max = 2147483647 := by decide
  rw [h1, h2] at h
  exact h
theorem wf64 {n : Int} (h : (Lit.int .i64 n).wf = true) : -9223372036854775808 ≤ n ∧ n ≤ 9223372036854775807 := by
  simp only [Lit.wf, Bool.and_eq_true, decide_eq_true_eq] at h
  have h1 : IntKind.i64.min = -9223372036854775808 := by decide
  have h2 : IntKind.i64.max = 9223372036854775807 := by decide
  rw [h1, h2] at h
  exact h

/-- A [][]int32 argument, opened: nil or not. -/
theorem open_rows22 {H : Type} {enc : TypeId × Value → H} {W : World} {a0 : Option Addr} {len cap : Nat} {d : DataW H} {p : List MemPlace} (h : DataW.Trod enc Try.prog W 0 (fun _ => true) true 22 (.slice a0 len cap) d p) :
    ∃ (G : List (List Int)) (b off : Nat), G.length = len ∧ GR W 0 W.heap.size a0 b off G ∧ Fits G ∧ len ≤ 9223372036854775807 := by
  obtain ⟨fuel, hf⟩ := h
  rcases open_int_rows Try.underlying22 Try.underlying35 Try.underlying21 (by kernel_rfl) (by kernel_rfl) hf with ⟨hcs, _⟩ | ⟨a, l, c, A, L, C, Z, hcs, _, hl, hm, _, hrow⟩
  · simp [Value.cells] at hcs
    obtain ⟨rfl, rfl, rfl⟩ := hcs
    exact ⟨[], 0, 0, rfl, ⟨fun h => by simp at h, fun h => by simp at h, Nat.le_refl _, fun i hi => by simp at hi⟩, fun i hi => by simp at hi, by omega⟩
  · simp [Value.cells] at hcs
    obtain ⟨rfl, rfl, rfl⟩ := hcs
    unfold maxLen at hm
    have hlen : ((List.range len).map (fun r => (Z r).take (L r))).length = len := by simp
    have hget : ∀ i, i < len → ((List.range len).map (fun r => (Z r).take (L r))).getD i [] = (Z i).take (L i) := fun i hi => by simp [List.getD, hi]
    have hrl : ∀ i, i < len → ((Z i).take (L i)).length = L i := fun i hi => by
      obtain ⟨_, h2, _, h4, _⟩ := hrow i (by omega)
      rw [List.length_take, h4]
      omega
    have hsp : 0 < len → a.spot = none := fun h0 => by
      have := World.cell?_spot (hrow 0 (by omega)).1
      simpa [Addr.add] using this
    have hadd : ∀ i, i < len → a.add i = ⟨a.block, a.off + i, none⟩ := fun i hi => by
      have := hsp (by omega)
      cases a; simp only at this; subst this; exact Addr.add_lit _ _ _
    refine ⟨(List.range len).map (fun r => (Z r).take (L r)), a.block, a.off, hlen, ⟨fun h0 => ?_, fun h0 => ?_, Nat.le_refl _, fun i hi => ?_⟩, fun i hi j hj => ?_, by omega⟩
    · rw [hlen] at h0
      have := hsp h0
      cases a; simp only at this; subst this; rfl
    · rw [hlen] at h0
      have h1 := (hrow 0 (by omega)).1
      rw [hadd 0 h0] at h1
      exact ⟨Nat.zero_le _, World.block_lt_of_cell? W ⟨a.block, a.off + 0, none⟩ h1⟩
    · rw [hlen] at hi
      rw [hget i hi, hrl i hi]
      obtain ⟨h1, h2, h3, h4, _, h6, h7⟩ := hrow i (by omega)
      rw [hadd i hi] at h1
      cases hA : A i with
      | none =>
        have hC := h6 hA
        refine ⟨none, 0, 0, C i, by rw [h1, hA], fun h0 => by omega, fun j hj => by omega⟩
      | some a' =>
        obtain ⟨_, h8⟩ := h7 a' hA
        have hs' : 0 < C i → a'.spot = none := fun h0 => by
          have := World.cell?_spot (h8 0 h0)
          simpa [Addr.add] using this
        have hadd' : ∀ j, j < C i → a'.add j = ⟨a'.block, a'.off + j, none⟩ := fun j hj => by
          have := hs' (by omega)
          cases a'; simp only at this; subst this; exact Addr.add_lit _ _ _
        refine ⟨some a', a'.block, a'.off, C i, by rw [h1, hA], fun h0 => ⟨?_, Nat.zero_le _, ?_⟩, fun j hj => ?_⟩
        · have := hs' (by omega)
          cases a'; simp only at this; subst this; rfl
        · have h9 := h8 0 (by omega)
          rw [hadd' 0 (by omega)] at h9
          exact World.block_lt_of_cell? W ⟨a'.block, a'.off + 0, none⟩ h9
        · have h9 := h8 j (by omega)
          rw [hadd' j (by omega)] at h9
          rw [h9]
          simp [List.getD, hj]
    · rw [hlen] at hi
      rw [hget i hi] at hj ⊢
      rw [hrl i hi] at hj
      obtain ⟨_, h2, _, h4, h5, _⟩ := hrow i (by omega)
      have hjz : j < (Z i).length := by omega
      have e : ((Z i).take (L i)).getD j 0 = (Z i)[j] := by simp [List.getD, hj, hjz]
      rw [e]
      exact wf32 (h5 _ (List.getElem_mem hjz))
end CY
end Go.Proofs.Qxb6003137a
