/- FnEndLineDCFPartsAgree: the row. -/
import Derived.Test.Qxb6001700aParts
import Derived.Test.Qxb6001700aPartsAFacts
import Derived.OpenShut
import Derived.SliceStrings
namespace Go.Proofs.Qxb6001700a.PartsA
open Go.ChangeShapes Go.WideShapes Go.ChangeAt Go.RowKit
set_option linter.unusedVariables false

theorem ownK : ownKnob Try.prog.godebug = none := by kernel_rfl
theorem laidOut : laidOutB Try.prog = true := by kernel_rfl

/-- A []string argument, opened: nil or not. -/
theorem open_strs31 {H : Type} {enc : TypeId × Value → H} {W : World} {a0 : Option Addr} {len cap : Nat} {d : DataW H} {p : List MemPlace} (h : DataW.Trod enc Try.prog W 0 (fun _ => true) true 31 (.slice a0 len cap) d p) :
    ∃ (ss : List ByteArray) (b off : Nat), ss.length = len ∧ SS W a0 b off ss ∧ Hid (a0 = none → len = 0 ∧ cap = 0) ∧ len ≤ 9223372036854775807 := by
  obtain ⟨fuel, hf⟩ := h
  rcases open_strings Try.underlying31 Try.underlying9 (by kernel_rfl) hf with ⟨hcs, _⟩ | ⟨a, l, c, ss, hcs, _, hl, hm, hz, _, hcell, hws⟩
  · simp [Value.cells] at hcs
    obtain ⟨rfl, rfl, rfl⟩ := hcs
    exact ⟨[], 0, 0, rfl, ⟨fun h => by simp at h, fun i hi => by simp at hi⟩, fun _ => ⟨rfl, rfl⟩, by omega⟩
  · simp [Value.cells] at hcs
    obtain ⟨rfl, rfl, rfl⟩ := hcs
    simp only [if_true] at hz
    unfold maxLen at hm
    have e1 : (ss.take len).length = len := by simp; omega
    refine ⟨ss.take len, a.block, a.off, e1, ⟨fun h => ?_, fun i hi => ?_⟩, (fun h => by cases h), by omega⟩
    · have h0 := World.cell?_spot (hcell 0 (by omega))
      have : a.spot = none := by simpa [Addr.add] using h0
      cases a; simp_all
    · rw [e1] at hi
      have h0 := World.cell?_spot (hcell 0 (by omega))
      have hsp : a.spot = none := by simpa [Addr.add] using h0
      have := hcell i (by omega)
      have e2 : a.add i = ⟨a.block, a.off + i, none⟩ := by
        cases a; simp only at hsp; subst hsp; exact Addr.add_lit _ _ _
      rw [e2] at this
      rw [this]
      have h2 : i < ss.length := by omega
      simp [List.getD, hi]

theorem take_getD (zs : List Int) (len i : Nat) (h : i < len) : (zs.take len).getD i 0 = zs.getD i 0 := by
  simp [List.getD, h]

/-- A []int argument, opened: nil or not. -/
theorem open_ints40 {H : Type} {enc : TypeId × Value → H} {W : World} {a0 : Option Addr} {len cap : Nat} {d : DataW H} {p : List MemPlace} (h : DataW.Trod enc Try.prog W 0 (fun _ => true) true 40 (.slice a0 len cap) d p) :
    ∃ (ss : List Int) (b off : Nat), ss.length = len ∧ EL.IS W a0 b off ss ∧ Hid (a0 = none → len = 0 ∧ cap = 0) ∧ len ≤ 9223372036854775807 := by
  obtain ⟨fuel, hf⟩ := h
  rcases open_ints Try.underlying40 Try.underlying3 (by kernel_rfl) hf with ⟨hcs, _⟩ | ⟨a, l, c, ss, hcs, _, hl, hm, hz, _, hcell, hws⟩
  · simp [Value.cells] at hcs
    obtain ⟨rfl, rfl, rfl⟩ := hcs
    exact ⟨[], 0, 0, rfl, ⟨fun h => by simp at h, fun i hi => by simp at hi⟩, fun _ => ⟨rfl, rfl⟩, by omega⟩
  · simp [Value.cells] at hcs
    obtain ⟨rfl, rfl, rfl⟩ := hcs
    simp only [if_true] at hz
    unfold maxLen at hm
    have e1 : (ss.take len).length = len := by simp; omega
    refine ⟨ss.take len, a.block, a.off, e1, ⟨fun h => ?_, fun i hi => ?_⟩, (fun h => by cases h), by omega⟩
    · have h0 := World.cell?_spot (hcell 0 (by omega))
      have : a.spot = none := by simpa [Addr.add] using h0
      cases a; simp_all
    · rw [e1] at hi
      have h0 := World.cell?_spot (hcell 0 (by omega))
      have hsp : a.spot = none := by simpa [Addr.add] using h0
      have := hcell i (by omega)
      have e2 : a.add i = ⟨a.block, a.off + i, none⟩ := by
        cases a; simp only at hsp; subst hsp; exact Addr.add_lit _ _ _
      rw [e2] at this
      rw [this, take_getD _ _ _ hi]

set_option maxRecDepth 100000 in
theorem lifted (os : Os) (started : os.Started) (H : Type) (enc : TypeId × Value → H) :
    ReturnsInHanded {} Try.checked os 9 .any (Rows.fnEndLineDCFPartsAgreeSpec.pre6 enc Try.prog Try.f9 Rows.fnEndLineDCFPartsAgreeRow.domain false) (Rows.fnEndLineDCFPartsAgreeSpec.post enc Try.prog Try.f9 false true false false) := by
  refine returnsInHanded_of_change (C := Try.checked) ownK started (by kernel_rfl) Try.func9
    (ChangeSpec.witness6 (enc := enc) (C := Try.checked) false ⟨#[], #[.slice none 0 0, .slice none 0 0], []⟩ 8 (by kernel_rfl) (by kernel_rfl) (by kernel_rfl) (by kernel_rfl)) ?_
  intro W base args ds gs before hval0 hW hcnd _
  have hval : ∀ (j : Nat) t v, Try.f9.params[j]? = some t → args[j]? = some v → Value.okWide Try.prog W .any base t v := hval0
  have hW' := hW
  obtain ⟨p, q, hA0, hV, rfl, hfz, hnd⟩ := hW
  have hA : DataW.TrodAll enc Try.prog W 0 (fun _ => true) true Try.f9.params.toList args.toList ds p := hA0
  rw [Try.params9] at hA hval
  obtain ⟨v0, vs0, d0, ds0, p0, q0, hargs, rfl, rfl, h0, r0⟩ := trodAll_cons hA
  obtain ⟨v1, vs1, d1, ds1, p1, q1, rfl, rfl, rfl, h1, r1⟩ := trodAll_cons r0
  obtain ⟨rfl, rfl, rfl⟩ := trodAll_nil r1
  obtain rfl : args = #[v0, v1] := by cases args; simp_all
  obtain ⟨rfl, rfl⟩ := trodVars_none hV
  obtain ⟨a0, len0, cap0, rfl⟩ := okWide_slice Try.underlying31 (hval 0 31 v0 rfl rfl)
  have lt0 : ∀ x ∈ p0, x.block < W.heap.size := by obtain ⟨m, hm⟩ := h0; exact DataW.trod_lt m _ _ _ hm
  obtain ⟨s0, b0, o0, rfl, ss0, n0, l0⟩ := open_strs31 h0
  obtain ⟨a1, len1, cap1, rfl⟩ := okWide_slice Try.underlying40 (hval 1 40 v1 rfl rfl)
  have lt1 : ∀ x ∈ p1, x.block < W.heap.size := by obtain ⟨m, hm⟩ := h1; exact DataW.trod_lt m _ _ _ hm
  obtain ⟨s1, b1, o1, rfl, ss1, n1, l1⟩ := open_ints40 h1
  clear hA0 hval0
  refine (EL.parts_walk s0 s1 a0 a1 b0 o0 cap0 b1 o1 cap1 W ss0 ss1 n0 n1 l0 l1).mono fun e W' ⟨he, bel⟩ => ?_
  subst he
  exact ⟨_, rfl, _, _, _, [], _, [], hW', trodAll_mk1 (shut_bool Try.underlying4 _), (trodAll_cons_mk (Below.trod laidOut (by kernel_rfl) (of_decide_eq_true (by kernel_rfl)) h0 bel lt0) (trodAll_cons_mk (Below.trod laidOut (by kernel_rfl) (of_decide_eq_true (by kernel_rfl)) h1 bel lt1) trodAll_mk0)), rfl, bel.frame _, fun h => by cases h⟩

theorem over : Rows.fnEndLineDCFPartsAgreeRow.holds Try.pinned (OpenSpec.ofChange Rows.fnEndLineDCFPartsAgreeSpec) :=
  OpenClaim.holds_of_wide 9 Try.f9 rfl rfl rfl rfl rfl rfl rfl ⟨rfl, rfl, rfl, rfl, rfl⟩ rfl rfl rfl rfl rfl fact1 Try.func9 fact2
    (of_decide_eq_true fact3) fact4
    (fun os started H enc _ => lifted os started H enc)

/-- THE STATEMENT -/
theorem proved : Rows.FnEndLineDCFPartsAgreeSaid := over
#print axioms proved
end Go.Proofs.Qxb6001700a.PartsA
