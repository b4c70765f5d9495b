/- FnApplyMatchesBackwardModel: the row. -/
import Derived.Test.Qxb6001673aAppMain
import Derived.Test.Qxb6001673aAppFacts
import Derived.OpenShut
import Derived.SliceStrings
import Derived.Deep.Slices
namespace Go.Proofs.Qxb6001673a.App
open Go.ChangeShapes Go.WideShapes Go.ChangeAt Go.RowKit
set_option linter.unusedVariables false
set_option linter.unusedSimpArgs false

theorem ownK : ownKnob Try.prog.godebug = none := by kernel_rfl
theorem laidOut : laidOutB Try.prog = true := by kernel_rfl
theorem cells85 : Try.prog.cellsOf 85 = 5 := by kernel_rfl
theorem cells31 : Try.prog.cellsOf 31 = 1 := by kernel_rfl
theorem cells3 : Try.prog.cellsOf 3 = 1 := by kernel_rfl
theorem cells2 : Try.prog.cellsOf 2 = 1 := by kernel_rfl
theorem cells9 : Try.prog.cellsOf 9 = 1 := by kernel_rfl
theorem cells4 : Try.prog.cellsOf 4 = 1 := by kernel_rfl

/-- The bounds that a reading gives. -/
def Bnd (o : O) : Prop := o.tags.length ≤ 9223372036854775807 ∧ (∀ s ∈ o.tags, s.size ≤ 9223372036854775807) ∧ o.grp.size ≤ 9223372036854775807

/-- A []string cell, opened: nil or not. -/
theorem open_strs {H : Type} {enc : TypeId × Value → H} {W : World} {fuel : Nat} {c : Value} {y : DataW H × List MemPlace} (hf : DataW.trod enc Try.prog W 0 (fun _ => true) true fuel 31 [c] = some y) :
    ∃ (ss : List ByteArray) (a0 : Option Addr) (b off cap : Nat), c = .slice a0 ss.length cap ∧ SS W a0 b off ss ∧ Hid (a0 = none → ss.length = 0 ∧ cap = 0) ∧ ss.length ≤ 9223372036854775807 ∧ ∀ s ∈ ss, s.size ≤ 9223372036854775807 := by
  rcases open_strings Try.underlying31 Try.underlying9 cells9 hf with ⟨hcs, _⟩ | ⟨a, l, cp, ss, hcs, _, hl, hm, hz, _, hcell, hws⟩
  · simp at hcs
    subst hcs
    exact ⟨[], none, 0, 0, 0, rfl, ⟨fun h => by simp at h, fun i hi => by simp at hi⟩, fun _ => ⟨rfl, rfl⟩, by simp, by simp⟩
  · simp at hcs
    subst hcs
    simp only [if_true] at hz
    unfold maxLen at hm hws
    have e1 : (ss.take l).length = l := by simp; omega
    refine ⟨ss.take l, some a, a.block, a.off, cp, by rw [e1], ⟨fun h => ?_, fun i hi => ?_⟩, (fun h => by cases h), by omega, fun s hs => hws s (List.mem_of_mem_take hs)⟩
    · have h0 := World.cell?_spot (hcell 0 (by omega))
      have : a.spot = none := by simpa [Addr.add] using h0
      cases a; simp_all
    · rw [e1] at hi
      have h0 := World.cell?_spot (hcell 0 (by omega))
      have hsp : a.spot = none := by simpa [Addr.add] using h0
      have := hcell i (by omega)
      have e2 : a.add i = ⟨a.block, a.off + i, none⟩ := by
        cases a; simp only at hsp; subst hsp; exact Addr.add_lit _ _ _
      rw [e2] at this
      rw [this]
      have h2 : i < ss.length := by omega
      simp [List.getD, hi]

theorem len5 {α : Type} (l : List α) (h : l.length = 5) : ∃ a b c d e, l = [a, b, c, d, e] := by
  match l, h with
  | [a, b, c, d, e], _ => exact ⟨a, b, c, d, e, rfl⟩

/-- One option, opened. -/
theorem open_opt {H : Type} {enc : TypeId × Value → H} {W : World} {fuel : Nat} {a : Addr} {cs : List Value} {y : DataW H × List MemPlace} (hc : W.cells? 0 a 5 = some cs) (h : DataW.trod enc Try.prog W 0 (fun _ => true) true fuel 85 cs = some y) :
    ∃ o : O, OptAt W a.block a.off 0 o ∧ Bnd o ∧ a.spot = none := by
  obtain ⟨_, hlen, hcell⟩ := World.cells?_some hc
  obtain ⟨xs, n, _, _, _, hxl, hf⟩ := DataW.trod_struct Try.underlying85 h
  obtain ⟨c0, c1, c2, c3, c4, rfl⟩ := len5 cs hlen
  obtain ⟨y0, y1, y2, y3, y4, rfl⟩ := len5 xs hxl
  have t0 : DataW.trod enc Try.prog W 0 (fun _ => true) true n 31 [c0] = some y0 := by have := hf 0 _ rfl; simpa [cells31] using this
  have t1 : DataW.trod enc Try.prog W 0 (fun _ => true) true n 3 [c1] = some y1 := by have := hf 1 _ rfl; simpa [cells3] using this
  have t2 : DataW.trod enc Try.prog W 0 (fun _ => true) true n 2 [c2] = some y2 := by have := hf 2 _ rfl; simpa [cells2] using this
  have t3 : DataW.trod enc Try.prog W 0 (fun _ => true) true n 9 [c3] = some y3 := by have := hf 3 _ rfl; simpa [cells9] using this
  have t4 : DataW.trod enc Try.prog W 0 (fun _ => true) true n 4 [c4] = some y4 := by have := hf 4 _ rfl; simpa [cells4] using this
  obtain ⟨ss, a0, b, off, cap, rfl, hss, hn, hl, hs⟩ := open_strs t0
  obtain ⟨att, e1, _, _⟩ := DataW.trod_int Try.underlying3 t1
  obtain ⟨win, e2, _, _⟩ := DataW.trod_int Try.underlying2 t2
  obtain ⟨grp, e3, _, hg⟩ := DataW.trod_string Try.underlying9 t3
  obtain ⟨grd, e4, _⟩ := DataW.trod_bool Try.underlying4 t4
  simp at e1 e2 e3 e4
  subst e1 e2 e3 e4
  have k0 := hcell 0 (by omega)
  have hsp : a.spot = none := by simpa [Addr.add] using World.cell?_spot k0
  obtain ⟨ab, ao, asp⟩ := a
  simp only at hsp
  subst hsp
  refine ⟨{ tags := ss, att := att, win := win, grp := grp, grd := grd }, ⟨⟨a0, b, off, cap, ?_, hss, hn, fun _ => Nat.zero_le _⟩, ?_, ?_, ?_, ?_⟩, ⟨hl, hs, hg⟩, rfl⟩
  · simpa [Addr.add_lit] using k0
  · simpa [Addr.add_lit] using hcell 1 (by omega)
  · simpa [Addr.add_lit] using hcell 2 (by omega)
  · simpa [Addr.add_lit] using hcell 3 (by omega)
  · simpa [Addr.add_lit] using hcell 4 (by omega)

theorem list_of {P : Nat → O → Prop} : ∀ n, (∀ i, i < n → ∃ o, P i o) → ∃ os : List O, os.length = n ∧ ∀ i (h : i < os.length), P i os[i]
  | 0, _ => ⟨[], rfl, fun i h => by simp at h⟩
  | n + 1, h => by
    obtain ⟨os, hl, hp⟩ := list_of n (fun i hi => h i (by omega))
    obtain ⟨o, ho⟩ := h n (by omega)
    refine ⟨os ++ [o], by simp [hl], fun i hi => ?_⟩
    by_cases e : i < os.length
    · rw [List.getElem_append_left e]; exact hp i e
    · have : i = n := by simp at hi; omega
      subst this
      rw [List.getElem_append_right (by omega)]
      simpa [hl] using ho

set_option maxRecDepth 100000 in
/-- The []ZOpt argument, opened. -/
theorem open_opts {H : Type} {enc : TypeId × Value → H} {W : World} {a0 : Option Addr} {len cap : Nat} {d : DataW H} {p : List MemPlace} (h : DataW.Trod enc Try.prog W 0 (fun _ => true) true 72 (.slice a0 len cap) d p) :
    ∃ (os : List O) (b off : Nat), os.length = len ∧ OS W a0 b off 0 os ∧ Hid (a0 = none → len = 0 ∧ cap = 0) ∧ len ≤ 9223372036854775807 ∧ ∀ o ∈ os, Bnd o := by
  obtain ⟨fuel, hf⟩ := h
  rcases Deep.open_slice Try.underlying72 hf with ⟨hcs, _⟩ | ⟨a, l, cp, m, n, D, Pl, hcs, _, hl, hm, hmm, _, hel⟩
  · simp [Value.cells] at hcs
    obtain ⟨rfl, rfl, rfl⟩ := hcs
    exact ⟨[], 0, 0, rfl, ⟨fun h => by simp at h, fun i hi => by simp at hi⟩, fun _ => ⟨rfl, rfl⟩, by omega, by simp⟩
  · simp [Value.cells] at hcs
    obtain ⟨rfl, rfl, rfl⟩ := hcs
    simp only [if_true] at hmm
    subst hmm
    unfold maxLen at hm
    obtain ⟨os, hol, hos⟩ := list_of (P := fun i o => OptAt W a.block (a.off + i * 5) 0 o ∧ Bnd o ∧ a.spot = none) len (fun i hi => by
      obtain ⟨cs', h1, h2⟩ := hel i (by omega)
      rw [cells85] at h1
      obtain ⟨o, h3, h4, h5⟩ := open_opt h1 h2
      obtain ⟨ab, ao, asp⟩ := a
      by_cases e : i = 0
      · subst e
        have hsp : asp = none := by simpa [Addr.add] using h5
        subst hsp
        exact ⟨o, by simpa [Addr.add] using h3, h4, rfl⟩
      · obtain ⟨cs0, g1, g2⟩ := hel 0 (by omega)
        rw [cells85] at g1
        obtain ⟨_, _, _, g5⟩ := open_opt g1 g2
        have hsp : asp = none := by simpa [Addr.add] using g5
        subst hsp
        rw [Addr.add_lit] at h3
        exact ⟨o, h3, h4, rfl⟩)
    refine ⟨os, a.block, a.off, hol, ⟨fun h0 => ?_, fun i hi => (hos i hi).1⟩, (fun h => by cases h), by omega, fun o ho => ?_⟩
    · have hsp := (hos 0 h0).2.2
      cases a; simp only at hsp; subst hsp; rfl
    · obtain ⟨i, hi, rfl⟩ := List.getElem_of_mem ho
      exact (hos i hi).2.1

set_option maxRecDepth 100000 in
theorem lifted (os : Os) (started : os.Started) (H : Type) (enc : TypeId × Value → H) :
    ReturnsInHanded {} Try.checked os 11 .any (Rows.fnApplyMatchesBackwardModelSpec.pre6 enc Try.prog Try.f11 Rows.fnApplyMatchesBackwardModelRow.domain false) (Rows.fnApplyMatchesBackwardModelSpec.post enc Try.prog Try.f11 false true false false) := by
  refine returnsInHanded_of_change (C := Try.checked) ownK started (by kernel_rfl) Try.func11
    (ChangeSpec.witness6 (enc := enc) (C := Try.checked) false ⟨#[], #[.slice none 0 0], []⟩ 8 (by kernel_rfl) (by kernel_rfl) (by kernel_rfl) (by kernel_rfl)) ?_
  intro W base args ds gs before hval0 hW hcnd _
  have hval : ∀ (j : Nat) t v, Try.f11.params[j]? = some t → args[j]? = some v → Value.okWide Try.prog W .any base t v := hval0
  have hW' := hW
  obtain ⟨p, q, hA0, hV, rfl, hfz, hnd⟩ := hW
  have hA : DataW.TrodAll enc Try.prog W 0 (fun _ => true) true Try.f11.params.toList args.toList ds p := hA0
  rw [Try.params11] at hA hval
  obtain ⟨v0, vs0, d0, ds0, p0, q0, hargs, rfl, rfl, h0, r0⟩ := trodAll_cons hA
  obtain ⟨rfl, rfl, rfl⟩ := trodAll_nil r0
  obtain rfl : args = #[v0] := by cases args; simp_all
  obtain ⟨rfl, rfl⟩ := trodVars_none hV
  obtain ⟨a0, len0, cap0, rfl⟩ := okWide_slice Try.underlying72 (hval 0 72 v0 rfl rfl)
  have lt0 : ∀ x ∈ p0, x.block < W.heap.size := by obtain ⟨m, hm⟩ := h0; exact DataW.trod_lt m _ _ _ hm
  obtain ⟨s0, b0, o0, rfl, ss0, n0, l0, bd0⟩ := open_opts h0
  clear hA0 hval0
  refine (main_walk s0 a0 b0 o0 cap0 W ss0 n0 l0 bd0).mono fun e W' ⟨he, bel⟩ => ?_
  subst he
  exact ⟨_, rfl, _, _, _, [], _, [], hW', trodAll_mk1 (shut_bool Try.underlying4 _), (trodAll_cons_mk (Below.trod laidOut (by kernel_rfl) (of_decide_eq_true (by kernel_rfl)) h0 bel lt0) trodAll_mk0), rfl, bel.frame _, fun h => by cases h⟩

theorem over : Rows.fnApplyMatchesBackwardModelRow.holds Try.pinned (OpenSpec.ofChange Rows.fnApplyMatchesBackwardModelSpec) :=
  OpenClaim.holds_of_wide 11 Try.f11 rfl rfl rfl rfl rfl rfl rfl ⟨rfl, rfl, rfl, rfl, rfl⟩ rfl rfl rfl rfl rfl fact1 Try.func11 fact2
    (of_decide_eq_true fact3) fact4
    (fun os started H enc _ => lifted os started H enc)

/-- THE STATEMENT -/
theorem proved : Rows.FnApplyMatchesBackwardModelSaid := over
#print axioms proved
end Go.Proofs.Qxb6001673a.App
