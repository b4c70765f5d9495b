/- grow. -/
import Derived.Test.Qxb6001700aRead

import Derived.Lib.MinMax
import Derived.Deep.CutBlock
import Derived.Deep.DeepCutAuto
import Derived.Laws.CopyOwn
import Derived.Deep.RegionHeld3
import Derived.Deep.RegionLaw
namespace Go.Proofs.Qxb6001700a
open Go.ChangeShapes Go.WideShapes Go.ChangeAt Go.RowKit
set_option linter.unusedVariables false
set_option linter.unusedSimpArgs false
namespace EL

theorem info5 : (Try.prog.info? 5).map (fun i => (i.zero, i.size, i.bytes)) = some (some (.int .u8 0), 1, 1) := by kernel_rfl
theorem info25 : (Try.prog.info? 25).map (fun i => (i.zero, i.size, i.bytes)) = some (some (.slice none 0 0), 1, 24) := by kernel_rfl
theorem size5 : (Try.prog.info? 5).map (·.size) = some 1 := by kernel_rfl

/-- 'make([]T, n, c)'. -/
theorem wpList_make_lc {P : Program} (w : World) {ops : Array Oper} {rest : List Oper} {o : Oper} {a : Act} {Q : Exit → Act → World → Prop}
    (hg : o.guard = none) (l c : Operand) (t : TypeId) (hop : o.op = Op.makeSlice t l c)
    (e : TypeId) (i : TypeInfo) (z : Value) (h1 : P.underlying t = some (.slice e)) (h2 : P.info? e = some i) (h3 : i.zero = some z) (h4 : i.size = 1)
    (kl kc : IntKind) (L C : Int) (n m : Nat) (hl : a.eval l = .int kl L) (hc : a.eval c = .int kc C) (hL : L = (n : Int)) (hC : C = (m : Int)) (hnm : n ≤ m) (b2 : i.bytes * m ≤ 281474976710656) (b3 : m ≤ maxLen)
    (hK : ∀ (w' : World) (cur : List Value), w'.heap[w.heap.size]? = some (.cells cur.toArray e (0, 0)) → cur.length = m → Below w.heap.size w w' → w'.heap.size = w.heap.size + 1 → wpList P ops Q rest (a.put o.dst (.slice (some ⟨w.heap.size, 0, none⟩) n m)) w') :
    wpList P ops Q (o :: rest) a w := by
  refine wpList_plain hg fun K hK' => ?_
  subst hL
  subst hC
  unfold maxLen at b3
  have hrun := run_make (P := P) w t e i z h1 h2 h3 kl kc n m (by omega) (by omega) (by rw [← Int.natCast_mul]; omega) (by omega)
  unfold Oper.wp
  simp [execOp, hop, hl, hc, hrun, Result.andThen]
  refine hK' _ _ (hK _ (madeCells z.cells (m * i.size)).toList (by rw [Array.toArray_toList]; exact heap_alloc_new w _) (by simp [size_madeCells, h4]) ((Below.refl _ _).alloc (Nat.le_refl _) _) (by simp))

theorem make0 : ∃ M : Array Value, M.size = 65536 ∧ ∀ w : World, (Instr.makeSlice 25 (.int .i64 0) (.int .i64 65536)).run Try.prog w = .ok (.slice (some ⟨w.heap.size, 0, none⟩) 0 65536) (w.alloc (.cells M 5)) := by
  obtain ⟨i0, hi, hz0, hz1, hz2⟩ := info_parts info5
  have hN : ∀ N : Nat, ((N : Int) ≤ 281474976710656) → ∀ w : World, (Instr.makeSlice 25 (.int .i64 0) (.int .i64 N)).run Try.prog w = .ok (.slice (some ⟨w.heap.size, 0, none⟩) 0 N) (w.alloc (.cells (madeCells (Value.int .u8 0).cells N) 5)) := by
    intro N h w
    have := run_make (P := Try.prog) w 25 5 i0 _ Try.underlying25 hi hz0 .i64 .i64 0 (N : Int) (by omega) (by omega) (by rw [hz2]; omega) (by omega)
    rw [hz1] at this
    simpa only [Int.toNat_natCast, Int.toNat_zero, Nat.mul_one] using this
  exact ⟨madeCells (Value.int .u8 0).cells 65536, size_madeCells _ _, hN 65536 (by decide)⟩

/-- A buffer with the same bytes and room for more. -/
def Roomy (p : Nat) (s : St) (ln : Bool) (ls : Int) (ts : Bool) (w : World) (e : Ending) (w' : World) : Prop :=
  e = .returned (.tuple #[]) ∧ ∃ s', Buf w' p s' ln ls ts ∧ s'.bytes = s.bytes ∧ s'.last.length < capOf s'.vl ∧ Kept (s.fp p) (s'.fp p) w w'

theorem splice_take {α : Type} (L cs : List α) (h : cs.length ≤ L.length) : (splice L 0 cs).take cs.length = cs := by
  simp [splice]

/-- The first block, copied to a larger one. -/
theorem roomy_small {p : Nat} {s : St} {ln : Bool} {ls : Int} {ts : Bool} {w w2 : World} (h : Buf w p s ln ls ts) (hn : s.last.length < 65536) (hful : s.last.length = capOf s.vl) {m : Nat} (hm : s.last.length < m ∧ m ≤ 65536)
    {cur : List Value} (hcl : cur.length = m) (hg : w2.heap[w.heap.size]? = some (.cells (splice cur 0 (s.last.map bv)).toArray 5 (0, 0))) (hbel : Below w.heap.size w w2) :
    Roomy p s ln ls ts w (.returned (.tuple #[])) (w2.setCell ⟨p, 1, none⟩ (.slice (some ⟨w.heap.size, 0, none⟩) s.last.length m)) := by
  have hp := h.blk.lt
  have hown : w2.ownsRow (p + 1) 5 1 (.slice (some ⟨w.heap.size, 0, none⟩) s.last.length m) s.last.length (s.last.map bv) := by
    refine ⟨by simp, .inr ⟨_, m, _, rfl, by omega, hg, by omega, by unfold maxLen; omega, ?_, ?_⟩⟩
    · rw [List.size_toArray, length_splice _ _ _ (by simp; omega)]; omega
    · have := splice_take cur (s.last.map bv) (by simp; omega)
      simpa using this
  refine ⟨rfl, _, h.newLast (fun g hg => hbel.block g ?_) _ s.last hown ?_ ?_ ?_, rfl, ?_, ?_⟩
  · rcases hg with h0 | h0 | h0
    · exact (h.lt (.inl h0)).2
    · exact (h.lt (.inr (.inl h0))).2
    · exact (h.lt (.inr (.inr (.inr h0)))).2
  · intro x hx e
    have := (h.lt (.inr (.inr (.inr ⟨x, hx, rfl⟩)))).2
    simp [Value.ownBlock] at e
    omega
  · simpa [capOf] using hm.2
  · intro hne
    have := h.more hne
    omega
  · simpa [capOf] using hm.1
  · refine ((Kept.of_below (A := s.fp p) hbel).to' (fun g hg => ?_)).set (.inl rfl) 1 _
    rcases newLast_fp hg with h0 | h0
    · exact .inl h0
    · right; simp [Value.ownBlock] at h0; omega

theorem Kept.alloc {A A' : Nat → Prop} {w0 w : World} (h : Kept A A' w0 w) (o : Obj) : Kept A A' w0 (w.alloc o) :=
  ⟨h.os, h.tape, h.output, by simp; have := h.size; omega, fun g hg hn => (Below.heap_alloc w o g (Nat.lt_of_lt_of_le hg h.size)).trans (h.block g hg hn), h.sub⟩

/-- The filled block laid aside, a new one begun. -/
theorem roomy_full {p : Nat} {s : St} {ln : Bool} {ls : Int} {ts : Bool} {w w0 w1 : World} (h : Buf w p s ln ls ts) {g : Nat} (hv : s.vl = fullV g) (hn : s.last.length = 65536) (hw0 : Below w.heap.size w w0)
    {g' cap' : Nat} (hgrow : w0.grownBy w1 s.vf.ownBlock) (hown : w1.ownsRow (p + 1) 25 1 (.slice (some ⟨g', 0, none⟩) (s.fulls.length + 1) cap') (s.fulls.length + 1) (s.fulls.map (fun x => fullV x.1) ++ [fullV g]))
    (hat : s.vf.ownBlock = some g' ∨ g' = w0.heap.size) {M : Array Value} (hM : M.size = 65536) :
    Roomy p s ln ls ts w (.returned (.tuple #[])) (((w1.setCell ⟨p, 0, none⟩ (.slice (some ⟨g', 0, none⟩) (s.fulls.length + 1) cap')).alloc (.cells M 5)).setCell ⟨p, 1, none⟩ (.slice (some ⟨w1.heap.size, 0, none⟩) 0 65536)) := by
  have hp := h.blk.lt
  have hsz := hw0.size
  have hsz1 := hgrow.size
  have hkeep : ∀ k, k < w.heap.size → s.vf.ownBlock ≠ some k → w1.heap[k]? = w.heap[k]? := fun k hk hne => (hgrow.block k (by omega) (fun e => hne e.symm)).trans (hw0.block k hk)
  have hpne : s.vf.ownBlock ≠ some p := fun e => by have := h.own0.lt p e; omega
  have hkp := hkeep p hp hpne
  have hlast : w1.ownsRow (p + 1) 5 1 (fullV g) 65536 (s.last.map bv) := by
    have h1 := h.own1
    rw [hv, hn] at h1
    refine ownsRow_of_heap h1 (fun k hk => hkeep k (h1.lt k hk).2 (fun e => ownsRow_apart h.own0 h1 (by decide) e hk))
  have heach : ∀ x ∈ s.fulls, w1.ownsRow (p + 1) 5 1 (fullV x.1) 65536 (x.2.map bv) := fun x hx =>
    ownsRow_of_heap (h.each x hx) (fun k hk => hkeep k ((h.each x hx).lt k hk).2 (fun e => ownsRow_apart h.own0 (h.each x hx) (by decide) e hk))
  obtain ⟨W1, hW1⟩ : ∃ W1, w1.setCell ⟨p, 0, none⟩ (.slice (some ⟨g', 0, none⟩) (s.fulls.length + 1) cap') = W1 := ⟨_, rfl⟩
  have hs1 : W1.heap.size = w1.heap.size := by rw [← hW1]; simp [World.setCell]
  have hblk : Blk W1 p 53 5 := by rw [← hW1]; exact (h.blk.of_heap hkp).set _ _ _
  have hc0 : W1.cell? ⟨p, 0, none⟩ = some (.slice (some ⟨g', 0, none⟩) (s.fulls.length + 1) cap') := by rw [← hW1]; exact (h.blk.of_heap hkp).cell_same (by decide) _
  have hcq : ∀ q, q ≠ 0 → W1.cell? ⟨p, q, none⟩ = w.cell? ⟨p, q, none⟩ := fun q hq => by
    rw [← hW1, cell_other (fun e => hq e.symm)]; exact World.cell?_of_block (w := w) (a := ⟨p, q, none⟩) hkp
  have hpW : p < W1.heap.size := by omega
  have hal : ∀ q, (W1.alloc (.cells M 5)).cell? ⟨p, q, none⟩ = W1.cell? ⟨p, q, none⟩ := fun q => World.cell?_of_block (w := W1) (a := ⟨p, q, none⟩) (Below.heap_alloc W1 _ _ hpW)
  have hup : ∀ {e : TypeId} {v : Value} {n : Nat} {xs : List Value}, w1.ownsRow (p + 1) e 1 v n xs → ∀ u, ((W1.alloc (.cells M 5)).setCell ⟨p, 1, none⟩ u).ownsRow (p + 1) e 1 v n xs := by
    intro e v n xs hr u
    have h1 : W1.ownsRow (p + 1) e 1 v n xs := by rw [← hW1]; exact ownsRow_setCell_below hr (a := ⟨p, 0, none⟩) (Nat.lt_succ_self p) _
    exact ownsRow_setCell_below (h1.alloc _) (a := ⟨p, 1, none⟩) (Nat.lt_succ_self p) _
  rw [← hs1, hW1]
  refine ⟨rfl, { vf := .slice (some ⟨g', 0, none⟩) (s.fulls.length + 1) cap', vl := .slice (some ⟨W1.heap.size, 0, none⟩) 0 65536, fulls := s.fulls ++ [(g, s.last)], last := [] }, ⟨?_, ?_, ?_, ?_, ?_, ?_, ?_, ?_, ?_, ?_, ?_, ?_, ?_⟩, ?_, ?_, ?_⟩
  · rw [cell_other (by decide), hal]; exact hc0
  · exact (hblk.of_heap (Below.heap_alloc W1 _ _ hpW)).cell_same (by decide) _
  · rw [cell_other (by decide), hal, hcq 2 (by decide)]; exact h.c2
  · rw [cell_other (by decide), hal, hcq 3 (by decide)]; exact h.c3
  · rw [cell_other (by decide), hal, hcq 4 (by decide)]; exact h.c4
  · exact (hblk.of_heap (Below.heap_alloc W1 _ _ hpW)).set _ _ _
  · have := hup hown (.slice (some ⟨W1.heap.size, 0, none⟩) 0 65536)
    simpa using this
  · have h1 : (W1.alloc (.cells M 5)).ownsRow (p + 1) 5 1 (.slice (some ⟨W1.heap.size, 0, none⟩) 0 65536) 0 [] := World.ownsRow_made W1 M 65536 (by omega) (by decide) (by omega)
    exact ownsRow_setCell_below h1 (a := ⟨p, 1, none⟩) (Nat.lt_succ_self p) _
  · intro x hx
    rcases List.mem_append.1 hx with h1 | h1
    · exact hup (heach x h1) _
    · simp at h1
      subst h1
      exact hup hlast _
  · rw [List.map_append, List.nodup_append]
    refine ⟨h.nodup, by simp, ?_⟩
    intro a ha b hb e
    simp at hb
    subst hb
    subst e
    obtain ⟨x, hx, rfl⟩ := List.mem_map.1 ha
    exact h.apart x hx (by rw [hv]; rfl)
  · intro x hx e
    simp [Value.ownBlock] at e
    rcases List.mem_append.1 hx with h1 | h1
    · have := (heach x h1).lt x.1 rfl; omega
    · simp at h1
      have := hlast.lt g rfl
      subst h1
      simp at e
      omega
  · simp [capOf]
  · intro _; rfl
  · simp [St.bytes]
  · simp [capOf]
  · have hk0 : Kept (s.fp p) (s.fp p) w w0 := Kept.of_below hw0
    have hk1 : Kept (s.fp p) (s.fp p) w w1 := hk0.trans (Kept.of_grown hgrow (fun k hk => .inr (.inl hk)))
    have hk2 : Kept (s.fp p) (s.fp p) w W1 := by rw [← hW1]; exact hk1.set (.inl rfl) 0 _
    refine ((hk2.alloc _).set (.inl rfl) 1 _).to' (fun k hk => ?_)
    rcases hk with rfl | hk | hk | ⟨x, hx, rfl⟩
    · exact .inl (.inl rfl)
    · simp [Value.ownBlock] at hk
      subst hk
      rcases hat with h1 | h1
      · exact .inl (.inr (.inl h1))
      · right; omega
    · simp [Value.ownBlock] at hk
      right; omega
    · rcases List.mem_append.1 hx with h1 | h1
      · exact .inl (.inr (.inr (.inr ⟨x, h1, rfl⟩)))
      · simp at h1
        subst h1
        exact .inl (.inr (.inr (.inl (by rw [hv]; rfl))))

set_option maxHeartbeats 1000000 in
theorem grow59 (p : Nat) (s : St) (ln : Bool) (ls : Int) (ts : Bool) (w : World) (h : Buf w p s ln ls ts) (hb : s.bytes.length ≤ 4194304) (hful : s.last.length = capOf s.vl) :
    Calls Try.prog 59 #[.pointer (some ⟨p, 0, none⟩)] w (Roomy p s ln ls ts w) := by
  have HF : Hid (s.last.length = capOf s.vl) := hful
  have HL : Hid (s.bytes.length = 65536 * s.fulls.length + s.last.length) := h.len
  have HB : Hid (s.bytes.length ≤ 4194304) := hb
  have c0 := h.c0
  have c1 := h.c1
  obtain ⟨i0, hi, hz0, hz1, hz2⟩ := info_parts info5
  obtain ⟨a1, k1, h1⟩ := ownsRow_form h.own1
  rw [h1] at c1
  have H1 : Hid (s.vl = .slice a1 s.last.length k1) := h1
  clear hful hb h1
  obtain ⟨M, hM, mk0⟩ := make0
  by_cases hlt : s.last.length < 65536
  · have SM := fun w2 cur m => roomy_small (w2 := w2) (cur := cur) (m := m) h hlt HF.out
    have H2 : Hid (∀ ad, a1 = some ad → ∀ j v, (s.last.map bv)[j]? = some v → w.cell? (ad.add j) = some v) := by
      intro ad had
      have hown := h.own1
      rw [H1.out, had] at hown
      rcases hown.2 with ⟨h2, _⟩ | ⟨g', cap', cur, hv, _⟩
      · cases h2
      · simp only [Value.slice.injEq, Option.some.injEq] at hv
        obtain ⟨rfl, _⟩ := hv
        exact hown.cells (g := g') rfl
    have H3 : Hid (0 < s.last.length → ∃ ad, a1 = some ad) := by
      intro h0
      obtain ⟨g, cap, h2, _⟩ := h.own1.form h0
      rw [H1.out] at h2
      simp only [Value.slice.injEq] at h2
      exact ⟨_, h2.1⟩
    have hp := h.blk.lt
    have hfr : ∀ q, w.frozen? ⟨p, q, none⟩ = false := h.blk.frozen
    obtain ⟨m, hm⟩ : ∃ m : Nat, m = min (max (2 * s.last.length) 16) 65536 := ⟨_, rfl⟩
    have HM : Hid (s.last.length < m ∧ m ≤ 65536) := ⟨by omega, by omega⟩
    have HM2 : Hid (min (max (2 * (s.last.length : Int)) 16) 65536 = (m : Int)) := by show _ = _; omega
    have SM2 : Hid (∀ w2 cur, cur.length = m → w2.heap[w.heap.size]? = some (.cells (splice cur 0 (s.last.map bv)).toArray 5 (0, 0)) → Below w.heap.size w w2 →
      Roomy p s ln ls ts w (.returned (.tuple #[])) (w2.setCell ⟨p, 1, none⟩ (.slice (some ⟨w.heap.size, 0, none⟩) s.last.length m))) := fun w2 cur a b c => SM w2 cur m HM.out a b c
    have HLN : Hid ((s.last.map bv).length = s.last.length) := List.length_map ..
    have HO : Hid (∀ u ∈ s.last.map bv, u.oneCell' = true) := bv_one _
    clear hm SM
    have hlt2 : (s.last.length : Int) < 65536 := by omega
    clear hlt HF HL HB H1 h
    generalize s.last.map bv = cs at *
    generalize s.last.length = n at *
    go_enter Try.func59, Try.ntmps59
    go_wp2_with (at_make; refine wpList_make_lc _ rfl _ _ 25 rfl 5 i0 _ Try.underlying25 hi hz0 hz1 .i64 .i64 _ _ n m rfl rfl rfl HM2.out (by have := HM.out; omega) (by rw [hz2]; have := HM.out; omega) (by have := HM.out; unfold maxLen; omega) ?_)
    intro w1 cur hcur hcl hbel hsz
    have HC : Hid (w1.heap[w.heap.size]? = some (.cells cur.toArray 5 (0, 0))) := hcur
    have HCL : Hid (cur.length = m) := hcl
    have d1 : w1.cell? ⟨p, 1, none⟩ = some (.slice a1 n k1) := (hbel.cell (p := ⟨p, 1, none⟩) hp).trans c1
    clear hcur hcl hsz
    have tok1 : True := trivial
    go_wp2_with (have _t := tok1; refine wpList_copy_splice rfl (.tmp 17) (.tmp 21) 25 25 rfl 5 Try.underlying25 size5 (some ⟨w.heap.size, 0, none⟩) a1 n m n k1 (by rfl) (by rfl) w.heap.size 0 cur 5 HC.out cs ?c1 ?c2 ?c3 HO.out w.heap.size w hbel (Nat.le_refl _) ?_; clear tok1)
    case c1 => rw [HLN.out]; exact (Nat.min_self n).symm
    case c2 =>
      intro h0
      obtain ⟨ad, had⟩ := H3.out (by rw [← HLN.out]; exact h0)
      refine ⟨ad, had, fun j v hv => ?_⟩
      have := H2.out ad had j v hv
      exact (hbel.cell (World.block_lt_of_cell? w _ this)).trans this
    case c3 => rw [HLN.out, HCL.out]; have := HM.out; omega
    intro w2 hw2 hbel2
    have f1 : w2.frozen? ⟨p, 1, none⟩ = false := (hbel2.frozen (p := ⟨p, 1, none⟩) hp).trans (hfr 1)
    have e1 : w2.cell? ⟨p, 1, none⟩ = some (.slice a1 n k1) := (hbel2.cell (p := ⟨p, 1, none⟩) hp).trans c1
    have R := SM2.out w2 cur HCL.out hw2.out hbel2
    have HR : Hid (Roomy p s ln ls ts w (.returned (.tuple #[])) (w2.setCell ⟨p, 1, none⟩ (.slice (some ⟨w.heap.size, 0, none⟩) n m))) := R
    clear R SM2 hfr hbel hbel2 hw2
    go_wp2_with fail
    go_end0
    exact HR.out
  · obtain ⟨g, cap, hv, hg1, hg2⟩ := h.own1.form (by omega)
    have hcap := h.cap
    have hfu := HF.out
    rw [hv] at hcap hfu
    simp only [capOf] at hcap hfu
    have hn : s.last.length = 65536 := by omega
    obtain rfl : cap = 65536 := by omega
    rw [H1.out] at hv
    simp only [Value.slice.injEq] at hv
    obtain ⟨rfl, -, rfl⟩ := hv
    rw [hn] at c1
    obtain ⟨j0, hj, hy0, hy1, hy2⟩ := info_parts info25
    have hF : s.fulls.length ≤ 64 := by have h1 := HL.out; have h2 := HB.out; omega
    have HO := h.own0
    obtain ⟨a0, k0, h0⟩ := ownsRow_form h.own0
    rw [h0] at c0
    have hp := h.blk.lt
    have f0 : w.frozen? ⟨p, 0, none⟩ = false := h.blk.frozen 0
    have f1 : w.frozen? ⟨p, 1, none⟩ = false := h.blk.frozen 1
    have HNN : Hid (s.last.length = 65536) := hn
    have HV : Hid (s.vl = fullV g) := by have := H1.out; rw [hn] at this; exact this
    clear HL HB HF H1 hcap hfu hlt
    clear hn
    rw [h0] at HO
    have H0 : Hid (s.vf = .slice a0 s.fulls.length k0) := h0
    clear h0
    have RF : Hid (∀ w1 g' cap', (w.alloc (.cells #[.slice (some ⟨g, 0, none⟩) 65536 65536] 25)).drew.grownBy w1 (Value.slice a0 s.fulls.length k0).ownBlock →
        w1.ownsRow (p + 1) 25 1 (.slice (some ⟨g', 0, none⟩) (s.fulls.length + 1) cap') (s.fulls.length + 1) (s.fulls.map (fun x => fullV x.1) ++ [fullV g]) → ((Value.slice a0 s.fulls.length k0).ownBlock = some g' ∨ g' = (w.alloc (.cells #[.slice (some ⟨g, 0, none⟩) 65536 65536] 25)).drew.heap.size) →
        Roomy p s ln ls ts w (.returned (.tuple #[])) (((w1.setCell ⟨p, 0, none⟩ (.slice (some ⟨g', 0, none⟩) (s.fulls.length + 1) cap')).alloc (.cells M 5)).setCell ⟨p, 1, none⟩ (.slice (some ⟨w1.heap.size, 0, none⟩) 0 65536))) := by
      intro w1 g' cap' h1 h2 h3
      rw [← H0.out] at h1 h3
      exact roomy_full h HV.out HNN.out ((Below.refl w.heap.size w).alloc (Nat.le_refl _) _).drew h1 h2 h3 hM
    clear hM
    generalize s.fulls.length = F at *
    go_enter Try.func59, Try.ntmps59
    go_wp2_with fail
    have HOA : ∀ o, (w.alloc o).drew.ownsRow (p + 1) 25 1 (.slice a0 F k0) F (s.fulls.map fun x => fullV x.1) := fun o => World.ownsRow.alloc (w := w) HO o
    have HNW : Hid (∀ j u, [fullV g][j]? = some u → (w.alloc (.cells #[.slice (some ⟨g, 0, none⟩) 65536 65536] 25)).drew.cell? ((⟨w.heap.size, 0, none⟩ : Addr).add j) = some u) :=
      World.news_of_block (heap_alloc_new w (.cells #[.slice (some ⟨g, 0, none⟩) 65536 65536] 25))
    have HP : Hid (∀ w1, (w.alloc (.cells #[.slice (some ⟨g, 0, none⟩) 65536 65536] 25)).drew.grownBy w1 (Value.slice a0 F k0).ownBlock → w1.cell? ⟨p, 0, none⟩ = some (.slice a0 F k0) ∧ w1.frozen? ⟨p, 0, none⟩ = false ∧ w1.cell? ⟨p, 1, none⟩ = some (.slice (some ⟨g, 0, none⟩) 65536 65536) ∧ w1.frozen? ⟨p, 1, none⟩ = false) := by
      intro w1 hgr
      have hne : some p ≠ (Value.slice a0 F k0).ownBlock := fun e => by have := HO.lt p e.symm; omega
      have hbk : w1.heap[p]? = w.heap[p]? := (hgr.block p (by simp; omega) hne).trans (Below.heap_alloc w _ _ hp)
      exact ⟨(World.cell?_of_block (w := w) (a := ⟨p, 0, none⟩) hbk).trans c0, (World.frozen?_of_block (w := w) (a := ⟨p, 0, none⟩) hbk).trans f0, (World.cell?_of_block (w := w) (a := ⟨p, 1, none⟩) hbk).trans c1, (World.frozen?_of_block (w := w) (a := ⟨p, 1, none⟩) hbk).trans f1⟩
    go_region_law (refine step_append_lies _ rfl (.tmp 31) (.tmp 36) 49 rfl (p + 1) 25 j0 _ 1 24 Try.underlying49 hj hy0 hy1 hy2 rfl (by decide) (.slice a0 F k0) F (s.fulls.map fun x => fullV x.1) (by simp [Act.eval, Act.put]) (HOA _) ⟨w.heap.size, 0, none⟩ 1 1 [fullV g] (by simp [Act.eval, Act.put]) rfl HNW.out (by intro u hu; simp at hu; subst hu; rfl) (by decide) (by unfold maxLen; omega) (by omega) (by simp; omega) _ rfl ?_; intro g' cap' w1 hown hgrow hat hlt'; obtain ⟨e0, e1, e2, e3⟩ := HP.out w1 hgrow)
    all_goals (
      have HR := RF.out w1 g' cap' hgrow hown hat
      have HRR : Hid (Roomy p s ln ls ts w (.returned (.tuple #[])) (((w1.setCell ⟨p, 0, none⟩ (.slice (some ⟨g', 0, none⟩) (F + 1) cap')).alloc (.cells M 5)).setCell ⟨p, 1, none⟩ (.slice (some ⟨w1.heap.size, 0, none⟩) 0 65536))) := HR
      have hpw1 : p < w1.heap.size := World.block_lt_of_cell? w1 _ e0
      clear HR RF HP HNW HOA hgrow hown hat h HO
      go_wp2_with fail
      go_end0
      have HX := HRR.out
      rw [World.setCell_alloc_past _ _ _ _ (by simpa [World.setCell] using hpw1)] at HX
      exact HX)
end EL
end Go.Proofs.Qxb6001700a
