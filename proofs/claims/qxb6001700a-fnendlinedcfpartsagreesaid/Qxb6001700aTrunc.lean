/- truncate. -/
import Derived.Test.Qxb6001700aSame
import Derived.Deep.RegionLaw
namespace Go.Proofs.Qxb6001700a
open Go.ChangeShapes Go.WideShapes Go.ChangeAt Go.RowKit
set_option linter.unusedVariables false
set_option linter.unusedSimpArgs false
namespace EL

theorem zeroCells_one (m : Nat) : ∀ v ∈ (Builtin.zeroCells (Value.slice none 0 0).cells m).toList, v.oneCell' = true := by
  intro v hv
  simp [Builtin.zeroCells, Value.cells] at hv
  obtain ⟨i, hi, rfl⟩ := hv
  simp [Nat.mod_one]
  rfl

theorem zeroCells_len (m : Nat) : (Builtin.zeroCells (Value.slice none 0 0).cells m).toList.length = m := by
  simp [Builtin.zeroCells, Value.cells]

theorem run_clear {P : Program} (w : World) (t ty e : TypeId) (i : TypeInfo) (ht : P.underlying t = some (.slice e)) (hi : P.info? e = some i) (hz : i.zero = some (.slice none 0 0))
    (g k m c : Nat) (cur : Array Value) (hg : w.heap[g]? = some (.cells cur e (0, 0))) (hm : 0 < m) (hfit : k + m ≤ cur.size) :
    (Builtin.clear_ #[t] ty #[.slice (some ⟨g, k, none⟩) m c]).run P w = .ok (.tuple #[]) (w.setRow g (cur.toList.take k ++ (Builtin.zeroCells (Value.slice none 0 0).cells m).toList ++ cur.toList.drop (k + m)).toArray) := by
  have hst := run_storeCells_at P g k e (Builtin.zeroCells (Value.slice none 0 0).cells m).toList 0 cur w hg (by rw [zeroCells_len]; omega) (zeroCells_one m)
  simp only [Nat.add_zero, zeroCells_len] at hst
  obtain ⟨m', rfl⟩ : ∃ m', m = m' + 1 := ⟨m - 1, by omega⟩
  simp [Builtin.clear_, run_underlying ht, zeroValue, typeInfo, hi, hz, hst]

theorem wpList_clear {P : Program} (w : World) {ops : Array Oper} {rest : List Oper} {o : Oper} {a : Act} {Q : Exit → Act → World → Prop} (hgd : o.guard = none) (s : Operand) (t : TypeId)
    (ho : o.op = .call { callee := .builtin .clear, args := #[s], argTypes := #[t] })
    (base : Nat) (e : TypeId) (i : TypeInfo) (ht : P.underlying t = some (.slice e)) (hi : P.info? e = some i) (hz : i.zero = some (.slice none 0 0))
    (g k n cap m c : Nat) (xs : List Value) (hs : a.eval s = .slice (some ⟨g, k, none⟩) m c) (hown : w.ownsRow base e 1 (.slice (some ⟨g, 0, none⟩) n cap) n xs) (hkm : k + m = n) (hm : 0 < m)
    (h : ∀ w', w'.ownsRow base e 1 (.slice (some ⟨g, 0, none⟩) k cap) k (xs.take k) → w.grownBy w' (some g) → wpList P ops Q rest (a.put o.dst (.tuple #[])) w') : wpList P ops Q (o :: rest) a w := by
  refine wpList_plain hgd fun K hK => ?_
  rcases hown.2 with ⟨h0, _⟩ | ⟨g', cap', cur, hv, hb, hg, h1, h2, h3, h4⟩
  · cases h0
  · simp only [Value.slice.injEq, Option.some.injEq, Addr.mk.injEq] at hv
    obtain ⟨⟨rfl, -, -⟩, -, rfl⟩ := hv
    have hrun := run_clear (P := P) w t o.type e i ht hi hz g k m c cur hg hm (by omega)
    unfold Oper.wp execOp
    simp only [ho, resolve, invoke, builtin, Sem.run_bind, Sem.run_pure, Result.andThen_ok, List.map_toArray, List.map_cons, List.map_nil, hs, hrun]
    refine hK _ _ (h _ ⟨?_, .inr ⟨g, cap, _, rfl, hb, setRow_heap w g cur _ e _ hg, by omega, h2, ?_, ?_⟩⟩ ⟨rfl, rfl, rfl, by simp, fun j _ hj => setRow_other w g j _ (fun e => hj (by simp [e]))⟩)
    · have := hown.1; simp; omega
    · have hzl := zeroCells_len m
      rw [Array.length_toList] at hzl
      simp only [List.size_toArray, List.length_append, List.length_take, List.length_drop, Array.length_toList, hzl]; omega
    · rw [← h4]
      simp only [Nat.mul_one]
      rw [List.append_assoc, List.take_append_of_le_length (by simp; omega), List.take_take, List.take_take]
      congr 1
      omega

/-- The bytes left, where a filled block becomes the last again. -/
theorem take_fulls (s : St) (hf : ∀ x ∈ s.fulls, x.2.length = 65536) (K m : Nat) (hK : K < s.fulls.length) (hm : m ≤ 65536) :
    ((s.fulls.take K).map (·.2)).flatten ++ (s.fulls[K]).2.take m = s.bytes.take (65536 * K + m) := by
  have hx := hf _ (List.getElem_mem hK)
  have hA := flat_len (s.fulls.take K) (fun x hx => hf x (List.mem_of_mem_take hx))
  rw [List.length_take, Nat.min_eq_left (by omega)] at hA
  have e : s.fulls.map (·.2) = (s.fulls.take K).map (·.2) ++ (s.fulls[K].2 :: (s.fulls.drop (K + 1)).map (·.2)) := by
    have e0 : s.fulls = s.fulls.take K ++ (s.fulls[K] :: s.fulls.drop (K + 1)) := by rw [← List.drop_eq_getElem_cons hK, List.take_append_drop]
    have e1 := congrArg (List.map (fun x : Nat × List UInt8 => x.2)) e0
    rw [List.map_append, List.map_cons] at e1
    exact e1
  rw [St.bytes, e, List.flatten_append, List.flatten_cons, List.append_assoc, ← hA, List.take_length_add_append, List.append_assoc, List.take_append_of_le_length (by omega)]

theorem take_last (s : St) (hf : ∀ x ∈ s.fulls, x.2.length = 65536) (m : Nat) : (s.fulls.map (·.2)).flatten ++ s.last.take m = s.bytes.take (65536 * s.fulls.length + m) := by
  rw [St.bytes, ← flat_len _ hf, List.take_length_add_append]

/-- The buffer holds the first n bytes. -/
def Cut (p : Nat) (s : St) (n : Nat) (ln : Bool) (ls : Int) (ts : Bool) (w : World) (e : Ending) (w' : World) : Prop :=
  e = .returned (.tuple #[]) ∧ ∃ s', Buf w' p s' ln ls ts ∧ s'.bytes = s.bytes.take n ∧ (s'.fulls ≠ [] → s'.last ≠ []) ∧ Kept (s.fp p) (s'.fp p) w w'

theorem cut_last {p : Nat} {s : St} {ln : Bool} {ls : Int} {ts : Bool} {w w2 : World} (h : Buf w p s ln ls ts) (hw2 : w2.heap = w.heap ∧ w2.os = w.os ∧ w2.tape = w.tape ∧ w2.output = w.output) {a1 : Option Addr} {k1 : Nat} (hv : s.vl = .slice a1 s.last.length k1) (m n : Nat) (hn : n = 65536 * s.fulls.length + m) (hm : m ≤ s.last.length) (ht : s.fulls = [] ∨ 0 < m) :
    Cut p s n ln ls ts w (.returned (.tuple #[])) (w2.setCell ⟨p, 1, none⟩ (.slice a1 m k1)) := by
  obtain ⟨hh, ho, hta, hou⟩ := hw2
  have hown := h.own1
  rw [hv] at hown
  have hl : (s.last.take m).length = m := by simp; omega
  have hob : (Value.slice a1 m k1).ownBlock = s.vl.ownBlock := by rw [hv]; cases a1 <;> rfl
  have hB := h.newLast (w2 := w2) (fun k _ => by rw [hh]) (.slice a1 m k1) (s.last.take m) ?_ ?_ ?_ ?_
  · refine ⟨rfl, _, hB, ?_, ?_, ?_⟩
    · rw [hn]; exact take_last s h.full_len m
    · intro hne e
      rcases ht with h0 | h0
      · exact hne h0
      · have := congrArg List.length e
        simp only [hl, List.length_nil] at this
        omega
    · have hk : Kept (s.fp p) (s.fp p) w w2 := ⟨ho, hta, hou, by rw [hh]; exact Nat.le_refl _, fun g _ _ => by rw [hh], fun _ h => .inl h⟩
      refine (hk.set (.inl rfl) 1 _).to' (fun k hk => ?_)
      rcases newLast_fp hk with h0 | h0
      · exact .inl h0
      · exact .inl (.inr (.inr (.inl (by rw [← hob]; exact h0))))
  · rw [hl, List.map_take]
    exact ownsRow_of_heap (ownsRow_take hown hm) (fun g _ => by rw [hh])
  · intro x hx
    rw [hob]
    exact h.apart x hx
  · have := h.cap; rw [hv] at this; exact this
  · intro hne; have := h.more hne; rw [hv] at this; exact this

theorem cut_full {p : Nat} {s : St} {ln : Bool} {ls : Int} {ts : Bool} {w w2 w3 : World} (h : Buf w p s ln ls ts) {K : Nat} (hK : K < s.fulls.length) {gf cap : Nat} (hv : s.vf.ownBlock = some gf) (hgrow : (w.setCell ⟨p, 1, none⟩ (fullV (s.fulls[K]).1)).grownBy w2 (some gf))
    (hown : w2.ownsRow (p + 1) 25 1 (.slice (some ⟨gf, 0, none⟩) K cap) K ((s.fulls.map (fun x => fullV x.1)).take K)) (m n : Nat) (hn : n = 65536 * K + m) (hm : m ≤ 65536) (ht : K = 0 ∨ 0 < m)
    (hw3 : w3.heap = (w2.setCell ⟨p, 0, none⟩ (.slice (some ⟨gf, 0, none⟩) K cap)).heap ∧ w3.os = w2.os ∧ w3.tape = w2.tape ∧ w3.output = w2.output) :
    Cut p s n ln ls ts w (.returned (.tuple #[])) (w3.setCell ⟨p, 1, none⟩ (.slice (some ⟨(s.fulls[K]).1, 0, none⟩) m 65536)) := by
  obtain ⟨hh, ho, hta, hou⟩ := hw3
  obtain ⟨x, hx⟩ : ∃ x, s.fulls[K] = x := ⟨_, rfl⟩
  have hxm : x ∈ s.fulls := by rw [← hx]; exact List.getElem_mem hK
  rw [hx] at hgrow ⊢
  have hgl := h.own0.lt gf hv
  have hpg : p ≠ gf := by omega
  have hp := h.blk.lt
  -- the block p, through the steps
  have hbp : w2.heap[p]? = (w.setCell ⟨p, 1, none⟩ (fullV x.1)).heap[p]? := hgrow.block p (by simpa [World.setCell] using hp) (by simpa using hpg)
  have hc1 : ∀ q, q ≠ 1 → w2.cell? ⟨p, q, none⟩ = w.cell? ⟨p, q, none⟩ := fun q hq => (World.cell?_of_block (w := w.setCell ⟨p, 1, none⟩ (fullV x.1)) (a := ⟨p, q, none⟩) hbp).trans (cell_other (fun e => hq e.symm) _)
  have hblk2 : Blk w2 p 53 5 := (h.blk.set p 1 (fullV x.1)).of_heap hbp
  have hblk3 : Blk w3 p 53 5 := (hblk2.set p 0 (.slice (some ⟨gf, 0, none⟩) K cap)).of_heap (by rw [hh])
  have hc3 : ∀ q, q ≠ 0 → q ≠ 1 → w3.cell? ⟨p, q, none⟩ = w.cell? ⟨p, q, none⟩ := fun q h0 h1 => by
    rw [World.cell?_of_block (w := w2.setCell ⟨p, 0, none⟩ (.slice (some ⟨gf, 0, none⟩) K cap)) (a := ⟨p, q, none⟩) (by rw [hh]), cell_other (fun e => h0 e.symm), hc1 q h1]
  have hc30 : w3.cell? ⟨p, 0, none⟩ = some (.slice (some ⟨gf, 0, none⟩) K cap) := by
    rw [World.cell?_of_block (w := w2.setCell ⟨p, 0, none⟩ (.slice (some ⟨gf, 0, none⟩) K cap)) (a := ⟨p, 0, none⟩) (by rw [hh])]
    exact hblk2.cell_same (by decide) _
  -- other blocks
  have hoth : ∀ k, k < w.heap.size → k ≠ p → k ≠ gf → w3.heap[k]? = w.heap[k]? := fun k hk h1 h2 => by
    rw [hh, Below.heap_setCell _ _ _ _ h1, hgrow.block k (by simpa [World.setCell] using hk) (by simpa using h2), Below.heap_setCell _ _ _ _ h1]
  have hrow : ∀ y ∈ s.fulls, w3.ownsRow (p + 1) 5 1 (fullV y.1) 65536 (y.2.map bv) := fun y hy =>
    ownsRow_of_heap (h.each y hy) (fun k hk => by
      have := (h.each y hy).lt k hk
      exact hoth k this.2 (by omega) (fun e => ownsRow_apart h.own0 (h.each y hy) (by decide) hv (by rw [← e]; exact hk)))
  have hxl := h.full_len x hxm
  have hl : (x.2.take m).length = m := by simp; omega
  refine ⟨rfl, { vf := .slice (some ⟨gf, 0, none⟩) K cap, vl := .slice (some ⟨x.1, 0, none⟩) m 65536, fulls := s.fulls.take K, last := x.2.take m }, ⟨?_, ?_, ?_, ?_, ?_, ?_, ?_, ?_, ?_, ?_, ?_, ?_, ?_⟩, ?_, ?_, ?_⟩
  · rw [cell_other (by decide)]; exact hc30
  · exact hblk3.cell_same (by decide) _
  · rw [cell_other (by decide), hc3 2 (by decide) (by decide)]; exact h.c2
  · rw [cell_other (by decide), hc3 3 (by decide) (by decide)]; exact h.c3
  · rw [cell_other (by decide), hc3 4 (by decide) (by decide)]; exact h.c4
  · exact hblk3.set _ _ _
  · have h1 : w3.ownsRow (p + 1) 25 1 (.slice (some ⟨gf, 0, none⟩) K cap) K ((s.fulls.map (fun x => fullV x.1)).take K) :=
      ownsRow_of_heap (ownsRow_setCell_below hown (a := ⟨p, 0, none⟩) (Nat.lt_succ_self p) (.slice (some ⟨gf, 0, none⟩) K cap)) (fun k _ => by rw [hh])
    have hlk : (s.fulls.take K).length = K := by simp; omega
    rw [← List.map_take] at h1
    simp only [hlk]
    exact ownsRow_setCell_below h1 (a := ⟨p, 1, none⟩) (Nat.lt_succ_self p) _
  · have h1 := ownsRow_take (hrow x hxm) (m := m) hm
    rw [← List.map_take] at h1
    simp only [hl]
    exact ownsRow_setCell_below h1 (a := ⟨p, 1, none⟩) (Nat.lt_succ_self p) _
  · intro y hy
    exact ownsRow_setCell_below (hrow y (List.mem_of_mem_take hy)) (a := ⟨p, 1, none⟩) (Nat.lt_succ_self p) _
  · have := h.nodup
    rw [List.map_take]
    exact this.sublist (List.take_sublist _ _)
  · intro y hy e
    simp [Value.ownBlock] at e
    obtain ⟨j, hj, hy2⟩ := List.getElem_of_mem hy
    simp at hj
    rw [List.getElem_take] at hy2
    have hnd := (List.pairwise_iff_getElem.1 h.nodup) j K (by simp; omega) (by simpa using hK) (by omega)
    rw [List.getElem_map, List.getElem_map, hy2, hx] at hnd
    exact hnd e.symm
  · simp [capOf]
  · intro _; rfl
  · rw [hn, ← hx]; exact take_fulls s h.full_len K m hK hm
  · intro hne e
    rcases ht with h0 | h0
    · subst h0; simp at hne
    · have := congrArg List.length e
      simp only [hl, List.length_nil] at this
      omega
  · have hk1 : Kept (s.fp p) (s.fp p) w (w.setCell ⟨p, 1, none⟩ (fullV x.1)) := (Kept.refl _ _).set (.inl rfl) 1 _
    have hk2 : Kept (s.fp p) (s.fp p) w w2 := hk1.trans (Kept.of_grown hgrow (fun k hk => .inr (.inl (by rw [hv]; exact hk))))
    have hk3 := hk2.set (p := p) (.inl rfl) 0 (.slice (some ⟨gf, 0, none⟩) K cap)
    have hk4 : Kept (s.fp p) (s.fp p) w w3 := ⟨ho.trans hk2.os, hta.trans hk2.tape, hou.trans hk2.output, by rw [hh]; exact hk3.size, fun g hg hn => by rw [hh]; exact hk3.block g hg hn, fun _ h => .inl h⟩
    refine (hk4.set (.inl rfl) 1 _).to' (fun k hk => ?_)
    rcases hk with h0 | h0 | h0 | ⟨y, hy, h0⟩
    · exact .inl (.inl h0)
    · exact .inl (.inr (.inl (by rw [hv]; exact h0)))
    · simp [Value.ownBlock] at h0
      exact .inl (.inr (.inr (.inr ⟨x, hxm, h0⟩)))
    · exact .inl (.inr (.inr (.inr ⟨y, List.mem_of_mem_take hy, h0⟩)))
end EL
end Go.Proofs.Qxb6001700a
