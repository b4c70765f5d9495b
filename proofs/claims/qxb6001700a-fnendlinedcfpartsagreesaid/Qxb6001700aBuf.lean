/- The value buffer in memory. -/
import Derived.Test.Qxb6001700aStr
import Derived.Deep.MidRow
import Derived.Deep.DeepAppendRoom
import Derived.Deep.AppendLies
import Derived.Laws.OwnMore
namespace Go.Proofs.Qxb6001700a
open Go.ChangeShapes Go.WideShapes Go.ChangeAt Go.RowKit
set_option linter.unusedVariables false
set_option linter.unusedSimpArgs false
namespace EL

/-- A byte's cell. -/
def bv (b : UInt8) : Value := .int .u8 (b.toNat : Int)
/-- A slice's capacity. -/
def capOf : Value → Nat | .slice _ _ c => c | _ => 0
/-- A filled block. -/
def fullV (g : Nat) : Value := .slice (some ⟨g, 0, none⟩) 65536 65536

/-- Block C is a row of n cells of type t, none frozen. -/
def Blk (w : World) (C : Nat) (t : TypeId) (n : Nat) : Prop := ∃ cur : Array Value, w.heap[C]? = some (.cells cur t (0, 0)) ∧ cur.size = n

theorem Blk.cell {w : World} {C t n : Nat} (h : Blk w C t n) {q : Nat} (hq : q < n) : ∃ v, w.cell? ⟨C, q, none⟩ = some v := by
  obtain ⟨cur, hc, hn⟩ := h
  exact ⟨cur[q], by simp [World.cell?, hc, hn, hq]⟩
theorem Blk.frozen {w : World} {C t n : Nat} (h : Blk w C t n) (q : Nat) : w.frozen? ⟨C, q, none⟩ = false := by
  obtain ⟨cur, hc, hn⟩ := h
  simp [World.frozen?, hc]
theorem Blk.lt {w : World} {C t n : Nat} (h : Blk w C t n) : C < w.heap.size := by
  obtain ⟨cur, hc, hn⟩ := h
  exact (Array.getElem?_eq_some_iff.1 hc).1
theorem Blk.set {w : World} {C t n : Nat} (h : Blk w C t n) (C' q : Nat) (v : Value) : Blk (w.setCell ⟨C', q, none⟩ v) C t n := by
  obtain ⟨cur, hc, hn⟩ := h
  by_cases e : C = C'
  · subst e
    exact ⟨cur.setIfInBounds q v, by simp [World.setCell, Array.getElem?_modify, hc], by simpa using hn⟩
  · exact ⟨cur, by rw [Below.heap_setCell _ _ _ _ e]; exact hc, hn⟩
theorem Blk.of_heap {w w' : World} {C t n : Nat} (h : Blk w C t n) (hb : w'.heap[C]? = w.heap[C]?) : Blk w' C t n := by
  obtain ⟨cur, hc, hn⟩ := h
  exact ⟨cur, by rw [hb]; exact hc, hn⟩

theorem ownsRow_form {w : World} {base : Nat} {e : TypeId} {size : Nat} {v : Value} {n : Nat} {xs : List Value} (h : w.ownsRow base e size v n xs) : ∃ ao cp, v = .slice ao n cp := by
  rcases h.2 with ⟨rfl, rfl⟩ | ⟨g, cap, cur, rfl, _⟩
  · exact ⟨_, _, rfl⟩
  · exact ⟨_, _, rfl⟩

/-- What is owned stays owned where its block is as it was. -/
theorem ownsRow_of_heap {w w' : World} {base : Nat} {e : TypeId} {size : Nat} {v : Value} {n : Nat} {xs : List Value} (h : w.ownsRow base e size v n xs) (hb : ∀ g, v.ownBlock = some g → w'.heap[g]? = w.heap[g]?) : w'.ownsRow base e size v n xs := by
  refine ⟨h.1, ?_⟩
  rcases h.2 with h0 | ⟨g, cap, cur, rfl, hg, hh, r⟩
  · exact .inl h0
  · exact .inr ⟨g, cap, cur, rfl, hg, by rw [hb g rfl]; exact hh, r⟩

/-- Two owned rows of different element types lie in different blocks. -/
theorem ownsRow_apart {w : World} {base base' : Nat} {e e' : TypeId} {size size' : Nat} {v v' : Value} {n n' : Nat} {xs xs' : List Value} (h : w.ownsRow base e size v n xs) (h' : w.ownsRow base' e' size' v' n' xs') (hne : e ≠ e') {g : Nat} (hg : v.ownBlock = some g) : v'.ownBlock ≠ some g := by
  intro hg'
  rcases h.2 with ⟨rfl, _⟩ | ⟨g1, cap, cur, rfl, _, hh, _⟩
  · simp [Value.ownBlock] at hg
  · rcases h'.2 with ⟨rfl, _⟩ | ⟨g2, cap', cur', rfl, _, hh', _⟩
    · simp [Value.ownBlock] at hg'
    · simp [Value.ownBlock] at hg hg'
      subst hg
      subst hg'
      rw [hh] at hh'
      simp at hh'
      exact hne hh'.2

/-- A shorter slice of the same row. -/
theorem ownsRow_take {w : World} {base : Nat} {e : TypeId} {ao : Option Addr} {n cap : Nat} {xs : List Value} (h : w.ownsRow base e 1 (.slice ao n cap) n xs) {m : Nat} (hm : m ≤ n) : w.ownsRow base e 1 (.slice ao m cap) m (xs.take m) := by
  have hl : xs.length = n := by simpa using h.1
  refine ⟨by simp [hl]; omega, ?_⟩
  rcases h.2 with ⟨h0, rfl⟩ | ⟨g, cap', cur, hv, hb, hh, h1, h2, h3, h4⟩
  · obtain rfl : m = 0 := by omega
    exact .inl ⟨h0, rfl⟩
  · simp only [Value.slice.injEq] at hv
    obtain ⟨rfl, -, rfl⟩ := hv
    refine .inr ⟨g, cap, cur, rfl, hb, hh, by omega, h2, h3, ?_⟩
    rw [← h4]
    simp [List.take_take, Nat.min_eq_left hm]

/-- What a buffer holds, and where. -/
structure St where
  vf : Value
  vl : Value
  fulls : List (Nat × List UInt8)
  last : List UInt8

def St.bytes (s : St) : List UInt8 := (s.fulls.map (·.2)).flatten ++ s.last
/-- The blocks that are the buffer's. -/
def St.fp (s : St) (p g : Nat) : Prop := g = p ∨ s.vf.ownBlock = some g ∨ s.vl.ownBlock = some g ∨ ∃ x ∈ s.fulls, x.1 = g

structure Buf (w : World) (p : Nat) (s : St) (ln : Bool) (ls : Int) (ts : Bool) : Prop where
  c0 : w.cell? ⟨p, 0, none⟩ = some s.vf
  c1 : w.cell? ⟨p, 1, none⟩ = some s.vl
  c2 : w.cell? ⟨p, 2, none⟩ = some (.bool ln)
  c3 : w.cell? ⟨p, 3, none⟩ = some (.int .i64 ls)
  c4 : w.cell? ⟨p, 4, none⟩ = some (.bool ts)
  blk : Blk w p 53 5
  own0 : w.ownsRow (p + 1) 25 1 s.vf s.fulls.length (s.fulls.map (fun x => fullV x.1))
  own1 : w.ownsRow (p + 1) 5 1 s.vl s.last.length (s.last.map bv)
  each : ∀ x ∈ s.fulls, w.ownsRow (p + 1) 5 1 (fullV x.1) 65536 (x.2.map bv)
  nodup : (s.fulls.map (·.1)).Nodup
  apart : ∀ x ∈ s.fulls, s.vl.ownBlock ≠ some x.1
  cap : capOf s.vl ≤ 65536
  more : s.fulls ≠ [] → capOf s.vl = 65536

theorem Buf.lt {w : World} {p : Nat} {s : St} {ln : Bool} {ls : Int} {ts : Bool} (h : Buf w p s ln ls ts) {g : Nat} (hg : s.fp p g) : p ≤ g ∧ g < w.heap.size := by
  rcases hg with rfl | h0 | h0 | ⟨x, hx, rfl⟩
  · exact ⟨Nat.le_refl _, h.blk.lt⟩
  · have := h.own0.lt g h0; omega
  · have := h.own1.lt g h0; omega
  · have := (h.each x hx).lt x.1 rfl; omega

/-- A buffer is kept where its blocks are kept. -/
theorem Buf.of_heap {w w' : World} {p : Nat} {s : St} {ln : Bool} {ls : Int} {ts : Bool} (h : Buf w p s ln ls ts) (hb : ∀ g, s.fp p g → w'.heap[g]? = w.heap[g]?) : Buf w' p s ln ls ts where
  c0 := (World.cell?_of_block (w := w) (a := ⟨p, 0, none⟩) (hb p (.inl rfl))).trans h.c0
  c1 := (World.cell?_of_block (w := w) (a := ⟨p, 1, none⟩) (hb p (.inl rfl))).trans h.c1
  c2 := (World.cell?_of_block (w := w) (a := ⟨p, 2, none⟩) (hb p (.inl rfl))).trans h.c2
  c3 := (World.cell?_of_block (w := w) (a := ⟨p, 3, none⟩) (hb p (.inl rfl))).trans h.c3
  c4 := (World.cell?_of_block (w := w) (a := ⟨p, 4, none⟩) (hb p (.inl rfl))).trans h.c4
  blk := h.blk.of_heap (hb p (.inl rfl))
  own0 := ownsRow_of_heap h.own0 (fun g hg => hb g (.inr (.inl hg)))
  own1 := ownsRow_of_heap h.own1 (fun g hg => hb g (.inr (.inr (.inl hg))))
  each := fun x hx => ownsRow_of_heap (h.each x hx) (fun g hg => hb g (.inr (.inr (.inr ⟨x, hx, by simpa [fullV, Value.ownBlock] using hg⟩))))
  nodup := h.nodup
  apart := h.apart
  cap := h.cap
  more := h.more

theorem Buf.full_len {w : World} {p : Nat} {s : St} {ln : Bool} {ls : Int} {ts : Bool} (h : Buf w p s ln ls ts) : ∀ x ∈ s.fulls, x.2.length = 65536 := fun x hx => by
  have := (h.each x hx).1
  simpa using this

theorem flat_len : ∀ (fs : List (Nat × List UInt8)), (∀ x ∈ fs, x.2.length = 65536) → (fs.map (·.2)).flatten.length = 65536 * fs.length
  | [], _ => rfl
  | x :: fs, h => by
    have h1 := h x (by simp)
    have h2 := flat_len fs (fun y hy => h y (by simp [hy]))
    simp only [List.map_cons, List.flatten_cons, List.length_append, List.length_cons, h1, h2]
    omega

theorem Buf.len {w : World} {p : Nat} {s : St} {ln : Bool} {ls : Int} {ts : Bool} (h : Buf w p s ln ls ts) : s.bytes.length = 65536 * s.fulls.length + s.last.length := by
  rw [St.bytes, List.length_append, flat_len _ h.full_len]

theorem flat_getN (N : Nat) (hN : 0 < N) : ∀ (fs : List (Nat × List UInt8)) (hfs : ∀ x ∈ fs, x.2.length = N) (i : Nat) (x : Nat × List UInt8) (hi : fs[i / N]? = some x), (fs.map (·.2)).flatten[i]? = x.2[i % N]? := by
  intro fs
  induction fs with
  | nil => intro _ i x hi; simp at hi
  | cons y fs ih =>
    intro h i x hi
    have h1 := h y (by simp)
    simp only [List.map_cons, List.flatten_cons, List.getElem?_append, h1]
    by_cases hlt : i < N
    · rw [Nat.div_eq_of_lt hlt] at hi
      simp at hi
      subst hi
      rw [if_pos hlt, Nat.mod_eq_of_lt hlt]
    · have e1 : i / N = (i - N) / N + 1 := Nat.div_eq_sub_div hN (by omega)
      have e2 : i % N = (i - N) % N := Nat.mod_eq_sub_mod (by omega)
      rw [e1, List.getElem?_cons_succ] at hi
      rw [if_neg hlt, e2]
      exact ih (fun z hz => h z (by simp [hz])) (i - N) x hi
theorem flat_get (fs : List (Nat × List UInt8)) (hfs : ∀ x ∈ fs, x.2.length = 65536) (i : Nat) (x : Nat × List UInt8) (hi : fs[i / 65536]? = some x) : (fs.map (·.2)).flatten[i]? = x.2[i % 65536]? := flat_getN 65536 (by decide) fs hfs i x hi

/-- The byte at i, in a filled block. -/
theorem Buf.get_full {w : World} {p : Nat} {s : St} {ln : Bool} {ls : Int} {ts : Bool} (h : Buf w p s ln ls ts) (i : Nat) (x : Nat × List UInt8) (hi : s.fulls[i / 65536]? = some x) : s.bytes[i]? = x.2[i % 65536]? := by
  have hl := flat_len _ h.full_len
  have hlt := (List.getElem?_eq_some_iff.1 hi).1
  rw [St.bytes, List.getElem?_append_left (by rw [hl]; omega), flat_get _ h.full_len i x hi]

/-- The byte at i, in the last block. -/
theorem Buf.get_last {w : World} {p : Nat} {s : St} {ln : Bool} {ls : Int} {ts : Bool} (h : Buf w p s ln ls ts) (i : Nat) (hi : s.fulls.length ≤ i / 65536) : s.bytes[i]? = s.last[i - 65536 * s.fulls.length]? := by
  have hl := flat_len _ h.full_len
  rw [St.bytes, List.getElem?_append_right (by rw [hl]; omega), hl]

/-- From w to w': outside A nothing that was there has turned; A' is in A, but for new blocks. -/
structure Kept (A A' : Nat → Prop) (w w' : World) : Prop where
  os : w'.os = w.os
  tape : w'.tape = w.tape
  output : w'.output = w.output
  size : w.heap.size ≤ w'.heap.size
  block : ∀ g, g < w.heap.size → ¬ A g → w'.heap[g]? = w.heap[g]?
  sub : ∀ g, A' g → A g ∨ w.heap.size ≤ g

theorem Kept.refl (A : Nat → Prop) (w : World) : Kept A A w w := ⟨rfl, rfl, rfl, Nat.le_refl _, fun _ _ _ => rfl, fun _ h => .inl h⟩
theorem Kept.trans {A A' A'' : Nat → Prop} {a b c : World} (h : Kept A A' a b) (k : Kept A' A'' b c) : Kept A A'' a c :=
  ⟨k.os.trans h.os, k.tape.trans h.tape, k.output.trans h.output, Nat.le_trans h.size k.size,
   fun g hg hn => (k.block g (Nat.lt_of_lt_of_le hg h.size) (fun h' => by rcases h.sub g h' with h1 | h1; exact hn h1; omega)).trans (h.block g hg hn),
   fun g hg => by
    rcases k.sub g hg with h1 | h1
    · exact h.sub g h1
    · exact .inr (Nat.le_trans h.size h1)⟩
theorem Kept.drewN (A : Nat → Prop) (w : World) (n : Nat) : Kept A A w (w.drewN n) := ⟨rfl, rfl, rfl, Nat.le_refl _, fun _ _ _ => rfl, fun _ h => .inl h⟩

/-- A buffer of the bytes L. -/
def Holds (w : World) (p : Nat) (A : Nat → Prop) (L : List UInt8) (ln : Bool) (ls : Int) (ts : Bool) : Prop :=
  ∃ s : St, Buf w p s ln ls ts ∧ s.bytes = L ∧ A = s.fp p ∧ (s.fulls ≠ [] → s.last ≠ [])

theorem Holds.lt {w : World} {p : Nat} {A : Nat → Prop} {L : List UInt8} {ln : Bool} {ls : Int} {ts : Bool} (h : Holds w p A L ln ls ts) {g : Nat} (hg : A g) : p ≤ g ∧ g < w.heap.size := by
  obtain ⟨s, hb, _, rfl, _⟩ := h
  exact hb.lt hg
theorem Holds.of_heap {w w' : World} {p : Nat} {A : Nat → Prop} {L : List UInt8} {ln : Bool} {ls : Int} {ts : Bool} (h : Holds w p A L ln ls ts) (hb : ∀ g, A g → w'.heap[g]? = w.heap[g]?) : Holds w' p A L ln ls ts := by
  obtain ⟨s, hs, h1, rfl, h2⟩ := h
  exact ⟨s, hs.of_heap hb, h1, rfl, h2⟩
theorem Holds.drewN {w : World} {p : Nat} {A : Nat → Prop} {L : List UInt8} {ln : Bool} {ls : Int} {ts : Bool} (h : Holds w p A L ln ls ts) (n : Nat) : Holds (w.drewN n) p A L ln ls ts := h.of_heap (fun _ _ => rfl)
theorem Buf.drewN {w : World} {p : Nat} {s : St} {ln : Bool} {ls : Int} {ts : Bool} (h : Buf w p s ln ls ts) (n : Nat) : Buf (w.drewN n) p s ln ls ts := h.of_heap (fun _ _ => rfl)
/-- Another buffer, apart from the one that was written. -/
theorem Holds.kept {w w' : World} {p : Nat} {A B B' : Nat → Prop} {L : List UInt8} {ln : Bool} {ls : Int} {ts : Bool} (h : Holds w p A L ln ls ts) (hk : Kept B B' w w') (hap : ∀ g, A g → ¬ B g) : Holds w' p A L ln ls ts ∧ ∀ g, A g → ¬ B' g :=
  ⟨h.of_heap (fun g hg => hk.block g (h.lt hg).2 (hap g hg)), fun g hg hb => by rcases hk.sub g hb with h1 | h1; exact hap g hg h1; have := (h.lt hg).2; omega⟩

theorem Kept.to' {A A' A'' : Nat → Prop} {w w' : World} (h : Kept A A' w w') (hs : ∀ g, A'' g → A g ∨ w.heap.size ≤ g) : Kept A A'' w w' := ⟨h.os, h.tape, h.output, h.size, h.block, hs⟩
theorem Kept.of_grown {A : Nat → Prop} {w w' : World} {row : Option Nat} (h : w.grownBy w' row) (hr : ∀ k, row = some k → A k) : Kept A A w w' :=
  ⟨h.os, h.tape, h.output, h.size, fun g hg hn => h.block g hg (fun e => hn (hr g e.symm)), fun _ h => .inl h⟩
theorem Kept.of_below {A : Nat → Prop} {w w' : World} (h : Below w.heap.size w w') : Kept A A w w' := ⟨h.os, h.tape, h.output, h.size, fun g hg _ => h.block g hg, fun _ h => .inl h⟩
theorem Kept.set {A A' : Nat → Prop} {w0 w : World} (h : Kept A A' w0 w) {p : Nat} (hp : A p) (q : Nat) (v : Value) : Kept A A' w0 (w.setCell ⟨p, q, none⟩ v) :=
  ⟨h.os, h.tape, h.output, by simpa [World.setCell] using h.size, fun g hg hn => (Below.heap_setCell _ _ _ _ (fun e => hn (by rw [e]; exact hp))).trans (h.block g hg hn), h.sub⟩

/-- p's cells after one of them is written. -/
theorem Blk.cell_same {w : World} {p t n : Nat} (h : Blk w p t n) {q : Nat} (hq : q < n) (v : Value) : (w.setCell ⟨p, q, none⟩ v).cell? ⟨p, q, none⟩ = some v := by
  obtain ⟨cur, hc, hn⟩ := h
  subst hn
  simp [World.cell?, World.setCell, Array.getElem?_modify, hc, hq]
theorem cell_other {w : World} {p q q' : Nat} (hq : q ≠ q') (v : Value) : (w.setCell ⟨p, q, none⟩ v).cell? ⟨p, q', none⟩ = w.cell? ⟨p, q', none⟩ := by
  have := World.cell?_setCells_out p [v] q w ⟨p, q', none⟩ (fun _ _ => by simp; omega)
  exact this

/-- A new last block. -/
theorem Buf.newLast {w w2 : World} {p : Nat} {s : St} {ln : Bool} {ls : Int} {ts : Bool} (h : Buf w p s ln ls ts) (hk : ∀ g, (g = p ∨ s.vf.ownBlock = some g ∨ ∃ x ∈ s.fulls, x.1 = g) → w2.heap[g]? = w.heap[g]?)
    (vl' : Value) (last' : List UInt8) (own' : w2.ownsRow (p + 1) 5 1 vl' last'.length (last'.map bv)) (apart' : ∀ x ∈ s.fulls, vl'.ownBlock ≠ some x.1) (cap' : capOf vl' ≤ 65536) (more' : s.fulls ≠ [] → capOf vl' = 65536) :
    Buf (w2.setCell ⟨p, 1, none⟩ vl') p { s with vl := vl', last := last' } ln ls ts where
  c0 := by rw [cell_other (by decide)]; exact (World.cell?_of_block (w := w) (a := ⟨p, 0, none⟩) (hk p (.inl rfl))).trans h.c0
  c1 := (h.blk.of_heap (hk p (.inl rfl))).cell_same (by decide) _
  c2 := by rw [cell_other (by decide)]; exact (World.cell?_of_block (w := w) (a := ⟨p, 2, none⟩) (hk p (.inl rfl))).trans h.c2
  c3 := by rw [cell_other (by decide)]; exact (World.cell?_of_block (w := w) (a := ⟨p, 3, none⟩) (hk p (.inl rfl))).trans h.c3
  c4 := by rw [cell_other (by decide)]; exact (World.cell?_of_block (w := w) (a := ⟨p, 4, none⟩) (hk p (.inl rfl))).trans h.c4
  blk := (h.blk.of_heap (hk p (.inl rfl))).set _ _ _
  own0 := ownsRow_setCell_below (ownsRow_of_heap h.own0 (fun g hg => hk g (.inr (.inl hg)))) (a := ⟨p, 1, none⟩) (Nat.lt_succ_self p) _
  own1 := ownsRow_setCell_below own' (a := ⟨p, 1, none⟩) (Nat.lt_succ_self p) _
  each := fun x hx => ownsRow_setCell_below (ownsRow_of_heap (h.each x hx) (fun g hg => hk g (.inr (.inr ⟨x, hx, by simpa [fullV, Value.ownBlock] using hg⟩)))) (a := ⟨p, 1, none⟩) (Nat.lt_succ_self p) _
  nodup := h.nodup
  apart := apart'
  cap := cap'
  more := more'

theorem newLast_fp {s : St} {p : Nat} {vl' : Value} {last' : List UInt8} {g : Nat} (h : St.fp { s with vl := vl', last := last' } p g) : s.fp p g ∨ vl'.ownBlock = some g := by
  rcases h with h | h | h | h
  · exact .inl (.inl h)
  · exact .inl (.inr (.inl h))
  · exact .inr h
  · exact .inl (.inr (.inr (.inr h)))

theorem bv_one (xs : List UInt8) : ∀ u ∈ xs.map bv, u.oneCell' = true := by
  intro u hu
  obtain ⟨_, _, rfl⟩ := List.mem_map.1 hu
  rfl

/-- The blocks below what is new are kept. -/
theorem Buf.below {w w' : World} {p : Nat} {s : St} {ln : Bool} {ls : Int} {ts : Bool} (h : Buf w p s ln ls ts) (hb : Below w.heap.size w w') : Buf w' p s ln ls ts := h.of_heap (fun g hg => hb.block g (h.lt hg).2)
end EL
end Go.Proofs.Qxb6001700a
