/- search: the iterative depth-first search. -/
import Derived.Test.Qxb6003137aVisit
import Derived.Test.Qxb6003137aFrom
import Derived.Deep.LoopGhost
import Derived.Deep.RegionLaw
import Derived.BigRegion
import Derived.Deep.CutRange
import Derived.Deep.DeepCutAuto
namespace Go.Proofs.Qxb6003137a
open Go.ChangeShapes Go.WideShapes Go.ChangeAt Go.RowKit
set_option linter.unusedVariables false
set_option linter.unusedSimpArgs false
namespace CY

theorem info62 : (Try.prog.info? 62).map (fun i => (i.zero, i.size, i.bytes)) = some (some (.agg #[.int .i32 0, .int .i64 0]), 2, 16) := by kernel_rfl

/-- The first j of ord are set back to 0. -/
def cleared (ord : List Nat) (j : Nat) (x : Nat → Int) : Nat → Int := fun i => if i ∈ ord.take j then 0 else x i
theorem cleared_zero (ord : List Nat) (x : Nat → Int) : cleared ord 0 x = x := by funext i; simp [cleared]
theorem cleared_next (ord : List Nat) (j : Nat) (hj : j < ord.length) (x : Nat → Int) : cleared ord (j + 1) x = upd (cleared ord j x) ord[j] 0 := by
  funext i
  unfold cleared upd
  rw [← List.take_append_getElem hj]
  by_cases e : i = ord[j]
  · simp only [e, List.mem_append, List.mem_singleton, or_true, if_true]
  · simp only [List.mem_append, List.mem_singleton, e, or_false, if_false]
theorem cleared_all (ord : List Nat) (x : Nat → Int) (h : ∀ i, i ∉ ord → x i = 0) : cleared ord ord.length x = fun _ => 0 := by
  funext i
  unfold cleared
  rw [List.take_length]
  by_cases e : i ∈ ord
  · simp [e]
  · simp [e, h i e]

section
variable {w : World} {own : Nat → Nat} {base p gl gp gn lo hi : Nat} {f : Nat → Value} {G : List (List Int)} {left P L : Nat → Int} {ord : List Nat} {st : List (Nat × Nat)}
theorem BD.ne_gl_gp (h : BD w own base p gl gp gn lo hi f G left P L ord st) : gl ≠ gp := fun e => by have h1 := h.tg.kl; rw [e, h.tg.kq] at h1; cases h1
theorem BD.ne_gl_gn (h : BD w own base p gl gp gn lo hi f G left P L ord st) : gl ≠ gn := fun e => by have h1 := h.tg.kl; rw [e, h.tg.kn] at h1; cases h1
theorem BD.ne_gp_gn (h : BD w own base p gl gp gn lo hi f G left P L ord st) : gp ≠ gn := fun e => by have h1 := h.tg.kq; rw [e, h.tg.kn] at h1; cases h1
theorem BD.ne_p_gl (h : BD w own base p gl gp gn lo hi f G left P L ord st) : p ≠ gl := fun e => by have h1 := h.tg.kp; rw [e, h.tg.kl] at h1; cases h1
theorem BD.ne_p_gp (h : BD w own base p gl gp gn lo hi f G left P L ord st) : p ≠ gp := fun e => by have h1 := h.tg.kp; rw [e, h.tg.kq] at h1; cases h1
theorem BD.ne_p_gn (h : BD w own base p gl gp gn lo hi f G left P L ord st) : p ≠ gn := fun e => by have h1 := h.tg.kp; rw [e, h.tg.kn] at h1; cases h1
end

/-- One more on the path, once it is stored. -/
theorem BD.pushPath {w : World} {own : Nat → Nat} {base p gl gp gn lo hi : Nat} {f : Nat → Value} {G : List (List Int)} {left P L : Nat → Int} {ord : List Nat} {st : List (Nat × Nat)} (h : BD w own base p gl gp gn lo hi f G left P L ord st) (v0 : Value) (st0 : List (Nat × Nat)) (hv0 : v0.ownBlock = (f 7).ownBlock) (x t : Nat) (o : Obj) (g cap : Nat) (w1 : World) (hr : w1.ownsRow base 62 2 (.slice (some ⟨g, 0, none⟩) (st0.length + 1) cap) (st0.length + 1) (sc st0 ++ [.int .i32 (x : Int), .int .i64 (t : Int)])) (hg : (w.alloc o).grownBy w1 v0.ownBlock) (hat : v0.ownBlock = some g ∨ g = (w.alloc o).heap.size) :
    w1.cell? ⟨p, 7, none⟩ = some (f 7) ∧ w1.frozen? ⟨p, 7, none⟩ = false ∧ BD (w1.setCell ⟨p, 7, none⟩ (.slice (some ⟨g, 0, none⟩) (st0.length + 1) cap)) (ext own w.heap.size 21) base p gl gp gn lo hi (upd f 7 (.slice (some ⟨g, 0, none⟩) (st0.length + 1) cap)) G left P L ord (st0 ++ [(x, t)]) ∧ Below base w (w1.setCell ⟨p, 7, none⟩ (.slice (some ⟨g, 0, none⟩) (st0.length + 1) cap)) := by
  have ha : Below w.heap.size w (w.alloc o) := (Below.refl _ _).alloc (Nat.le_refl _) _
  have hpl := h.rb.lt
  have hne : some p ≠ v0.ownBlock := fun e => by
    have h1 := h.t7 p (by rw [← hv0, ← e])
    rw [h.tg.kp] at h1
    cases h1
  have hbk : w1.heap[p]? = w.heap[p]? := (hg.block p (Nat.lt_of_lt_of_le hpl ha.size) hne).trans (ha.block p hpl)
  have hr1 := rowIs_of_heap h.rb hbk
  have hbp : base ≤ w.heap.size := Nat.le_trans h.tg.bp (Nat.le_of_lt hpl)
  refine ⟨hr1.cell (by decide), hr1.frozen 7, h.grownPath ha v0 st0 hv0 hg g cap x t hr hat, ?_⟩
  exact (((Below.refl base w).alloc hbp o).grown hg (Nat.le_trans hbp ha.size) (fun k hk => (h.rs.lt k (by rw [← hv0]; exact hk)).1)).setCell (p := ⟨p, 7, none⟩) h.tg.bp _

/-- One more in the order, once it is stored. -/
theorem BD.pushOrd {w : World} {own : Nat → Nat} {base p gl gp gn lo hi : Nat} {f : Nat → Value} {G : List (List Int)} {left P L : Nat → Int} {ord : List Nat} {st : List (Nat × Nat)} (h : BD w own base p gl gp gn lo hi f G left P L ord st) (x : Nat) (wa : World) (ha : Below w.heap.size w wa) (g cap : Nat) (w1 : World) (hr : w1.ownsRow base 50 1 (.slice (some ⟨g, 0, none⟩) (ord.length + 1) cap) (ord.length + 1) (ord.map vv ++ [vv x])) (hg : wa.grownBy w1 (f 6).ownBlock) (hat : (f 6).ownBlock = some g ∨ g = wa.heap.size) :
    w1.cell? ⟨p, 6, none⟩ = some (f 6) ∧ w1.frozen? ⟨p, 6, none⟩ = false ∧ BD (w1.setCell ⟨p, 6, none⟩ (.slice (some ⟨g, 0, none⟩) (ord.length + 1) cap)) (ext own w.heap.size 20) base p gl gp gn lo hi (upd f 6 (.slice (some ⟨g, 0, none⟩) (ord.length + 1) cap)) G left P L (ord ++ [x]) st ∧ Below base w (w1.setCell ⟨p, 6, none⟩ (.slice (some ⟨g, 0, none⟩) (ord.length + 1) cap)) := by
  have hpl := h.rb.lt
  have hne : some p ≠ (f 6).ownBlock := fun e => by
    have h1 := h.t6 p e.symm
    rw [h.tg.kp] at h1
    cases h1
  have hbk : w1.heap[p]? = w.heap[p]? := (hg.block p (Nat.lt_of_lt_of_le hpl ha.size) hne).trans (ha.block p hpl)
  have hr1 := rowIs_of_heap h.rb hbk
  have hbp : base ≤ w.heap.size := Nat.le_trans h.tg.bp (Nat.le_of_lt hpl)
  refine ⟨hr1.cell (by decide), hr1.frozen 6, h.grownOrd ha hg g cap x hr hat, ?_⟩
  exact ((ha.mono hbp).grown hg (Nat.le_trans hbp ha.size) (fun k hk => (h.ro.lt k hk).1)).setCell (p := ⟨p, 6, none⟩) h.tg.bp _

theorem sc_one (x : Nat) (t : Int) : ∀ u ∈ [Value.int .i32 (x : Int), .int .i64 t], u.oneCell' = true := by
  intro u hu
  simp at hu
  rcases hu with rfl | rfl <;> rfl

theorem sc_top (a : List (Nat × Nat)) (v t : Nat) : (sc (a ++ [(v, t)]))[a.length * 2]? = some (.int .i32 (v : Int)) ∧ (sc (a ++ [(v, t)]))[a.length * 2 + 1]? = some (.int .i64 (t : Int)) := by
  rw [sc_app]
  constructor
  · rw [List.getElem?_append_right (by rw [sc_len]; omega), sc_len]
    simp [sc]
  · rw [List.getElem?_append_right (by rw [sc_len]; omega), sc_len]
    simp [sc]

/-- What search leaves. -/
def Searched (base p gl gp gn lo hi : Nat) (f : Nat → Value) (G : List (List Nat)) (wk : Nat) (q : List Nat) (w : World) (e : Ending) (w' : World) : Prop :=
  e = .returned (.tuple #[]) ∧ ∃ own' f', BD w' own' base p gl gp gn lo hi f' (ints G) (fun x => (posOf q x : Int)) (fun _ => 0) (fun _ => 0) q [] ∧ f' 4 = .int .i64 ((wk + workOf G q : Nat) : Int) ∧ f' 2 = f 2 ∧ Below base w w'

set_option maxHeartbeats 8000000 in
set_option maxRecDepth 100000 in
theorem search29 (G : List (List Nat)) (hG : InR G) (back : Bool) (r : Nat) (hr : r < G.length) (hn : G.length ≤ 4096) (hsh : ∀ v, (row G v).length ≤ 1048576) (k : Nat) (sE : Nat → Bool) (q : List Nat) (hfin : Fin G back k r 0 (upd (fun _ => false) r true) [] sE q)
    (own : Nat → Nat) (base p gl gp gn lo hi : Nat) (f : Nat → Value) (left P L : Nat → Int) (ord : List Nat) (hz : ∀ x, x ∉ ord → left x = 0 ∧ P x = 0 ∧ L x = 0) (hord : ∀ x ∈ ord, x < G.length) (hol : ord.length ≤ 4096) (wk : Nat) (hwk : wk ≤ 1099511627776) (hf4 : f 4 = .int .i64 (wk : Int)) (w : World) (hBD : BD w own base p gl gp gn lo hi f (ints G) left P L ord []) :
    Calls Try.prog 29 #[.pointer (some ⟨p, 0, none⟩), .int .i32 (r : Int), .bool back] w (Searched base p gl gp gn lo hi f G wk q w) := by
  have HG : Hid (InR G) := hG
  have HSH : Hid (∀ v, (row G v).length ≤ 1048576) := hsh
  have HFN : Hid (Fin G back k r 0 (upd (fun _ => false) r true) [] sE q) := hfin
  have HZ : Hid (∀ x, x ∉ ord → left x = 0 ∧ P x = 0 ∧ L x = 0) := hz
  have HO : Hid (∀ x ∈ ord, x < G.length) := hord
  have HF4 : Hid (f 4 = .int .i64 (wk : Int)) := hf4
  clear hG hsh hfin hz hord hf4
  have c6 := hBD.rb.cell (i := 6) (by decide)
  obtain ⟨ao, cx, hf6⟩ := ownsRow_form hBD.ro
  rw [hf6] at c6
  have HF6 : Hid (f 6 = .slice ao ord.length cx) := hf6
  clear hf6
  go_enter Try.func29, Try.ntmps29
  go_wp2_with fail
  clear c6
  go_loopw [17] (fun i wr => ∃ j : Nat, j ≤ ord.length ∧ i = .int .i64 j ∧ BD wr own base p gl gp gn lo hi f (ints G) (cleared ord j left) (cleared ord j P) (cleared ord j L) ord [] ∧ Below base w wr) (fun i _ => ord.length - (intOf i).toNat)
  case atStart => exact ⟨0, Nat.zero_le _, rfl, by rw [cleared_zero, cleared_zero, cleared_zero]; exact hBD, Below.refl _ _⟩
  case round =>
    obtain ⟨j, hj, rfl, hB, hb⟩ := hrel
    clear hBD
    by_cases hlt : j < ord.length
    case pos =>
      have hgo : ∃ g, ao = some ⟨g, 0, none⟩ := by
        rcases hB.ro.2 with ⟨_, h0⟩ | ⟨g, cap, cur, hv, _⟩
        · omega
        · rw [HF6.out] at hv; simp only [Value.slice.injEq] at hv; exact ⟨g, hv.1⟩
      obtain ⟨go, rfl⟩ := hgo
      have hro := hB.ro
      rw [HF6.out] at hro
      have hc := hro.cellAt j (by omega)
      have hcj : (ord.map vv)[j]? = some (vv ord[j]) := by simp [hlt]
      rw [hcj] at hc
      unfold vv at hc
      have hx := HO.out ord[j] (List.getElem_mem hlt)
      have hxi : ord[j] < (ints G).length := by rw [ints_len]; exact hx
      have c5 := hB.rb.cell (i := 5) (by decide)
      have c8 := hB.rb.cell (i := 8) (by decide)
      have c9 := hB.rb.cell (i := 9) (by decide)
      rw [hB.f5, ints_len] at c5
      rw [hB.f8, ints_len] at c8
      rw [hB.f9, ints_len] at c9
      have l1 := hB.rl.cell hxi
      have l2 := hB.rp.cell hxi
      have l3 := hB.rn.cell hxi
      have g1 := hB.rl.frozen ord[j]
      have g2 := hB.rp.frozen ord[j]
      have g3 := hB.rn.frozen ord[j]
      have n1 := hB.ne_gl_gp
      have n2 := hB.ne_gl_gn
      have n3 := hB.ne_gp_gn
      have n4 := hB.ne_p_gl
      have n5 := hB.ne_p_gp
      have n6 := hB.ne_p_gn
      have n1' := n1.symm
      have n2' := n2.symm
      have n3' := n3.symm
      clear hcj hro
      have hB' := ((((hB.setLeft ord[j] 0).setP ord[j] 0).setL ord[j] 0).drewN 1)
      have hb' := below_drewN (((hb.setCell (p := ⟨gl, ord[j], none⟩) hB.tg.bl (.int .i32 0)).setCell (p := ⟨gp, ord[j], none⟩) hB.tg.bq (.int .i64 0)).setCell (p := ⟨gn, ord[j], none⟩) hB.tg.bn (.int .i64 0)) 1
      have EQ : Hid (cleared ord (j + 1) left = upd (cleared ord j left) ord[j] 0 ∧ cleared ord (j + 1) P = upd (cleared ord j P) ord[j] 0 ∧ cleared ord (j + 1) L = upd (cleared ord j L) ord[j] 0) := ⟨cleared_next _ _ hlt _, cleared_next _ _ hlt _, cleared_next _ _ hlt _⟩
      rw [← EQ.out.1, ← EQ.out.2.1, ← EQ.out.2.2] at hB'
      clear EQ hB
      have HB' : Hid (BD ((((wr.setCell ⟨gl, ord[j], none⟩ (.int .i32 0)).setCell ⟨gp, ord[j], none⟩ (.int .i64 0)).setCell ⟨gn, ord[j], none⟩ (.int .i64 0)).drew) own base p gl gp gn lo hi f (ints G) (cleared ord (j + 1) left) (cleared ord (j + 1) P) (cleared ord (j + 1) L) ord []) := hB'
      have Hb' : Hid (Below base w (((wr.setCell ⟨gl, ord[j], none⟩ (.int .i32 0)).setCell ⟨gp, ord[j], none⟩ (.int .i64 0)).setCell ⟨gn, ord[j], none⟩ (.int .i64 0)).drew) := hb'
      clear hB' hb' hb
      generalize ord[j] = x at *
      go_wp2_with fail
      go_region
      go_wp2_with fail
      go_roundw
      case rel => exact ⟨j + 1, by omega, by go_num, HB'.out, Hb'.out⟩
      case measure => simp [intOf]; omega
    obtain rfl : j = ord.length := by omega
    clear hlt hj
    have hB0 : BD wr own base p gl gp gn lo hi f (ints G) (fun _ => 0) (fun _ => 0) (fun _ => 0) ord [] := by
      rw [cleared_all ord left (fun x h => (HZ.out x h).1), cleared_all ord P (fun x h => (HZ.out x h).2.1), cleared_all ord L (fun x h => (HZ.out x h).2.2)] at hB
      exact hB
    clear hB HZ HO hol
    have c6 := hB0.rb.cell (i := 6) (by decide)
    have d6 := hB0.rb.frozen 6
    rw [HF6.out] at c6
    have hle : ord.length ≤ cx ∧ cx ≤ 9223372036854775807 := by
      have := hB0.ro
      rw [HF6.out] at this
      rcases this.2 with ⟨h0, h1⟩ | ⟨g, cap, cur, hv, _, _, h1, h2, _⟩
      · simp only [Value.slice.injEq] at h0; omega
      · simp only [Value.slice.injEq] at hv; unfold maxLen at h2; omega
    generalize hol : ord.length = ol at *
    go_upto_region 6 with fail
    have hB1 : BD (wr.setCell ⟨p, 6, none⟩ (.slice ao 0 cx)) own base p gl gp gn lo hi (upd f 6 (.slice ao 0 cx)) (ints G) (fun _ => 0) (fun _ => 0) (fun _ => 0) [] [] := by
      have hro := hB0.ro
      rw [HF6.out, hol] at hro
      refine hB0.setOrd (.slice ao 0 cx) [] (by simpa using ownsRow_take hro (Nat.zero_le ol)) (fun g hg => hB0.t6 g ?_)
      rw [HF6.out]
      rcases ao with _ | a0
      · cases hg
      · exact hg
    have hb1 : Below base w (wr.setCell ⟨p, 6, none⟩ (.slice ao 0 cx)) := hb.setCell (p := ⟨p, 6, none⟩) hB0.tg.bp _
    clear c6 d6 hB0 hb
    generalize wr.setCell ⟨p, 6, none⟩ (.slice ao 0 cx) = w1 at *
    have HF4' : Hid (upd f 6 (.slice ao 0 cx) 4 = .int .i64 (wk : Int)) := HF4.out
    have HF2' : Hid (upd f 6 (.slice ao 0 cx) 2 = f 2) := rfl
    generalize upd f 6 (.slice ao 0 cx) = f1 at *
    clear HF4 HF6 hle hol
    have c5 := hB1.rb.cell (i := 5) (by decide)
    rw [hB1.f5, ints_len] at c5
    have hri : r < (ints G).length := by rw [ints_len]; exact hr
    have l1 := hB1.rl.cell hri
    have g1 := hB1.rl.frozen r
    go_upto_region 7 with fail
    have hB2 : BD (w1.setCell ⟨gl, r, none⟩ (.int .i32 (-1))) own base p gl gp gn lo hi f1 (ints G) (leftOf [] (upd (fun _ => false) r true)) (fun _ => 0) (fun _ => 0) [] [] := by
      rw [leftOf_start]; exact hB1.setLeft r (-1)
    have hb2 : Below base w (w1.setCell ⟨gl, r, none⟩ (.int .i32 (-1))) := hb1.setCell (p := ⟨gl, r, none⟩) hB1.tg.bl _
    clear c5 l1 g1 hB1 hb1
    generalize w1.setCell ⟨gl, r, none⟩ (.int .i32 (-1)) = w2 at *
    obtain ⟨ap, cp, hf7⟩ := ownsRow_form hB2.rs
    have c7 := hB2.rb.cell (i := 7) (by decide)
    rw [hf7] at c7
    simp only [List.length_nil] at c7 hf7
    have HOA : ∀ o, (w2.alloc o).ownsRow base 62 2 (.slice ap 0 cp) 0 [] := fun o => by
      have := hB2.rs.alloc o
      rw [hf7] at this
      exact this
    have HNW : Hid (∀ j u, [Value.int .i32 (r : Int), .int .i64 0][j]? = some u → (w2.alloc (.cells #[.int .i32 (r : Int), .int .i64 0] 62)).cell? ((⟨w2.heap.size, 0, none⟩ : Addr).add j) = some u) := World.news_of_block (heap_alloc_new w2 (.cells #[.int .i32 (r : Int), .int .i64 0] 62))
    have hbw : base ≤ w2.heap.size := Nat.le_trans hB2.tg.bp (Nat.le_of_lt hB2.rb.lt)
    have HPP : Hid (∀ g cap w3, w3.ownsRow base 62 2 (.slice (some ⟨g, 0, none⟩) 1 cap) 1 [Value.int .i32 (r : Int), .int .i64 0] → (w2.alloc (.cells #[.int .i32 (r : Int), .int .i64 0] 62)).grownBy w3 (Value.slice ap 0 cp).ownBlock → ((Value.slice ap 0 cp).ownBlock = some g ∨ g = (w2.alloc (.cells #[.int .i32 (r : Int), .int .i64 0] 62)).heap.size) → w3.cell? ⟨p, 7, none⟩ = some (.slice ap 0 cp) ∧ w3.frozen? ⟨p, 7, none⟩ = false ∧ BD (w3.setCell ⟨p, 7, none⟩ (.slice (some ⟨g, 0, none⟩) 1 cap)) (ext own w2.heap.size 21) base p gl gp gn lo hi (upd f1 7 (.slice (some ⟨g, 0, none⟩) 1 cap)) (ints G) (leftOf [] (upd (fun _ => false) r true)) (fun _ => 0) (fun _ => 0) [] [(r, 0)] ∧ Below base w2 (w3.setCell ⟨p, 7, none⟩ (.slice (some ⟨g, 0, none⟩) 1 cap))) := fun g cap w3 ho hg ha => by
      have := hB2.pushPath (.slice ap 0 cp) [] (by rw [hf7]) r 0 _ g cap w3 ho hg ha
      rw [hf7] at this
      exact this
    clear hf7
    obtain ⟨j0, hj0, hy0, hy1, hy2⟩ := info_parts info62
    clear hB2
    go_wp2_with (at_builtin; refine wpList_append_lies _ rfl _ _ 46 rfl base 62 j0 _ 2 16 Try.underlying46 hj0 hy0 hy1 hy2 rfl (by decide) (.slice ap 0 cp) 0 [] (by rfl) (HOA _) ⟨w2.heap.size, 0, none⟩ 1 1 [Value.int .i32 (r : Int), .int .i64 0] (by rfl) rfl HNW.out (sc_one r 0) (by decide) (by unfold maxLen; omega) (by omega) (by simp; omega) _ rfl ?_; intro g cap w3 hown hgrow hat hltg; obtain ⟨e1, e2, hB3, hb3⟩ := HPP.out g cap w3 hown hgrow hat)
    clear e1 e2 HPP HNW HOA c7 hltg hat
    have hb4 : Below base w (w3.setCell ⟨p, 7, none⟩ (.slice (some ⟨g, 0, none⟩) 1 cap)) := hb2.trans hb3
    clear hb2 hb3 hown hgrow
    have HF4a : Hid (upd f1 7 (.slice (some ⟨g, 0, none⟩) 1 cap) 4 = .int .i64 (wk : Int)) := HF4'.out
    have HF2a : Hid (upd f1 7 (.slice (some ⟨g, 0, none⟩) 1 cap) 2 = f 2) := HF2'.out
    clear HF4' HF2'
    have HPO := HFN.out.post HG.out hr
    have HPQ : Hid (Post G r q ∧ ∀ x, sE x = true ↔ x ∈ q) := HPO
    have hql : q.length ≤ 4096 := Nat.le_trans (nodup_len _ q HPO.1.nodup HPO.1.lt) hn
    clear HPO
    generalize w3.setCell ⟨p, 7, none⟩ (.slice (some ⟨g, 0, none⟩) 1 cap) = w4 at *
    go_loopg [10] k (fun k x wr => ∃ (own1 : Nat → Nat) (f1 : Nat → Value) (s : Nat → Bool) (p1 : List Nat) (st : List (Nat × Nat)), BD wr own1 base p gl gp gn lo hi f1 (ints G) (leftOf p1 s) (fun _ => 0) (fun _ => 0) p1 st.reverse ∧ Hid (FinAll G back sE q k st s p1) ∧ Hid (∀ x ∈ p1, s x = true) ∧ Hid (∀ y ∈ st, s y.1 = true ∧ y.1 < G.length) ∧ Hid (f1 4 = .int .i64 ((wk + workOf G p1 : Nat) : Int)) ∧ Hid (f1 2 = f 2) ∧ Below base w wr)
    case atStart =>
      exact ⟨_, _, upd (fun _ => false) r true, [], [(r, 0)], hB3, ⟨k, 0, sE, q, by omega, HFN.out, rfl, rfl, rfl⟩, (fun x hx => by cases hx), (fun y hy => by rw [List.mem_singleton] at hy; subst hy; exact ⟨upd_same _ _ _, hr⟩), HF4a.out, HF2a.out, hb4⟩
    case round =>
    obtain ⟨own1, f2, s, p1, st, hB, hFA, hps, hst, hf4, hf2, hb⟩ := hrel
    clear hB3 hb4 HF4a HF2a HFN
    cases st with
    | nil =>
      obtain ⟨_, rfl, rfl⟩ := hFA.out
      have HX : Hid (Searched base p gl gp gn lo hi f G wk p1 w (.returned (.tuple #[])) wr) := by
        refine ⟨rfl, own1, f2, ?_, hf4.out, hf2.out, hb⟩
        have := hB
        rw [leftOf_end p1 s HPQ.out.2] at this
        exact this
      obtain ⟨ap, cp, hf7⟩ := ownsRow_form hB.rs
      have c7 := hB.rb.cell (i := 7) (by decide)
      rw [hf7] at c7
      simp only [List.reverse_nil, List.length_nil] at c7
      clear hB hf7
      go_wp2_with fail
      go_end0
      exact HX.out
    | cons y rest =>
    obtain ⟨v, t⟩ := y
    have hrev : ((v, t) :: rest).reverse = rest.reverse ++ [(v, t)] := by simp
    rw [hrev] at hB
    have hrl : (rest.reverse ++ [(v, t)]).length = rest.length + 1 := by simp
    obtain ⟨gs, cp, hf7⟩ : ∃ gs cp, f2 7 = .slice (some ⟨gs, 0, none⟩) (rest.length + 1) cp := by
      rcases hB.rs.2 with ⟨_, h0⟩ | ⟨g, cap, cur, hv, _⟩
      · rw [hrl] at h0; omega
      · rw [hrl] at hv; exact ⟨g, cap, hv⟩
    have hv : v < G.length := (hst.out (v, t) (by simp)).2
    have htl := hFA.out.le
    have hRn : rest.length + 1 ≤ 4096 := by
      obtain ⟨l, e1, e2⟩ := FinAll.pre HG.out _ hFA.out
      have : q.length = p1.length + l.length := by rw [e1]; simp
      simp at e2
      omega
    have hlen := HSH.out v
    have hB1 := hB
    clear hB
    have hrs := hB1.rs
    rw [hrl, hf7] at hrs
    have t1 := hrs.cellAt (rest.length * 2) (by omega)
    have t2 := hrs.cellAt (rest.length * 2 + 1) (by omega)
    have t3 := hrs.frozenAt (rest.length * 2 + 1)
    have htop := sc_top rest.reverse v t
    rw [List.length_reverse] at htop
    rw [htop.1] at t1
    rw [htop.2] at t2
    have c7 := hB1.rb.cell (i := 7) (by decide)
    have c0 := hB1.rb.cell (i := 0) (by decide)
    rw [hf7] at c7
    rw [hB1.f0, ints_len] at c0
    obtain ⟨a, rb, ro, c, h1, h2, h3⟩ := hB1.gr.rowN v hv
    rw [Nat.zero_add] at h1
    have HR2 : Hid (0 < (row G v).length → a = some ⟨rb, ro, none⟩ ∧ lo ≤ rb ∧ rb < hi) := h2
    have HR3 : Hid (∀ j, j < (row G v).length → wr.cell? ⟨rb, ro + j, none⟩ = some (vv ((row G v).getD j 0))) := h3
    clear h2 h3 htop hrs
    obtain ⟨R, hR⟩ : ∃ R, rest.length = R := ⟨_, rfl⟩
    have HRR : Hid (rest.length = R) := hR
    have HF7 : Hid (f2 7 = .slice (some ⟨gs, 0, none⟩) (R + 1) cp) := by rw [← hR]; exact hf7
    rw [hR] at t1 t2 t3 c7 hRn
    clear hR hf7 hrl
    have HB1 : Hid (BD wr own1 base p gl gp gn lo hi f2 (ints G) (leftOf p1 s) (fun _ => 0) (fun _ => 0) p1 (rest.reverse ++ [(v, t)])) := hB1
    clear hB1
    obtain ⟨len, hle⟩ : ∃ len, (row G v).length = len := ⟨_, rfl⟩
    have HLE : Hid ((row G v).length = len) := hle
    rw [hle] at h1 htl hlen
    clear hle
    go_wp2_with fail
    go_quiet (fail)
    obtain ⟨n1, hn1⟩ : ∃ n1, nq = n1 := ⟨_, rfl⟩
    rw [hn1]
    clear hn1
    go_wp2_with fail
    go_quiet (fail)
    have hbW : Below base w ((wr.drewN n1).drewN nq) := below_drewN (below_drewN hb n1) nq
    have hBW := (HB1.out.drewN n1).drewN nq
    have e1 : ((wr.drewN n1).drewN nq).cell? ⟨gs, R * 2, none⟩ = some (.int .i32 (v : Int)) := t1
    have e2 : ((wr.drewN n1).drewN nq).cell? ⟨gs, R * 2 + 1, none⟩ = some (.int .i64 (t : Int)) := t2
    have e3 : ((wr.drewN n1).drewN nq).frozen? ⟨gs, R * 2 + 1, none⟩ = false := t3
    have e4 : ((wr.drewN n1).drewN nq).cell? ⟨p, 7, none⟩ = some (.slice (some ⟨gs, 0, none⟩) (R + 1) cp) := c7
    have HR4 : Hid (∀ j, j < (row G v).length → ((wr.drewN n1).drewN nq).cell? ⟨rb, ro + j, none⟩ = some (vv ((row G v).getD j 0))) := HR3.out
    have HBW : Hid (BD ((wr.drewN n1).drewN nq) own1 base p gl gp gn lo hi f2 (ints G) (leftOf p1 s) (fun _ => 0) (fun _ => 0) p1 (rest.reverse ++ [(v, t)])) := hBW
    have c4 := hBW.rb.cell (i := 4) (by decide)
    have d4 := hBW.rb.frozen 4
    rw [hf4.out] at c4
    have hgs21 : own1 gs = 21 := hBW.t7 gs (by rw [HF7.out]; rfl)
    have hgsb : base ≤ gs := (hBW.rs.lt gs (by rw [HF7.out]; rfl)).1
    have HE1 : Hid (∀ g, lo ≤ g → g < hi → own1 g = 1) := hBW.tg.e
    clear t1 t2 t3 c7 c0 h1 HB1 hb hBW HR3
    generalize (wr.drewN n1).drewN nq = W at *
    have t1 := e1
    have t2 := e2
    have t3 := e3
    have c7 := e4
    clear e1 e2 e3 e4
    by_cases htl2 : t < len
    case pos =>
      obtain ⟨rfl, hrb1, hrb2⟩ := HR2.out (by rw [HLE.out]; omega)
      have hrbne : rb ≠ gs := fun e => by have h1 := HE1.out rb hrb1 hrb2; rw [e, hgs21] at h1; cases h1
      obtain ⟨idx, hidx, hidx2, hnx⟩ : ∃ idx : Nat, idx < len ∧ (if back then (len : Int) - 1 - (t : Int) else (t : Int)) = (idx : Int) ∧ (row G v).getD idx 0 = nth back (row G v) t := by
        cases back with
        | false => exact ⟨t, htl2, rfl, by simp [nth]⟩
        | true => exact ⟨len - 1 - t, by omega, by simp; omega, by simp [nth, HLE.out]⟩
      have hcx := HR4.out idx (by rw [HLE.out]; exact hidx)
      rw [hnx] at hcx
      unfold vv at hcx
      have hxn : nth back (row G v) t < G.length := HG.out v _ (nth_mem (by rw [HLE.out]; exact htl2))
      obtain ⟨x, hxx⟩ : ∃ x, nth back (row G v) t = x := ⟨_, rfl⟩
      have HXN : Hid (nth back (row G v) t = x) := hxx
      rw [hxx] at hcx hxn
      clear hnx hxx HR4
      cases back with
      | false =>
        simp only [Bool.false_eq_true, if_false, Int.natCast_inj] at hidx2
        subst hidx2
        go_upto_region 16 with fail
        have hB3 : BD (W.setCell ⟨gs, R * 2 + 1, none⟩ (.int .i64 ((t : Int) + 1))) own1 base p gl gp gn lo hi f2 (ints G) (leftOf p1 s) (fun _ => 0) (fun _ => 0) p1 (rest.reverse ++ [(v, t + 1)]) := by
          have := HBW.out.setTaken gs cp (by rw [List.length_reverse, HRR.out]; exact HF7.out) (t + 1)
          rw [List.length_reverse, HRR.out] at this
          exact this
        have hb3 : Below base w (W.setCell ⟨gs, R * 2 + 1, none⟩ (.int .i64 ((t : Int) + 1))) := hbW.setCell (p := ⟨gs, R * 2 + 1, none⟩) hgsb _
        have hcl : (W.setCell ⟨gs, R * 2 + 1, none⟩ (.int .i64 ((t : Int) + 1))).cell? ⟨rb, ro + t, none⟩ = some (.int .i32 (x : Int)) := by
          rw [World.cell?_of_block (w := W) (a := ⟨rb, ro + t, none⟩) (Below.heap_setCell _ _ _ _ hrbne)]
          exact hcx
        clear t1 t2 t3 c7 c4 d4 HBW hbW hcx
        generalize W.setCell ⟨gs, R * 2 + 1, none⟩ (.int .i64 ((t : Int) + 1)) = W3 at *
        have c5 := hB3.rb.cell (i := 5) (by decide)
        rw [hB3.f5, ints_len] at c5
        have l1 := hB3.rl.cell (show x < (ints G).length by rw [ints_len]; exact hxn)
        have l2 := hB3.rl.frozen x
        have hL0 := leftOf_zero p1 s hps.out x
        cases hsx : s x with
        | true =>
          rw [hsx] at hL0
          simp only [Bool.not_true] at hL0
          obtain ⟨k', hk', hFA'⟩ := hFA.out.skip (by rw [HLE.out]; exact htl2) (by rw [HXN.out]; exact hsx)
          have HFA' : Hid (FinAll G false sE q k' ((v, t + 1) :: rest) s p1) := hFA'
          have HB3 : Hid (BD W3 own1 base p gl gp gn lo hi f2 (ints G) (leftOf p1 s) (fun _ => 0) (fun _ => 0) p1 ((v, t + 1) :: rest).reverse) := by
            have e : ((v, t + 1) :: rest).reverse = rest.reverse ++ [(v, t + 1)] := by simp
            show BD _ _ _ _ _ _ _ _ _ _ _ _ _ _ _ _
            rw [e]; exact hB3
          clear hB3 hFA hFA'
          generalize leftOf p1 s x = lx at *
          go_wp2_with fail
          go_roundg k'
          case measure => omega
          case rel => exact ⟨own1, f2, s, p1, (v, t + 1) :: rest, HB3.out, HFA'.out, hps, (fun y hy => by rcases List.mem_cons.1 hy with rfl | hy; exact ⟨(hst.out (v, t) (by simp)).1, hv⟩; exact hst.out y (List.mem_cons_of_mem _ hy)), hf4, hf2, hb3⟩
        | false =>
          rw [hsx] at hL0
          simp only [Bool.not_false] at hL0
          have hl0 : leftOf p1 s x = 0 := by simpa using hL0
          rw [hl0] at l1
          obtain ⟨k', hk', hFA'⟩ := hFA.out.go (by rw [HLE.out]; exact htl2) (by rw [HXN.out]; exact hsx)
          rw [HXN.out] at hFA'
          have HFA' : Hid (FinAll G false sE q k' ((x, 0) :: (v, t + 1) :: rest) (upd s x true) p1) := hFA'
          have hxp : x ∉ p1 := fun hm => by have := hps.out x hm; rw [hsx] at this; cases this
          have hB4 : BD (W3.setCell ⟨gl, x, none⟩ (.int .i32 (-1))) own1 base p gl gp gn lo hi f2 (ints G) (leftOf p1 (upd s x true)) (fun _ => 0) (fun _ => 0) p1 (rest.reverse ++ [(v, t + 1)]) := by
            rw [leftOf_go p1 s x hxp]; exact hB3.setLeft x (-1)
          have hb4 : Below base w (W3.setCell ⟨gl, x, none⟩ (.int .i32 (-1))) := hb3.setCell (p := ⟨gl, x, none⟩) hB3.tg.bl _
          clear hL0 hl0 hFA hFA' hB3 hb3
          go_upto_region 19 with fail
          clear c5 l1 l2
          generalize W3.setCell ⟨gl, x, none⟩ (.int .i32 (-1)) = W4 at *
          have c7 := hB4.rb.cell (i := 7) (by decide)
          rw [HF7.out] at c7
          have hlen4 : (rest.reverse ++ [(v, t + 1)]).length = R + 1 := by simp [HRR.out]
          have hR2 : R + 1 + 1 ≤ 4097 := by omega
          have HOA : ∀ o, (W4.alloc o).ownsRow base 62 2 (.slice (some ⟨gs, 0, none⟩) (R + 1) cp) (R + 1) (sc (rest.reverse ++ [(v, t + 1)])) := fun o => by
            have := hB4.rs.alloc o
            rw [HF7.out, hlen4] at this
            exact this
          have HNW : Hid (∀ j u, [Value.int .i32 (x : Int), .int .i64 0][j]? = some u → (W4.alloc (.cells #[.int .i32 (x : Int), .int .i64 0] 62)).cell? ((⟨W4.heap.size, 0, none⟩ : Addr).add j) = some u) := World.news_of_block (heap_alloc_new W4 (.cells #[.int .i32 (x : Int), .int .i64 0] 62))
          have hbw : base ≤ W4.heap.size := Nat.le_trans hB4.tg.bp (Nat.le_of_lt hB4.rb.lt)
          have HPP : Hid (∀ g cap w5, w5.ownsRow base 62 2 (.slice (some ⟨g, 0, none⟩) (R + 1 + 1) cap) (R + 1 + 1) (sc (rest.reverse ++ [(v, t + 1)]) ++ [Value.int .i32 (x : Int), .int .i64 0]) → (W4.alloc (.cells #[.int .i32 (x : Int), .int .i64 0] 62)).grownBy w5 (Value.slice (some ⟨gs, 0, none⟩) (R + 1) cp).ownBlock → ((Value.slice (some ⟨gs, 0, none⟩) (R + 1) cp).ownBlock = some g ∨ g = (W4.alloc (.cells #[.int .i32 (x : Int), .int .i64 0] 62)).heap.size) → w5.cell? ⟨p, 7, none⟩ = some (.slice (some ⟨gs, 0, none⟩) (R + 1) cp) ∧ w5.frozen? ⟨p, 7, none⟩ = false ∧ Hid (BD (w5.setCell ⟨p, 7, none⟩ (.slice (some ⟨g, 0, none⟩) (R + 1 + 1) cap)) (ext own1 W4.heap.size 21) base p gl gp gn lo hi (upd f2 7 (.slice (some ⟨g, 0, none⟩) (R + 1 + 1) cap)) (ints G) (leftOf p1 (upd s x true)) (fun _ => 0) (fun _ => 0) p1 ((x, 0) :: (v, t + 1) :: rest).reverse) ∧ Below base w (w5.setCell ⟨p, 7, none⟩ (.slice (some ⟨g, 0, none⟩) (R + 1 + 1) cap))) := fun g cap w5 ho hg ha => by
            have := hB4.pushPath (.slice (some ⟨gs, 0, none⟩) (R + 1) cp) (rest.reverse ++ [(v, t + 1)]) (by rw [HF7.out]) x 0 _ g cap w5 (by rw [hlen4]; exact ho) hg ha
            rw [HF7.out, hlen4] at this
            obtain ⟨a1, a2, a3, a4⟩ := this
            have e : ((x, 0) :: (v, t + 1) :: rest).reverse = rest.reverse ++ [(v, t + 1)] ++ [(x, 0)] := by simp
            exact ⟨a1, a2, (by rw [e]; exact a3), hb4.trans a4⟩
          clear hB4 hb4 hlen4
          generalize sc (rest.reverse ++ [(v, t + 1)]) = cs at *
          go_wp2_with (at_builtin; refine wpList_append_lies _ rfl _ _ 46 rfl base 62 j0 _ 2 16 Try.underlying46 hj0 hy0 hy1 hy2 rfl (by decide) (.slice (some ⟨gs, 0, none⟩) (R + 1) cp) (R + 1) cs (by rfl) (HOA _) ⟨W4.heap.size, 0, none⟩ 1 1 [Value.int .i32 (x : Int), .int .i64 0] (by rfl) rfl HNW.out (sc_one x 0) (by decide) (by unfold maxLen; omega) (by omega) (by simp; omega) _ rfl ?_; intro g5 cap5 w5 hown hgrow hat hltg; obtain ⟨e1, e2, hB5, hb5⟩ := HPP.out g5 cap5 w5 hown hgrow hat)
          go_roundg k'
          case measure => omega
          case rel => exact ⟨_, _, upd s x true, p1, (x, 0) :: (v, t + 1) :: rest, hB5.out, HFA'.out, (fun y hy => by unfold upd; split; rfl; exact hps.out y hy), (fun y hy => by
            rcases List.mem_cons.1 hy with rfl | hy
            · exact ⟨upd_same _ _ _, hxn⟩
            · rcases List.mem_cons.1 hy with rfl | hy
              · exact ⟨by unfold upd; split; rfl; exact (hst.out (v, t) (by simp)).1, hv⟩
              · exact ⟨by unfold upd; split; rfl; exact (hst.out y (List.mem_cons_of_mem _ hy)).1, (hst.out y (List.mem_cons_of_mem _ hy)).2⟩), hf4, hf2, hb5⟩
      | true =>
        simp only [if_true] at hidx2
        go_upto_region 16 with fail
        have hB3 : BD (W.setCell ⟨gs, R * 2 + 1, none⟩ (.int .i64 ((t : Int) + 1))) own1 base p gl gp gn lo hi f2 (ints G) (leftOf p1 s) (fun _ => 0) (fun _ => 0) p1 (rest.reverse ++ [(v, t + 1)]) := by
          have := HBW.out.setTaken gs cp (by rw [List.length_reverse, HRR.out]; exact HF7.out) (t + 1)
          rw [List.length_reverse, HRR.out] at this
          exact this
        have hb3 : Below base w (W.setCell ⟨gs, R * 2 + 1, none⟩ (.int .i64 ((t : Int) + 1))) := hbW.setCell (p := ⟨gs, R * 2 + 1, none⟩) hgsb _
        have hcl : (W.setCell ⟨gs, R * 2 + 1, none⟩ (.int .i64 ((t : Int) + 1))).cell? ⟨rb, ro + idx, none⟩ = some (.int .i32 (x : Int)) := by
          rw [World.cell?_of_block (w := W) (a := ⟨rb, ro + idx, none⟩) (Below.heap_setCell _ _ _ _ hrbne)]
          exact hcx
        clear t1 t2 t3 c7 c4 d4 HBW hbW hcx
        generalize W.setCell ⟨gs, R * 2 + 1, none⟩ (.int .i64 ((t : Int) + 1)) = W3 at *
        have c5 := hB3.rb.cell (i := 5) (by decide)
        rw [hB3.f5, ints_len] at c5
        have l1 := hB3.rl.cell (show x < (ints G).length by rw [ints_len]; exact hxn)
        have l2 := hB3.rl.frozen x
        have hL0 := leftOf_zero p1 s hps.out x
        cases hsx : s x with
        | true =>
          rw [hsx] at hL0
          simp only [Bool.not_true] at hL0
          obtain ⟨k', hk', hFA'⟩ := hFA.out.skip (by rw [HLE.out]; exact htl2) (by rw [HXN.out]; exact hsx)
          have HFA' : Hid (FinAll G true sE q k' ((v, t + 1) :: rest) s p1) := hFA'
          have HB3 : Hid (BD W3 own1 base p gl gp gn lo hi f2 (ints G) (leftOf p1 s) (fun _ => 0) (fun _ => 0) p1 ((v, t + 1) :: rest).reverse) := by
            have e : ((v, t + 1) :: rest).reverse = rest.reverse ++ [(v, t + 1)] := by simp
            show BD _ _ _ _ _ _ _ _ _ _ _ _ _ _ _ _
            rw [e]; exact hB3
          clear hB3 hFA hFA'
          generalize leftOf p1 s x = lx at *
          go_wp2_with fail
          go_roundg k'
          case measure => omega
          case rel => exact ⟨own1, f2, s, p1, (v, t + 1) :: rest, HB3.out, HFA'.out, hps, (fun y hy => by rcases List.mem_cons.1 hy with rfl | hy; exact ⟨(hst.out (v, t) (by simp)).1, hv⟩; exact hst.out y (List.mem_cons_of_mem _ hy)), hf4, hf2, hb3⟩
        | false =>
          rw [hsx] at hL0
          simp only [Bool.not_false] at hL0
          have hl0 : leftOf p1 s x = 0 := by simpa using hL0
          rw [hl0] at l1
          obtain ⟨k', hk', hFA'⟩ := hFA.out.go (by rw [HLE.out]; exact htl2) (by rw [HXN.out]; exact hsx)
          rw [HXN.out] at hFA'
          have HFA' : Hid (FinAll G true sE q k' ((x, 0) :: (v, t + 1) :: rest) (upd s x true) p1) := hFA'
          have hxp : x ∉ p1 := fun hm => by have := hps.out x hm; rw [hsx] at this; cases this
          have hB4 : BD (W3.setCell ⟨gl, x, none⟩ (.int .i32 (-1))) own1 base p gl gp gn lo hi f2 (ints G) (leftOf p1 (upd s x true)) (fun _ => 0) (fun _ => 0) p1 (rest.reverse ++ [(v, t + 1)]) := by
            rw [leftOf_go p1 s x hxp]; exact hB3.setLeft x (-1)
          have hb4 : Below base w (W3.setCell ⟨gl, x, none⟩ (.int .i32 (-1))) := hb3.setCell (p := ⟨gl, x, none⟩) hB3.tg.bl _
          clear hL0 hl0 hFA hFA' hB3 hb3
          go_upto_region 19 with fail
          clear c5 l1 l2
          generalize W3.setCell ⟨gl, x, none⟩ (.int .i32 (-1)) = W4 at *
          have c7 := hB4.rb.cell (i := 7) (by decide)
          rw [HF7.out] at c7
          have hlen4 : (rest.reverse ++ [(v, t + 1)]).length = R + 1 := by simp [HRR.out]
          have hR2 : R + 1 + 1 ≤ 4097 := by omega
          have HOA : ∀ o, (W4.alloc o).ownsRow base 62 2 (.slice (some ⟨gs, 0, none⟩) (R + 1) cp) (R + 1) (sc (rest.reverse ++ [(v, t + 1)])) := fun o => by
            have := hB4.rs.alloc o
            rw [HF7.out, hlen4] at this
            exact this
          have HNW : Hid (∀ j u, [Value.int .i32 (x : Int), .int .i64 0][j]? = some u → (W4.alloc (.cells #[.int .i32 (x : Int), .int .i64 0] 62)).cell? ((⟨W4.heap.size, 0, none⟩ : Addr).add j) = some u) := World.news_of_block (heap_alloc_new W4 (.cells #[.int .i32 (x : Int), .int .i64 0] 62))
          have hbw : base ≤ W4.heap.size := Nat.le_trans hB4.tg.bp (Nat.le_of_lt hB4.rb.lt)
          have HPP : Hid (∀ g cap w5, w5.ownsRow base 62 2 (.slice (some ⟨g, 0, none⟩) (R + 1 + 1) cap) (R + 1 + 1) (sc (rest.reverse ++ [(v, t + 1)]) ++ [Value.int .i32 (x : Int), .int .i64 0]) → (W4.alloc (.cells #[.int .i32 (x : Int), .int .i64 0] 62)).grownBy w5 (Value.slice (some ⟨gs, 0, none⟩) (R + 1) cp).ownBlock → ((Value.slice (some ⟨gs, 0, none⟩) (R + 1) cp).ownBlock = some g ∨ g = (W4.alloc (.cells #[.int .i32 (x : Int), .int .i64 0] 62)).heap.size) → w5.cell? ⟨p, 7, none⟩ = some (.slice (some ⟨gs, 0, none⟩) (R + 1) cp) ∧ w5.frozen? ⟨p, 7, none⟩ = false ∧ Hid (BD (w5.setCell ⟨p, 7, none⟩ (.slice (some ⟨g, 0, none⟩) (R + 1 + 1) cap)) (ext own1 W4.heap.size 21) base p gl gp gn lo hi (upd f2 7 (.slice (some ⟨g, 0, none⟩) (R + 1 + 1) cap)) (ints G) (leftOf p1 (upd s x true)) (fun _ => 0) (fun _ => 0) p1 ((x, 0) :: (v, t + 1) :: rest).reverse) ∧ Below base w (w5.setCell ⟨p, 7, none⟩ (.slice (some ⟨g, 0, none⟩) (R + 1 + 1) cap))) := fun g cap w5 ho hg ha => by
            have := hB4.pushPath (.slice (some ⟨gs, 0, none⟩) (R + 1) cp) (rest.reverse ++ [(v, t + 1)]) (by rw [HF7.out]) x 0 _ g cap w5 (by rw [hlen4]; exact ho) hg ha
            rw [HF7.out, hlen4] at this
            obtain ⟨a1, a2, a3, a4⟩ := this
            have e : ((x, 0) :: (v, t + 1) :: rest).reverse = rest.reverse ++ [(v, t + 1)] ++ [(x, 0)] := by simp
            exact ⟨a1, a2, (by rw [e]; exact a3), hb4.trans a4⟩
          clear hB4 hb4 hlen4
          generalize sc (rest.reverse ++ [(v, t + 1)]) = cs at *
          go_wp2_with (at_builtin; refine wpList_append_lies _ rfl _ _ 46 rfl base 62 j0 _ 2 16 Try.underlying46 hj0 hy0 hy1 hy2 rfl (by decide) (.slice (some ⟨gs, 0, none⟩) (R + 1) cp) (R + 1) cs (by rfl) (HOA _) ⟨W4.heap.size, 0, none⟩ 1 1 [Value.int .i32 (x : Int), .int .i64 0] (by rfl) rfl HNW.out (sc_one x 0) (by decide) (by unfold maxLen; omega) (by omega) (by simp; omega) _ rfl ?_; intro g5 cap5 w5 hown hgrow hat hltg; obtain ⟨e1, e2, hB5, hb5⟩ := HPP.out g5 cap5 w5 hown hgrow hat)
          go_roundg k'
          case measure => omega
          case rel => exact ⟨_, _, upd s x true, p1, (x, 0) :: (v, t + 1) :: rest, hB5.out, HFA'.out, (fun y hy => by unfold upd; split; rfl; exact hps.out y hy), (fun y hy => by
            rcases List.mem_cons.1 hy with rfl | hy
            · exact ⟨upd_same _ _ _, hxn⟩
            · rcases List.mem_cons.1 hy with rfl | hy
              · exact ⟨by unfold upd; split; rfl; exact (hst.out (v, t) (by simp)).1, hv⟩
              · exact ⟨by unfold upd; split; rfl; exact (hst.out y (List.mem_cons_of_mem _ hy)).1, (hst.out y (List.mem_cons_of_mem _ hy)).2⟩), hf4, hf2, hb5⟩
    case neg =>
    have hps2 : p1.length + 1 ≤ 4096 ∧ v ∉ p1 := by
      obtain ⟨k', _, hFA'⟩ := hFA.out.pop (by rw [HLE.out]; exact htl2)
      obtain ⟨l, e1, _⟩ := FinAll.pre HG.out _ hFA'
      have hnd := HPQ.out.1.nodup
      rw [e1] at hnd
      refine ⟨?_, fun hm => ?_⟩
      · have : q.length = p1.length + 1 + l.length := by rw [e1]; simp; omega
        omega
      · rw [List.nodup_append, List.nodup_append] at hnd
        exact hnd.1.2.2 v hm v (by simp) rfl
    obtain ⟨hpl, hvp⟩ := hps2
    have hwb : wk + workOf G p1 ≤ 1103806599168 := by
      have h1 := workOf_le G HSH.out p1
      have h2 : p1.length * 1048577 ≤ 4096 * 1048577 := Nat.mul_le_mul_right _ (by omega)
      omega
    have HWS : Hid (wk + workOf G (p1 ++ [v]) = wk + workOf G p1 + (1 + len)) := by show _ = _; rw [workOf_snoc, HLE.out]; omega
    obtain ⟨WK, hWK⟩ : ∃ WK, wk + workOf G p1 = WK := ⟨_, rfl⟩
    rw [hWK] at c4 hwb HWS
    clear hWK hf4
    clear HR2 HR4
    go_upto_region 21 with fail
    have hB3 : BD (W.setCell ⟨p, 4, none⟩ (.int .i64 ((WK : Int) + (1 + (len : Int))))) own1 base p gl gp gn lo hi (upd f2 4 (.int .i64 ((WK : Int) + (1 + (len : Int))))) (ints G) (leftOf p1 s) (fun _ => 0) (fun _ => 0) p1 (rest.reverse ++ [(v, t)]) := HBW.out.setWork _
    have hb3 : Below base w (W.setCell ⟨p, 4, none⟩ (.int .i64 ((WK : Int) + (1 + (len : Int))))) := hbW.setCell (p := ⟨p, 4, none⟩) HBW.out.tg.bp _
    have hne21 : gs ≠ p := fun e => by have h1 := HBW.out.tg.kp; rw [← e, hgs21] at h1; cases h1
    have e1 : (W.setCell ⟨p, 4, none⟩ (.int .i64 ((WK : Int) + (1 + (len : Int))))).cell? ⟨gs, R * 2, none⟩ = some (.int .i32 (v : Int)) := by
      rw [World.cell?_of_block (w := W) (a := ⟨gs, R * 2, none⟩) (Below.heap_setCell _ _ _ _ hne21)]
      exact t1
    have HF7a : Hid (upd f2 4 (.int .i64 ((WK : Int) + (1 + (len : Int)))) 7 = .slice (some ⟨gs, 0, none⟩) (R + 1) cp) := HF7.out
    have HF4a : Hid (upd f2 4 (.int .i64 ((WK : Int) + (1 + (len : Int)))) 4 = .int .i64 ((wk + workOf G (p1 ++ [v]) : Nat) : Int)) := by show _ = _; rw [HWS.out, upd_same]; congr 1
    have HF2a : Hid (upd f2 4 (.int .i64 ((WK : Int) + (1 + (len : Int)))) 2 = f 2) := hf2.out
    clear t1 t2 t3 c7 c4 d4 HBW hbW HF7 hf2 HWS
    generalize upd f2 4 (.int .i64 ((WK : Int) + (1 + (len : Int)))) = f3 at *
    generalize W.setCell ⟨p, 4, none⟩ (.int .i64 ((WK : Int) + (1 + (len : Int)))) = W3 at *
    obtain ⟨ao6, c6x, hf6⟩ := ownsRow_form hB3.ro
    have c6 := hB3.rb.cell (i := 6) (by decide)
    rw [hf6] at c6
    obtain ⟨i0, hi0, hz0, hz1, hz2⟩ := info_parts info50
    have HOA : ∀ o, (W3.alloc o).drew.ownsRow base 50 1 (.slice ao6 p1.length c6x) p1.length (p1.map vv) := fun o => by
      have := hB3.ro.alloc o
      rw [hf6] at this
      exact this
    have HNW : Hid (∀ j u, [vv v][j]? = some u → (W3.alloc (.cells #[.int .i32 (v : Int)] 50)).drew.cell? ((⟨W3.heap.size, 0, none⟩ : Addr).add j) = some u) := World.news_of_block (heap_alloc_new W3 (.cells #[.int .i32 (v : Int)] 50))
    have hbw : base ≤ W3.heap.size := Nat.le_trans hB3.tg.bp (Nat.le_of_lt hB3.rb.lt)
    have HPP : Hid (∀ g cap w5, w5.ownsRow base 50 1 (.slice (some ⟨g, 0, none⟩) (p1.length + 1) cap) (p1.length + 1) (p1.map vv ++ [vv v]) → (W3.alloc (.cells #[.int .i32 (v : Int)] 50)).drew.grownBy w5 (Value.slice ao6 p1.length c6x).ownBlock → ((Value.slice ao6 p1.length c6x).ownBlock = some g ∨ g = (W3.alloc (.cells #[.int .i32 (v : Int)] 50)).drew.heap.size) → w5.cell? ⟨p, 6, none⟩ = some (.slice ao6 p1.length c6x) ∧ w5.frozen? ⟨p, 6, none⟩ = false ∧ Hid (BD (w5.setCell ⟨p, 6, none⟩ (.slice (some ⟨g, 0, none⟩) (p1.length + 1) cap)) (ext own1 W3.heap.size 20) base p gl gp gn lo hi (upd f3 6 (.slice (some ⟨g, 0, none⟩) (p1.length + 1) cap)) (ints G) (leftOf p1 s) (fun _ => 0) (fun _ => 0) (p1 ++ [v]) (rest.reverse ++ [(v, t)])) ∧ Below base w (w5.setCell ⟨p, 6, none⟩ (.slice (some ⟨g, 0, none⟩) (p1.length + 1) cap))) := fun g cap w5 ho hg ha => by
      have := hB3.pushOrd v _ ((Below.refl _ W3).alloc (Nat.le_refl _) (.cells #[.int .i32 (v : Int)] 50)).drew g cap w5 ho (by rw [hf6]; exact hg) (by rw [hf6]; exact ha)
      rw [hf6] at this
      obtain ⟨a1, a2, a3, a4⟩ := this
      exact ⟨a1, a2, a3, hb3.trans a4⟩
    have hpW := hB3.rb.lt
    have hgW : gs < W3.heap.size := World.block_lt_of_cell? W3 _ e1
    clear hB3 hb3 hf6
    generalize hpm : p1.map vv = cs at *
    go_region_law (refine step_append_lies _ rfl (.tmp 160) (.tmp 165) 45 rfl base 50 i0 _ 1 4 Try.underlying45 hi0 hz0 hz1 hz2 rfl (by decide) (.slice ao6 p1.length c6x) p1.length cs (by simp [Act.eval, Act.put]) (HOA _) ⟨W3.heap.size, 0, none⟩ 1 1 [vv v] (by simp [Act.eval, Act.put]) rfl HNW.out (vv_one v) (by decide) (by unfold maxLen; omega) (by omega) (by simp; omega) _ rfl ?_; intro g5 cap5 w5 hown hgrow hat hltg; obtain ⟨e7, e8, hB5, hb5⟩ := HPP.out g5 cap5 w5 hown hgrow hat)
    all_goals (
      have hB6 := hB5.out
      have HF7b : Hid (upd f3 6 (.slice (some ⟨g5, 0, none⟩) (p1.length + 1) cap5) 7 = .slice (some ⟨gs, 0, none⟩) (R + 1) cp) := HF7a.out
      have HF4b : Hid (upd f3 6 (.slice (some ⟨g5, 0, none⟩) (p1.length + 1) cap5) 4 = .int .i64 ((wk + workOf G (p1 ++ [v]) : Nat) : Int)) := HF4a.out
      have HF2b : Hid (upd f3 6 (.slice (some ⟨g5, 0, none⟩) (p1.length + 1) cap5) 2 = f 2) := HF2a.out
      have HF6b : Hid (upd f3 6 (.slice (some ⟨g5, 0, none⟩) (p1.length + 1) cap5) 6 = .slice (some ⟨g5, 0, none⟩) (p1.length + 1) cap5) := upd_same _ _ _
      clear hB5 e7 e8 HPP HNW HOA c6 hown hgrow hat hltg HF7a HF4a HF2a hpm e1 hpW hgW hbw
      generalize upd f3 6 (.slice (some ⟨g5, 0, none⟩) (p1.length + 1) cap5) = f4 at *
      generalize w5.setCell ⟨p, 6, none⟩ (.slice (some ⟨g5, 0, none⟩) (p1.length + 1) cap5) = W6 at *
      generalize ext own1 W3.heap.size 20 = own2 at *
      have c5 := hB6.rb.cell (i := 5) (by decide)
      rw [hB6.f5, ints_len] at c5
      have c6 := hB6.rb.cell (i := 6) (by decide)
      rw [HF6b.out] at c6
      have l1 := hB6.rl.cell (show v < (ints G).length by rw [ints_len]; exact hv)
      have l2 := hB6.rl.frozen v
      have hrl : (rest.reverse ++ [(v, t)]).length = R + 1 := by simp [HRR.out]
      have hrs := hB6.rs
      rw [hrl, HF7b.out] at hrs
      have t1 := hrs.cellAt (R * 2) (by omega)
      have htop := (sc_top rest.reverse v t).1
      rw [List.length_reverse, HRR.out] at htop
      rw [htop] at t1
      have hB7 : BD ((W6.setCell ⟨gl, v, none⟩ (.int .i32 ((p1.length : Int) + 1))).drew) own2 base p gl gp gn lo hi f4 (ints G) (leftOf (p1 ++ [v]) s) (fun _ => 0) (fun _ => 0) (p1 ++ [v]) (rest.reverse ++ [(v, t)]) := by
        rw [leftOf_pop p1 s v hvp, Int.natCast_succ]; exact (hB6.setLeft v ((p1.length : Int) + 1)).drewN 1
      have hb7 : Below base w ((W6.setCell ⟨gl, v, none⟩ (.int .i32 ((p1.length : Int) + 1))).drew) := (hb5.setCell (p := ⟨gl, v, none⟩) hB6.tg.bl _).drew
      have HB7 : Hid (BD ((W6.setCell ⟨gl, v, none⟩ (.int .i32 ((p1.length : Int) + 1))).drew) own2 base p gl gp gn lo hi f4 (ints G) (leftOf (p1 ++ [v]) s) (fun _ => 0) (fun _ => 0) (p1 ++ [v]) (rest.reverse ++ [(v, t)])) := hB7
      clear hB6 hrs htop hB7 hb5
      generalize leftOf p1 s v = lv at *
      go_wp2_with fail
      go_region
      clear c5 c6 l1 l2 t1
      generalize (W6.setCell ⟨gl, v, none⟩ (.int .i32 ((p1.length : Int) + 1))).drew = W7 at *
      have c7 := HB7.out.rb.cell (i := 7) (by decide)
      rw [HF7b.out] at c7
      have d7 := HB7.out.rb.frozen 7
      have hcp : R + 1 ≤ cp ∧ cp ≤ 9223372036854775807 := by
        have := HB7.out.rs
        rw [hrl, HF7b.out] at this
        rcases this.2 with ⟨h0, h1⟩ | ⟨g, cap, cur, hv, _, _, h1, h2, _⟩
        · omega
        · simp only [Value.slice.injEq] at hv; unfold maxLen at h2; omega
      have HB8 : Hid (BD ((W7.setCell ⟨p, 7, none⟩ (.slice (some ⟨gs, 0, none⟩) R cp)).drew) own2 base p gl gp gn lo hi (upd f4 7 (.slice (some ⟨gs, 0, none⟩) R cp)) (ints G) (leftOf (p1 ++ [v]) s) (fun _ => 0) (fun _ => 0) (p1 ++ [v]) rest.reverse) := by
        have hrs := HB7.out.rs
        rw [hrl, HF7b.out] at hrs
        have h1 := ownsRow_take hrs (show R ≤ R + 1 by omega)
        have e2 : rest.reverse.length = R := by simp [HRR.out]
        have h2 := sc_take rest.reverse [(v, t)]
        rw [e2] at h2
        rw [h2] at h1
        exact (HB7.out.setPath (.slice (some ⟨gs, 0, none⟩) R cp) rest.reverse (by rw [e2]; exact h1) (fun g hg => HB7.out.t7 g (by rw [HF7b.out]; exact hg))).drewN 1
      have hb8 : Below base w ((W7.setCell ⟨p, 7, none⟩ (.slice (some ⟨gs, 0, none⟩) R cp)).drew) := (hb7.setCell (p := ⟨p, 7, none⟩) HB7.out.tg.bp _).drew
      have HF4c : Hid (upd f4 7 (.slice (some ⟨gs, 0, none⟩) R cp) 4 = .int .i64 ((wk + workOf G (p1 ++ [v]) : Nat) : Int)) := HF4b.out
      have HF2c : Hid (upd f4 7 (.slice (some ⟨gs, 0, none⟩) R cp) 2 = f 2) := HF2b.out
      obtain ⟨k', hk', hFA'⟩ := hFA.out.pop (by rw [HLE.out]; exact htl2)
      have HFA' : Hid (FinAll G back sE q k' rest s (p1 ++ [v])) := hFA'
      clear HB7 hb7 hFA' HF4b HF2b hFA
      go_wp2_with fail
      go_region
      go_wp2_with fail
      go_roundg k'
      case measure => omega
      case rel => exact ⟨own2, _, s, p1 ++ [v], rest, HB8.out, HFA'.out, (fun y hy => by
        rcases List.mem_append.1 hy with hy | hy
        · exact hps.out y hy
        · rw [List.mem_singleton] at hy; subst hy; exact (hst.out (y, t) (by simp)).1), (fun y hy => hst.out y (List.mem_cons_of_mem _ hy)), HF4c.out, HF2c.out, hb8⟩)
end CY
end Go.Proofs.Qxb6003137a
