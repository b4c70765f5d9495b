/- zzClone, zzToVertices: the rows copied. -/
import Derived.Test.Qxb6003137aMem
namespace Go.Proofs.Qxb6003137a
open Go.ChangeShapes Go.WideShapes Go.ChangeAt Go.RowKit
set_option linter.unusedVariables false
set_option linter.unusedSimpArgs false
namespace CY

theorem nil22 : ∀ (w : World) (a : Option Addr) (n c n' c' : Nat), (binOp .eql 22 (.slice a n c) (.slice none n' c')).run Try.prog w = .ok (.bool a.isNone) w := fun w a n c n' c' => Lib.run_eql_slice_nil w _ _ a n c n' c' Try.underlying22
theorem nil35 : ∀ (w : World) (a : Option Addr) (n c n' c' : Nat), (binOp .eql 35 (.slice a n c) (.slice none n' c')).run Try.prog w = .ok (.bool a.isNone) w := fun w a n c n' c' => Lib.run_eql_slice_nil w _ _ a n c n' c' Try.underlying35
theorem info35 : (Try.prog.info? 35).map (fun i => (i.zero, i.size, i.bytes)) = some (some (.slice none 0 0), 1, 24) := by kernel_rfl
theorem info21 : (Try.prog.info? 21).map (fun i => (i.zero, i.size, i.bytes)) = some (some (.int .i32 0), 1, 4) := by kernel_rfl
theorem info45 : (Try.prog.info? 45).map (fun i => (i.zero, i.size, i.bytes)) = some (some (.slice none 0 0), 1, 24) := by kernel_rfl
theorem info50 : (Try.prog.info? 50).map (fun i => (i.zero, i.size, i.bytes)) = some (some (.int .i32 0), 1, 4) := by kernel_rfl

/-- A row's slice v, its numbers in the blocks from lo on. -/
def RowIn (w : World) (lo : Nat) (v : Value) (R : List Int) : Prop := ∃ (a : Option Addr) (rb ro c : Nat), v = .slice a R.length c ∧ (0 < R.length → a = some ⟨rb, ro, none⟩ ∧ lo ≤ rb ∧ rb < w.heap.size) ∧ ∀ j, j < R.length → w.cell? ⟨rb, ro + j, none⟩ = some (.int .i32 (R.getD j 0))

theorem RowIn.below {w w' : World} {lo : Nat} {v : Value} {R : List Int} (h : RowIn w lo v R) (hb : Below w.heap.size w w') : RowIn w' lo v R := by
  obtain ⟨a, rb, ro, c, h1, h2, h3⟩ := h
  exact ⟨a, rb, ro, c, h1, fun h0 => ⟨(h2 h0).1, (h2 h0).2.1, Nat.lt_of_lt_of_le (h2 h0).2.2 hb.size⟩, fun j hj => (hb.cell (p := ⟨rb, ro + j, none⟩) (h2 (by omega)).2.2).trans (h3 j hj)⟩

theorem RowIn.set {w : World} {lo : Nat} {v : Value} {R : List Int} (h : RowIn w lo v R) (g q : Nat) (x : Value) (hg : g < lo) : RowIn (w.setCell ⟨g, q, none⟩ x) lo v R := by
  obtain ⟨a, rb, ro, c, h1, h2, h3⟩ := h
  refine ⟨a, rb, ro, c, h1, fun h0 => ⟨(h2 h0).1, (h2 h0).2.1, by simpa [World.setCell] using (h2 h0).2.2⟩, fun j hj => ?_⟩
  rw [← h3 j hj]
  have hne : rb ≠ g := by have := (h2 (by omega)).2.1; omega
  have := Below.heap_setCell w ⟨g, q, none⟩ x rb hne
  simp only [World.cell?, this]

theorem rowIs_of_heap {w w' : World} {g : Nat} {e : TypeId} {n : Nat} {f : Nat → Value} (h : w.rowIs g e n f) (hb : w'.heap[g]? = w.heap[g]?) : w'.rowIs g e n f := by
  obtain ⟨c, h1, h2⟩ := h
  exact ⟨c, hb.trans h1, h2⟩

/-- The rows of a copy, the first k of them laid. -/
def Laid (w wr : World) (e : TypeId) (G : List (List Int)) (k : Nat) : Prop := ∃ f : Nat → Value, wr.rowIs w.heap.size e G.length f ∧ (∀ i, i < k → RowIn wr (w.heap.size + 1) (f i) (G.getD i [])) ∧ (∀ i, k ≤ i → f i = .slice none 0 0) ∧ Below w.heap.size w wr

theorem Laid.next {w wr : World} {e : TypeId} {G : List (List Int)} {k : Nat} (h : Laid w wr e G k) (v : Value) (hv : RowIn wr (w.heap.size + 1) v (G.getD k [])) : Laid w (wr.setCell ⟨w.heap.size, k, none⟩ v) e G (k + 1) := by
  obtain ⟨f, h1, h2, h3, h4⟩ := h
  refine ⟨fun i => if i = k then v else f i, h1.set k v, fun i hi => ?_, fun i hi => ?_, h4.setCell (Nat.le_refl _) _⟩
  · by_cases e : i = k
    · subst e; simp only [if_true]; exact hv.set _ _ _ (Nat.lt_succ_self _)
    · simp only [e, if_false]; exact (h2 i (by omega)).set _ _ _ (Nat.lt_succ_self _)
  · simp only [show i ≠ k by omega, if_false]; exact h3 i (by omega)

theorem Laid.nil {w wr : World} {e : TypeId} {G : List (List Int)} {k : Nat} (h : Laid w wr e G k) (hk : (G.getD k []).length = 0) : Laid w wr e G (k + 1) := by
  obtain ⟨f, h1, h2, h3, h4⟩ := h
  refine ⟨f, h1, fun i hi => ?_, fun i hi => h3 i (by omega), h4⟩
  by_cases e : i = k
  · subst e; rw [h3 i (Nat.le_refl _)]; exact ⟨none, 0, 0, 0, by rw [hk], fun h => by omega, fun j hj => by omega⟩
  · exact h2 i (by omega)

theorem Laid.below {w wr wr' : World} {e : TypeId} {G : List (List Int)} {k : Nat} (h : Laid w wr e G k) (hb : Below wr.heap.size wr wr') : Laid w wr' e G k := by
  obtain ⟨f, h1, h2, h3, h4⟩ := h
  exact ⟨f, rowIs_of_heap h1 (hb.block _ h1.lt), fun i hi => (h2 i hi).below hb, h3, h4.trans (hb.mono h4.size)⟩

theorem Laid.done {w wr : World} {e : TypeId} {G : List (List Int)} (h : Laid w wr e G G.length) : GR wr w.heap.size wr.heap.size (some ⟨w.heap.size, 0, none⟩) w.heap.size 0 G ∧ Below w.heap.size w wr := by
  obtain ⟨f, h1, h2, h3, h4⟩ := h
  refine ⟨⟨fun _ => rfl, fun _ => ⟨Nat.le_refl _, h1.lt⟩, Nat.le_refl _, fun i hi => ?_⟩, h4⟩
  obtain ⟨a, rb, ro, c, g1, g2, g3⟩ := h2 i hi
  refine ⟨a, rb, ro, c, ?_, fun h0 => ⟨(g2 h0).1, by have := (g2 h0).2.1; omega, (g2 h0).2.2⟩, g3⟩
  rw [Nat.zero_add, h1.cell hi, g1]

/-- A copy of G, in blocks of its own. -/
def Copied (w : World) (G : List (List Int)) (e : Ending) (w' : World) : Prop := e = .returned (.slice (some ⟨w.heap.size, 0, none⟩) G.length G.length) ∧ GR w' w.heap.size w'.heap.size (some ⟨w.heap.size, 0, none⟩) w.heap.size 0 G ∧ Below w.heap.size w w'

set_option maxHeartbeats 2000000 in
theorem clone11 (G : List (List Int)) (b off lo hi c0 : Nat) (w : World) (h : GR w lo hi (some ⟨b, off, none⟩) b off G) (hl : G.length ≤ 4096) (hs : Short G) :
    Calls Try.prog 11 #[.slice (some ⟨b, off, none⟩) G.length c0] w (Copied w G) := by
  have q := nil22
  have q2 := nil35
  have HS : Hid (Short G) := hs
  clear hs
  have hmk := run_make_row' (P := Try.prog) 22 35 (.slice none 0 0) 24 Try.underlying22 info35 rfl .i64 .i64 G.length (by omega) (by omega)
  go_enter Try.func11, Try.ntmps11
  go_wp2
  clear hmk
  go_loopw [4] (fun i wr => ∃ k : Nat, k ≤ G.length ∧ i = .int .i64 k ∧ Laid w wr 35 G k) (fun i _ => G.length - (intOf i).toNat)
  case atStart => exact ⟨0, Nat.zero_le _, rfl, _, (World.rowIs_made _ _ _ _).congr (fun i _ => rfl), fun i hi => absurd hi (Nat.not_lt_zero _), fun i _ => rfl, (Below.refl _ _).alloc (Nat.le_refl _) _⟩
  case round =>
    obtain ⟨k, hk, rfl, hlaid⟩ := hrel
    by_cases hlt : k < G.length
    case neg =>
      obtain rfl : k = G.length := by omega
      go_wp2
      go_ret
      exact ⟨rfl, hlaid.done⟩
    have hbel : Below w.heap.size w wr := by obtain ⟨_, _, _, _, h4⟩ := hlaid; exact h4
    obtain ⟨a, rb, ro, c, hc, hrow, hcells⟩ := (h.belowAll hbel).cell k hlt
    have hm := HS.out k hlt
    cases a with
    | none =>
      have hz : (G.getD k []).length = 0 := by
        rcases Nat.eq_zero_or_pos (G.getD k []).length with e | e
        · exact e
        · have := (hrow e).1; cases this
      have HL : Hid (Laid w wr 35 G (k + 1)) := hlaid.nil hz
      clear hlaid hrow hcells
      generalize (G.getD k []).length = len at *
      go_wp2
      go_roundw
      case rel => exact ⟨k + 1, by omega, by go_num, HL.out⟩
      case measure => simp [intOf]; omega
    | some a =>
      obtain ⟨wo, rfl⟩ : ∃ wo : World, wo = wr := ⟨_, rfl⟩
      have HR : Hid (∀ j, j < (G.getD k []).length → wo.cell? ⟨rb, ro + j, none⟩ = some (.int .i32 ((G.getD k []).getD j 0))) := hcells
      have HA : Hid (0 < (G.getD k []).length → a = ⟨rb, ro, none⟩) := fun h => by have := (hrow h).1; exact Option.some.inj this
      have HLd : Hid (Laid w wo 35 G k) := hlaid
      have hgs : w.heap.size < wo.heap.size := by obtain ⟨_, h1, _⟩ := hlaid; exact h1.lt
      obtain ⟨fo, hro⟩ : ∃ f, wo.rowIs w.heap.size 35 G.length f := by obtain ⟨f, h1, _⟩ := hlaid; exact ⟨f, h1⟩
      clear hrow hcells hlaid
      generalize hR : G.getD k [] = R at *
      have HRR : Hid (G.getD k [] = R) := hR
      clear hR
      have hmk := run_make_row' (P := Try.prog) 35 21 (.int .i32 0) 4 Try.underlying35 info21 rfl .i64 .i64 R.length (by omega) (by omega)
      go_wp2
      clear hmk
      go_loopw [6] (fun i wr => ∃ m : Nat, m ≤ R.length ∧ i = .int .i64 m ∧ wr.rowIs wo.heap.size 21 R.length (fun j => if j < m then .int .i32 (R.getD j 0) else .int .i32 0) ∧ Below wo.heap.size wo wr) (fun i _ => R.length - (intOf i).toNat)
      case atStart => exact ⟨0, Nat.zero_le _, rfl, (World.rowIs_made _ _ _ _).congr (fun i _ => by simp), (Below.refl _ _).alloc (Nat.le_refl _) _⟩
      case round =>
        obtain ⟨m, hm2, rfl, hrow, hbel2⟩ := hrel
        have hc2 := hc
        rw [← hbel2.cell (p := ⟨b, off + k, none⟩) (World.block_lt_of_cell? wo _ hc)] at hc2
        by_cases hlt2 : m < R.length
        · have hcl := HR.out m hlt2
          obtain rfl := HA.out (by omega)
          rw [← hbel2.cell (p := ⟨rb, ro + m, none⟩) (World.block_lt_of_cell? wo _ hcl)] at hcl
          have ho := hrow.cell hlt2
          have hf := hrow.frozen m
          simp only [Nat.lt_irrefl, if_false] at ho
          have RR : Hid ((wr.setCell ⟨wo.heap.size, m, none⟩ (.int .i32 (R.getD m 0))).rowIs wo.heap.size 21 R.length (fun j => if j < m + 1 then .int .i32 (R.getD j 0) else .int .i32 0)) :=
            (hrow.set m _).congr (fun i _ => by
              by_cases e : i = m
              · subst e; simp
              · have e2 : i < m + 1 ↔ i < m := by omega
                simp only [e, if_false, e2])
          have R2 : Hid (Below wo.heap.size wo (wr.setCell ⟨wo.heap.size, m, none⟩ (.int .i32 (R.getD m 0)))) := hbel2.setCell (Nat.le_refl _) _
          generalize hx : R.getD m 0 = x at *
          clear hx
          go_wp2
          go_roundw
          case rel => exact ⟨m + 1, by omega, by go_num, RR.out, R2.out⟩
          case measure => simp [intOf]; omega
        · have hro2 := rowIs_of_heap hro (hbel2.block _ hgs)
          have ho := hro2.cell hlt
          have hf := hro2.frozen k
          have hL2 : Hid (Laid w (wr.setCell ⟨w.heap.size, k, none⟩ (.slice (some ⟨wo.heap.size, 0, none⟩) R.length R.length)) 35 G (k + 1)) := (HLd.out.below hbel2).next _ (by
            rw [HRR.out]
            refine ⟨_, wo.heap.size, 0, R.length, rfl, fun _ => ⟨rfl, hgs, hrow.lt⟩, fun j hj => ?_⟩
            rw [Nat.zero_add, hrow.cell hj, if_pos (by omega)])
          clear HLd hrow
          go_wp2
          go_roundw
          case rel => exact ⟨k + 1, by omega, by go_num, hL2.out⟩
          case measure => simp [intOf]; omega

set_option maxHeartbeats 2000000 in
theorem verts24 (G : List (List Int)) (b off lo hi c0 : Nat) (w : World) (h : GR w lo hi (some ⟨b, off, none⟩) b off G) (hl : G.length ≤ 4096) (hs : Short G) :
    Calls Try.prog 24 #[.slice (some ⟨b, off, none⟩) G.length c0] w (Copied w G) := by
  have q := nil22
  have q2 := nil35
  have HS : Hid (Short G) := hs
  clear hs
  have hmk := run_make_row' (P := Try.prog) 43 45 (.slice none 0 0) 24 Try.underlying43 info45 rfl .i64 .i64 G.length (by omega) (by omega)
  go_enter Try.func24, Try.ntmps24
  go_wp2
  clear hmk
  go_loopw [4] (fun i wr => ∃ k : Nat, k ≤ G.length ∧ i = .int .i64 k ∧ Laid w wr 45 G k) (fun i _ => G.length - (intOf i).toNat)
  case atStart => exact ⟨0, Nat.zero_le _, rfl, _, (World.rowIs_made _ _ _ _).congr (fun i _ => rfl), fun i hi => absurd hi (Nat.not_lt_zero _), fun i _ => rfl, (Below.refl _ _).alloc (Nat.le_refl _) _⟩
  case round =>
    obtain ⟨k, hk, rfl, hlaid⟩ := hrel
    by_cases hlt : k < G.length
    case neg =>
      obtain rfl : k = G.length := by omega
      go_wp2
      go_ret
      exact ⟨rfl, hlaid.done⟩
    have hbel : Below w.heap.size w wr := by obtain ⟨_, _, _, _, h4⟩ := hlaid; exact h4
    obtain ⟨a, rb, ro, c, hc, hrow, hcells⟩ := (h.belowAll hbel).cell k hlt
    have hm := HS.out k hlt
    cases a with
    | none =>
      have hz : (G.getD k []).length = 0 := by
        rcases Nat.eq_zero_or_pos (G.getD k []).length with e | e
        · exact e
        · have := (hrow e).1; cases this
      have HL : Hid (Laid w wr 45 G (k + 1)) := hlaid.nil hz
      clear hlaid hrow hcells
      generalize (G.getD k []).length = len at *
      go_wp2
      go_roundw
      case rel => exact ⟨k + 1, by omega, by go_num, HL.out⟩
      case measure => simp [intOf]; omega
    | some a =>
      obtain ⟨wo, rfl⟩ : ∃ wo : World, wo = wr := ⟨_, rfl⟩
      have HR : Hid (∀ j, j < (G.getD k []).length → wo.cell? ⟨rb, ro + j, none⟩ = some (.int .i32 ((G.getD k []).getD j 0))) := hcells
      have HA : Hid (0 < (G.getD k []).length → a = ⟨rb, ro, none⟩) := fun h => by have := (hrow h).1; exact Option.some.inj this
      have HLd : Hid (Laid w wo 45 G k) := hlaid
      have hgs : w.heap.size < wo.heap.size := by obtain ⟨_, h1, _⟩ := hlaid; exact h1.lt
      obtain ⟨fo, hro⟩ : ∃ f, wo.rowIs w.heap.size 45 G.length f := by obtain ⟨f, h1, _⟩ := hlaid; exact ⟨f, h1⟩
      clear hrow hcells hlaid
      generalize hR : G.getD k [] = R at *
      have HRR : Hid (G.getD k [] = R) := hR
      clear hR
      have hmk := run_make_row' (P := Try.prog) 45 50 (.int .i32 0) 4 Try.underlying45 info50 rfl .i64 .i64 R.length (by omega) (by omega)
      go_wp2
      clear hmk
      go_loopw [6] (fun i wr => ∃ m : Nat, m ≤ R.length ∧ i = .int .i64 m ∧ wr.rowIs wo.heap.size 50 R.length (fun j => if j < m then .int .i32 (R.getD j 0) else .int .i32 0) ∧ Below wo.heap.size wo wr) (fun i _ => R.length - (intOf i).toNat)
      case atStart => exact ⟨0, Nat.zero_le _, rfl, (World.rowIs_made _ _ _ _).congr (fun i _ => by simp), (Below.refl _ _).alloc (Nat.le_refl _) _⟩
      case round =>
        obtain ⟨m, hm2, rfl, hrow, hbel2⟩ := hrel
        have hc2 := hc
        rw [← hbel2.cell (p := ⟨b, off + k, none⟩) (World.block_lt_of_cell? wo _ hc)] at hc2
        by_cases hlt2 : m < R.length
        · have hcl := HR.out m hlt2
          obtain rfl := HA.out (by omega)
          rw [← hbel2.cell (p := ⟨rb, ro + m, none⟩) (World.block_lt_of_cell? wo _ hcl)] at hcl
          have ho := hrow.cell hlt2
          have hf := hrow.frozen m
          simp only [Nat.lt_irrefl, if_false] at ho
          have RR : Hid ((wr.setCell ⟨wo.heap.size, m, none⟩ (.int .i32 (R.getD m 0))).rowIs wo.heap.size 50 R.length (fun j => if j < m + 1 then .int .i32 (R.getD j 0) else .int .i32 0)) :=
            (hrow.set m _).congr (fun i _ => by
              by_cases e : i = m
              · subst e; simp
              · have e2 : i < m + 1 ↔ i < m := by omega
                simp only [e, if_false, e2])
          have R2 : Hid (Below wo.heap.size wo (wr.setCell ⟨wo.heap.size, m, none⟩ (.int .i32 (R.getD m 0)))) := hbel2.setCell (Nat.le_refl _) _
          generalize hx : R.getD m 0 = x at *
          clear hx
          go_wp2
          go_roundw
          case rel => exact ⟨m + 1, by omega, by go_num, RR.out, R2.out⟩
          case measure => simp [intOf]; omega
        · have hro2 := rowIs_of_heap hro (hbel2.block _ hgs)
          have ho := hro2.cell hlt
          have hf := hro2.frozen k
          have hL2 : Hid (Laid w (wr.setCell ⟨w.heap.size, k, none⟩ (.slice (some ⟨wo.heap.size, 0, none⟩) R.length R.length)) 45 G (k + 1)) := (HLd.out.below hbel2).next _ (by
            rw [HRR.out]
            refine ⟨_, wo.heap.size, 0, R.length, rfl, fun _ => ⟨rfl, hgs, hrow.lt⟩, fun j hj => ?_⟩
            rw [Nat.zero_add, hrow.cell hj, if_pos (by omega)])
          clear HLd hrow
          go_wp2
          go_roundw
          case rel => exact ⟨k + 1, by omega, by go_num, hL2.out⟩
          case measure => simp [intOf]; omega

set_option maxHeartbeats 400000 in
theorem vertsNil (w : World) : Calls Try.prog 24 #[.slice none 0 0] w fun e w' => e = .returned (.slice none 0 0) ∧ w' = w := by
  have q := nil22
  go_enter Try.func24, Try.ntmps24
  go_wp2
  go_ret
  exact ⟨rfl, rfl⟩
end CY
end Go.Proofs.Qxb6003137a
