/- zzCycleModel. -/
import Derived.Test.Qxb6003137aFrom
import Derived.Test.Qxb6003137aNew
namespace Go.Proofs.Qxb6003137a
open Go.ChangeShapes Go.WideShapes Go.ChangeAt Go.RowKit
set_option linter.unusedVariables false
set_option linter.unusedSimpArgs false
namespace CY

theorem take_succ_pos (q : List Nat) (hq : q.Nodup) (j : Nat) (hj : j < q.length) : posOf (q.take (j + 1)) = upd (posOf (q.take j)) q[j] (j + 1) := by
  rw [← List.take_append_getElem hj, posOf_snoc]
  · congr 1
    simp; omega
  · intro hm
    obtain ⟨i, hi, e⟩ := List.mem_take_iff_getElem.1 hm
    have h1 : i < j := by omega
    have := posOf_get q hq i (by omega)
    rw [e, posOf_get q hq j hj] at this
    omega

/-- done, cnt and tot, new. -/
theorem cm_new (w : World) (n m : Nat) (N T : Nat → Nat) : CM (((w.alloc (.cells (madeCells #[.bool false] n) 4)).alloc (.cells (madeCells #[.int .i64 0] n) 3)).alloc (.cells (madeCells #[.int .i64 0] n) 3)) w.heap.size (w.heap.size + 1) (w.heap.size + 1 + 1) n m N T (fun _ => false) (fun _ => 0) (fun _ => 0) := by
  have h1 : (w.alloc (.cells (madeCells #[.bool false] n) 4)).heap.size = w.heap.size + 1 := by simp
  have h2 := World.rowIs_made (w.alloc (.cells (madeCells #[.bool false] n) 4)) (.int .i64 0) n 3
  have h3 : ((w.alloc (.cells (madeCells #[.bool false] n) 4)).alloc (.cells (madeCells #[.int .i64 0] n) 3)).heap.size = w.heap.size + 1 + 1 := by simp
  have h4 := World.rowIs_made ((w.alloc (.cells (madeCells #[.bool false] n) 4)).alloc (.cells (madeCells #[.int .i64 0] n) 3)) (.int .i64 0) n 3
  rw [h1] at h2
  rw [h3] at h4
  exact ⟨((World.rowIs_made w (.bool false) n 4).alloc _).alloc _, h2.alloc _, h4, by omega, by omega, fun x h => (Bool.false_ne_true h).elim, fun x h => (Bool.false_ne_true h).elim⟩

set_option maxHeartbeats 4000000 in
set_option maxRecDepth 100000 in
theorem model23 (G : List (List Nat)) (hG : InR G) (r : Nat) (q : List Nat) (hq : Post G r q) (N T : Nat → Nat) (hP : Paths G r (posOf q) N T) (m : Nat) (hm0 : 0 < m) (hm : m ≤ 9223372036854775807) (eb lo hi c0 g cp : Nat) (hn : G.length ≤ 4096) (hsh : ∀ v, (row G v).length ≤ 1048576) (w : World) (hgr : GR w lo hi (some ⟨eb, 0, none⟩) eb 0 (ints G)) (hp : PostAt w g q) :
    Calls Try.prog 23 #[.slice (some ⟨eb, 0, none⟩) G.length c0, .int .i64 ((m : Int) - 1), .int .i32 (r : Int), .slice (some ⟨g, 0, none⟩) q.length cp] w fun e w' => e = .returned (.int .i64 (cap m (T r + (N r + N r)) : Nat)) ∧ Below w.heap.size w w' := by
  have hql : q.length ≤ 4096 := Nat.le_trans (nodup_len _ q hq.nodup hq.lt) hn
  have hr : r < G.length := hq.lt r (by obtain ⟨l, e⟩ := hq.last; rw [e]; simp)
  have HG : Hid (InR G) := hG
  have HQ : Hid (Post G r q) := hq
  have HP : Hid (Paths G r (posOf q) N T) := hP
  have HSH : Hid (∀ v, (row G v).length ≤ 1048576) := hsh
  clear hG hq hP hsh
  have hmk := run_make_row' (P := Try.prog) 42 3 (.int .i64 0) 8 Try.underlying42 info3 rfl .i64 .i64 G.length (by omega) (by omega)
  have hmk2 := run_make_row' (P := Try.prog) 54 4 (.bool false) 1 Try.underlying54 info4 rfl .i64 .i64 G.length (by omega) (by omega)
  go_enter Try.func23, Try.ntmps23
  go_wp2_with fail
  go_loopw [12] (fun i wr => ∃ j : Nat, j ≤ q.length ∧ i = .int .i64 j ∧ wr.rowIs w.heap.size 3 G.length (fun i => .int .i64 (posOf (q.take j) i : Nat)) ∧ Below w.heap.size w wr) (fun i _ => q.length - (intOf i).toNat)
  case atStart => exact ⟨0, Nat.zero_le _, rfl, (World.rowIs_made _ _ _ _).congr (fun i _ => by simp [posOf_nil]), (Below.refl _ _).alloc (Nat.le_refl _) _⟩
  case round =>
    obtain ⟨j, hj, rfl, hrow, hb⟩ := hrel
    by_cases hlt : j < q.length
    case pos =>
      have hc := (hp.below hb).cell j hlt
      have hgd : q.getD j 0 = q[j] := by simp [List.getD, hlt]
      rw [hgd] at hc
      unfold vv at hc
      have hx := HQ.out.lt q[j] (List.getElem_mem hlt)
      have HS : Hid (∀ i, posOf (q.take (j + 1)) i = upd (posOf (q.take j)) q[j] (j + 1) i) := fun i => by rw [take_succ_pos q HQ.out.nodup j hlt]
      have ho := hrow.cell hx
      have hf := hrow.frozen q[j]
      clear hgd
      have HR : Hid ((wr.setCell ⟨w.heap.size, q[j], none⟩ (.int .i64 ((j : Int) + 1))).rowIs w.heap.size 3 G.length (fun i => .int .i64 (posOf (q.take (j + 1)) i : Nat))) :=
        (hrow.set q[j] _).congr (fun i _ => by rw [HS.out i]; unfold upd; split <;> simp)
      have HB2 : Hid (Below w.heap.size w (wr.setCell ⟨w.heap.size, q[j], none⟩ (.int .i64 ((j : Int) + 1)))) := hb.setCell (Nat.le_refl _) _
      clear HS
      generalize posOf (q.take j) q[j] = px at *
      generalize q[j] = x at *
      go_wp2_with fail
      go_roundw
      case rel => exact ⟨j + 1, by omega, by go_num, HR.out, HB2.out⟩
      case measure => simp [intOf]; omega
    obtain rfl : j = q.length := by omega
    rw [List.take_length] at hrow
    have hgz := hrow.lt
    have hcm := cm_new wr G.length m N T
    have hba : Below wr.heap.size wr (((wr.alloc (.cells (madeCells #[.bool false] G.length) 4)).alloc (.cells (madeCells #[.int .i64 0] G.length) 3)).alloc (.cells (madeCells #[.int .i64 0] G.length) 3)) := (((Below.refl _ wr).alloc (Nat.le_refl _) _).alloc (by simp) _).alloc (by simp; omega) _
    have HC : Hid (Calls Try.prog 36 #[.slice (some ⟨eb, 0, none⟩) G.length c0, .int .i32 (r : Int), .int .i32 (r : Int), .slice (some ⟨w.heap.size, 0, none⟩) G.length G.length, .int .i64 (m : Nat), .slice (some ⟨wr.heap.size, 0, none⟩) G.length G.length, .slice (some ⟨wr.heap.size + 1, 0, none⟩) G.length G.length, .slice (some ⟨wr.heap.size + 1 + 1, 0, none⟩) G.length G.length] (((wr.alloc (.cells (madeCells #[.bool false] G.length) 4)).alloc (.cells (madeCells #[.int .i64 0] G.length) 3)).alloc (.cells (madeCells #[.int .i64 0] G.length) 3)) (Counted wr.heap.size (wr.heap.size + 1) (wr.heap.size + 1 + 1) G.length m r N T (fun _ => false) (((wr.alloc (.cells (madeCells #[.bool false] G.length) 4)).alloc (.cells (madeCells #[.int .i64 0] G.length) 3)).alloc (.cells (madeCells #[.int .i64 0] G.length) 3)))) :=
      from36 G HG.out r (posOf q) N T HP.out m hm0 hm eb lo hi c0 w.heap.size wr.heap.size (wr.heap.size + 1) (wr.heap.size + 1 + 1) hgr.top hgz hn HSH.out (posOf q r) r (Nat.le_refl _) hr _ _ _ _ ((hgr.belowAll hb).belowAll hba) (rowIs_of_heap hrow (hba.block _ hgz)) hcm
    clear hcm hrow
    have hB2 := hb.trans (hba.mono hb.size)
    have hzz : wr.heap.size ≤ (((wr.alloc (.cells (madeCells #[.bool false] G.length) 4)).alloc (.cells (madeCells #[.int .i64 0] G.length) 3)).alloc (.cells (madeCells #[.int .i64 0] G.length) 3)).heap.size := hba.size
    clear hba
    go_wp2_with fail
    refine HC.out.mono ?_
    rintro e w2 ⟨rfl, D2, C2, H2, hcm2, hDr, _, hb2⟩
    have hB3 : Below w.heap.size w w2 := hB2.trans (hb2.mono (Nat.le_of_lt hgz))
    have q1 := hcm2.rc.cell hr
    have q2 := hcm2.rt.cell hr
    rw [hcm2.cnt r hDr] at q1
    rw [hcm2.tot r hDr] at q2
    have S2 : Hid (∀ k, Calls Try.prog 27 #[.int .i64 (cap m (N r) : Nat), .int .i64 (cap m (N r) : Nat), .int .i64 (m : Nat)] (w2.drewN k) fun e w' => e = .returned (.int .i64 (cap m (N r + N r) : Nat)) ∧ ∃ j, w' = w2.drewN j) := fun k => Calls.quiet_of_same (sat27 m (N r) (N r) hm (w2.drewN k))
    have S3 : Hid (∀ k, Calls Try.prog 27 #[.int .i64 (cap m (T r) : Nat), .int .i64 (cap m (N r + N r) : Nat), .int .i64 (m : Nat)] (w2.drewN k) fun e w' => e = .returned (.int .i64 (cap m (T r + (N r + N r)) : Nat)) ∧ ∃ j, w' = w2.drewN j) := fun k => Calls.quiet_of_same (sat27 m (T r) (N r + N r) hm (w2.drewN k))
    clear HC hcm2 hB2 hb2 hmk hmk2 hzz hb hgr hp
    generalize hy3 : cap m (T r + (N r + N r)) = y3 at *
    have HY : Hid (cap m (T r + (N r + N r)) = y3) := hy3
    clear hy3
    generalize cap m (N r + N r) = y2 at *
    generalize cap m (N r) = cN at *
    generalize cap m (T r) = cT at *
    go_wp2_with fail
    go_quiet ((first | (go_at_call 27; with_reducible exact S2.out _) | (go_at_call 27; with_reducible exact S3.out _)))
    go_wp2_with fail
    go_ret
    exact ⟨by rw [HY.out]; rfl, below_drewN hB3 _⟩
end CY
end Go.Proofs.Qxb6003137a
