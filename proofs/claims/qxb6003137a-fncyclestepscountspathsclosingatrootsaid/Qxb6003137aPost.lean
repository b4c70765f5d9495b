/- zzPostorder, zzWork. -/
import Derived.Test.Qxb6003137aVisit
namespace Go.Proofs.Qxb6003137a
open Go.ChangeShapes Go.WideShapes Go.ChangeAt Go.RowKit
set_option linter.unusedVariables false
set_option linter.unusedSimpArgs false
namespace CY

theorem info4 : (Try.prog.info? 4).map (fun i => (i.zero, i.size, i.bytes)) = some (some (.bool false), 1, 1) := by kernel_rfl

/-- The numbers q lie in the block g. -/
structure PostAt (w : World) (g : Nat) (q : List Nat) : Prop where
  lt : g < w.heap.size
  cell : ∀ i, i < q.length → w.cell? ⟨g, i, none⟩ = some (vv (q.getD i 0))
theorem PostAt.below {w w' : World} {g : Nat} {q : List Nat} (h : PostAt w g q) (hb : Below w.heap.size w w') : PostAt w' g q :=
  ⟨Nat.lt_of_lt_of_le h.lt hb.size, fun i hi => (hb.cell (p := ⟨g, i, none⟩) h.lt).trans (h.cell i hi)⟩

def Ordered (w : World) (q : List Nat) (e : Ending) (w' : World) : Prop := ∃ g cp, e = .returned (.slice (some ⟨g, 0, none⟩) q.length cp) ∧ PostAt w' g q ∧ Below w.heap.size w w'

set_option maxHeartbeats 1000000 in
theorem post18 (G : List (List Nat)) (hG : InR G) (back : Bool) (eb lo hi c0 r : Nat) (hn : G.length ≤ 4096) (hsh : ∀ v, (row G v).length ≤ 1048576) (hr : r < G.length) (k : Nat) (s' : Nat → Bool) (q : List Nat) (hfin : Fin G back k r 0 (upd (fun _ => false) r true) [] s' q) (w : World) (hgr : GR w lo hi (some ⟨eb, 0, none⟩) eb 0 (ints G)) :
    Calls Try.prog 18 #[.slice (some ⟨eb, 0, none⟩) G.length c0, .int .i32 (r : Int), .bool back] w (Ordered w q) := by
  have hP := (hfin.post hG hr).1
  have hql : q.length ≤ 4096 := Nat.le_trans (nodup_len _ q hP.nodup hP.lt) hn
  have hq0 : 0 < q.length := by obtain ⟨l, e⟩ := hP.last; rw [e]; simp
  have hb1 : Below w.heap.size w (w.alloc (.cells (madeCells #[.bool false] G.length) 4)) := (Below.refl _ _).alloc (Nat.le_refl _) _
  have HC : Hid (Calls Try.prog 30 #[.slice (some ⟨eb, 0, none⟩) G.length c0, .int .i32 (r : Int), .bool back, .slice (some ⟨w.heap.size, 0, none⟩) G.length G.length, .slice none 0 0] (w.alloc (.cells (madeCells #[.bool false] G.length) 4)) (Ordered w q)) := by
    refine (visit30 G hG back eb lo hi w.heap.size hgr.top hn hsh k r (fun _ => false) s' [] q hfin hr hql _ _ c0 (hgr.belowAll hb1) (World.rowIs_made _ _ _ _) (World.ownsRow_nil _ _ _ _)).mono ?_
    rintro e w' ⟨vp', rfl, _, hown, hb2⟩
    obtain ⟨ao, cp, rfl⟩ := ownsRow_form hown
    rcases hown.2 with ⟨h0, h1⟩ | ⟨g, cap, cur, hv, hg1, hg2, _⟩
    · omega
    · simp only [Value.slice.injEq] at hv
      obtain ⟨rfl, -, rfl⟩ := hv
      refine ⟨g, cp, rfl, ⟨(hown.lt g rfl).2, fun i hi => ?_⟩, hb1.trans hb2⟩
      rw [hown.cellAt i (by omega)]
      simp [List.getD, hi]
  have hmk := run_make_row' (P := Try.prog) 54 4 (.bool false) 1 Try.underlying54 info4 rfl .i64 .i64 G.length (by omega) (by omega)
  clear hfin hP hgr
  go_enter Try.func18, Try.ntmps18
  go_wp2_with fail
  refine HC.out.mono ?_
  rintro e w' ⟨g, cp, rfl, h1, h2⟩
  have HO : Hid (Ordered w q (.returned (.slice (some ⟨g, 0, none⟩) q.length cp)) w') := ⟨g, cp, rfl, h1, h2⟩
  clear HC h1 h2 hmk hb1
  go_wp2_with fail
  go_ret
  exact HO.out

set_option maxHeartbeats 1000000 in
theorem work17 (G : List (List Nat)) (eb lo hi c0 g cp : Nat) (q : List Nat) (hn : q.length ≤ 4096) (hsh : ∀ v, (row G v).length ≤ 1048576) (hq : ∀ x ∈ q, x < G.length) (w : World) (hgr : GR w lo hi (some ⟨eb, 0, none⟩) eb 0 (ints G)) (hp : PostAt w g q) :
    Calls Try.prog 17 #[.slice (some ⟨eb, 0, none⟩) G.length c0, .slice (some ⟨g, 0, none⟩) q.length cp] w fun e w' => e = .returned (.int .i64 (workOf G q : Nat)) ∧ w' = w := by
  have HSH : Hid (∀ v, (row G v).length ≤ 1048576) := hsh
  have HB : Hid (∀ i, workOf G (q.take i) ≤ 4294971392) := fun i => by
    have h1 := workOf_le G hsh (q.take i)
    have h2 : (q.take i).length ≤ 4096 := by simp; omega
    have h3 := Nat.mul_le_mul_right 1048577 h2
    omega
  have HQ : Hid (∀ x ∈ q, x < G.length) := hq
  clear hsh hq
  go_enter Try.func17, Try.ntmps17
  go_wp2_with fail
  go_loopw [5, 6] (fun t i wr => ∃ j : Nat, j ≤ q.length ∧ i = .int .i64 j ∧ t = .int .i64 (workOf G (q.take j) : Nat) ∧ wr = w) (fun _ i _ => q.length - (intOf i).toNat)
  case atStart => exact ⟨0, Nat.zero_le _, rfl, rfl, rfl⟩
  case round =>
    obtain ⟨j, hj, rfl, rfl, hwr⟩ := hrel
    obtain rfl := hwr.symm
    clear hwr
    by_cases hlt : j < q.length
    · have hc := hp.cell j hlt
      have hx := HQ.out q[j] (List.getElem_mem hlt)
      have hgd : q.getD j 0 = q[j] := by simp [List.getD, hlt]
      rw [hgd] at hc
      obtain ⟨a, rb, ro, c, h1, _, _⟩ := hgr.rowN q[j] hx
      rw [Nat.zero_add] at h1
      have HW : Hid (workOf G (q.take (j + 1)) = workOf G (q.take j) + (1 + (row G q[j]).length)) := workOf_take G q j hlt
      have hb := HB.out j
      have hs := HSH.out q[j]
      unfold vv at hc
      clear hgd
      generalize (row G q[j]).length = m at *
      generalize q[j] = x at *
      generalize workOf G (q.take j) = W at *
      go_wp2_with fail
      go_roundw
      case rel => exact ⟨j + 1, by omega, by go_num, by rw [HW.out]; go_num, by first | rfl | trivial⟩
      case measure => simp [intOf]; omega
    · obtain rfl : j = q.length := by omega
      rw [List.take_length]
      go_wp2_with fail
      go_ret
      exact ⟨rfl, rfl⟩
end CY
end Go.Proofs.Qxb6003137a
