/- zzCycleFrom: the paths counted by memoised recursion. -/
import Derived.Test.Qxb6003137aPost
import Derived.Test.Qxb6003137aSat
namespace Go.Proofs.Qxb6003137a
open Go.ChangeShapes Go.WideShapes Go.ChangeAt Go.RowKit
set_option linter.unusedVariables false
set_option linter.unusedSimpArgs false
namespace CY

theorem below_drewN {B : Nat} {a w : World} (h : Below B a w) (n : Nat) : Below B a (w.drewN n) := ⟨h.os, h.tape, h.output, h.size, h.block⟩

/-- done, cnt, tot; those that are done hold the capped numbers. -/
structure CM (w : World) (gd gc gt n m : Nat) (N T : Nat → Nat) (D : Nat → Bool) (C H : Nat → Int) : Prop where
  rd : w.rowIs gd 4 n (fun i => .bool (D i))
  rc : w.rowIs gc 3 n (fun i => .int .i64 (C i))
  rt : w.rowIs gt 3 n (fun i => .int .i64 (H i))
  dc : gd < gc
  ct : gc < gt
  cnt : ∀ x, D x = true → C x = (cap m (N x) : Nat)
  tot : ∀ x, D x = true → H x = (cap m (T x) : Nat)

theorem CM.drewN {w : World} {gd gc gt n m : Nat} {N T : Nat → Nat} {D : Nat → Bool} {C H : Nat → Int} (h : CM w gd gc gt n m N T D C H) (k : Nat) : CM (w.drewN k) gd gc gt n m N T D C H := ⟨h.rd, h.rc, h.rt, h.dc, h.ct, h.cnt, h.tot⟩

/-- v is done. -/
theorem CM.mark {w : World} {gd gc gt n m : Nat} {N T : Nat → Nat} {D : Nat → Bool} {C H : Nat → Int} (h : CM w gd gc gt n m N T D C H) (v : Nat) :
    CM (((w.setCell ⟨gc, v, none⟩ (.int .i64 (cap m (N v) : Nat))).setCell ⟨gt, v, none⟩ (.int .i64 (cap m (T v) : Nat))).setCell ⟨gd, v, none⟩ (.bool true)) gd gc gt n m N T (upd D v true) (upd C v (cap m (N v) : Nat)) (upd H v (cap m (T v) : Nat)) where
  rd := (((h.rd.setOther (a := ⟨gc, v, none⟩) (by have := h.dc; simp only; omega) _).setOther (a := ⟨gt, v, none⟩) (by have := h.dc; have := h.ct; simp only; omega) _).set v (.bool true)).congr (fun j _ => by unfold upd; split <;> rfl)
  rc := (((h.rc.set v _).setOther (a := ⟨gt, v, none⟩) (by have := h.ct; simp only; omega) _).setOther (a := ⟨gd, v, none⟩) (by have := h.dc; simp only; omega) _).congr (fun j _ => by unfold upd; split <;> rfl)
  rt := (((h.rt.setOther (a := ⟨gc, v, none⟩) (by have := h.ct; simp only; omega) _).set v _).setOther (a := ⟨gd, v, none⟩) (by have := h.dc; have := h.ct; simp only; omega) _).congr (fun j _ => by unfold upd; split <;> rfl)
  dc := h.dc
  ct := h.ct
  cnt := fun x hx => by
    by_cases e : x = v
    · subst e; rw [upd_same]
    · rw [upd_ne _ _ e] at hx ⊢; exact h.cnt x hx
  tot := fun x hx => by
    by_cases e : x = v
    · subst e; rw [upd_same]
    · rw [upd_ne _ _ e] at hx ⊢; exact h.tot x hx

def tOf (r : Nat) (pos N T : Nat → Nat) (v w : Nat) : Nat := if w = r then 0 else if pos w < pos v then T w + N w else 0

/-- v's numbers are there. -/
def Counted (gd gc gt n m v : Nat) (N T : Nat → Nat) (D : Nat → Bool) (w : World) (e : Ending) (w' : World) : Prop :=
  e = .returned (.tuple #[]) ∧ ∃ D' C' H', CM w' gd gc gt n m N T D' C' H' ∧ D' v = true ∧ (∀ x, D x = true → D' x = true) ∧ Below gd w w'

set_option maxHeartbeats 8000000 in
set_option maxRecDepth 100000 in
theorem from36 (G : List (List Nat)) (hG : InR G) (r : Nat) (pos N T : Nat → Nat) (hP : Paths G r pos N T) (m : Nat) (hm0 : 0 < m) (hm : m ≤ 9223372036854775807) (eb lo hi c0 gp gd gc gt : Nat) (hlo : hi ≤ gp) (hgd : gp < gd) (hn : G.length ≤ 4096) (hsh : ∀ v, (row G v).length ≤ 1048576) : ∀ (d v : Nat), pos v ≤ d → v < G.length → ∀ (D : Nat → Bool) (C H : Nat → Int) (w : World), GR w lo hi (some ⟨eb, 0, none⟩) eb 0 (ints G) → w.rowIs gp 3 G.length (fun i => .int .i64 (pos i : Nat)) → CM w gd gc gt G.length m N T D C H →
    Calls Try.prog 36 #[.slice (some ⟨eb, 0, none⟩) G.length c0, .int .i32 (r : Int), .int .i32 (v : Int), .slice (some ⟨gp, 0, none⟩) G.length G.length, .int .i64 (m : Nat), .slice (some ⟨gd, 0, none⟩) G.length G.length, .slice (some ⟨gc, 0, none⟩) G.length G.length, .slice (some ⟨gt, 0, none⟩) G.length G.length] w (Counted gd gc gt G.length m v N T D w) := by
  intro d
  induction d using Nat.strongRecOn with
  | _ d IH =>
  intro v hd hv D C H w hgr hrp hcm
  have HIH : Hid (∀ d', d' < d → ∀ v, pos v ≤ d' → v < G.length → ∀ (D : Nat → Bool) (C H : Nat → Int) (w : World), GR w lo hi (some ⟨eb, 0, none⟩) eb 0 (ints G) → w.rowIs gp 3 G.length (fun i => .int .i64 (pos i : Nat)) → CM w gd gc gt G.length m N T D C H →
    Calls Try.prog 36 #[.slice (some ⟨eb, 0, none⟩) G.length c0, .int .i32 (r : Int), .int .i32 (v : Int), .slice (some ⟨gp, 0, none⟩) G.length G.length, .int .i64 (m : Nat), .slice (some ⟨gd, 0, none⟩) G.length G.length, .slice (some ⟨gc, 0, none⟩) G.length G.length, .slice (some ⟨gt, 0, none⟩) G.length G.length] w (Counted gd gc gt G.length m v N T D w)) := IH
  clear IH
  have HG : Hid (InR G) := hG
  have HP : Hid (Paths G r pos N T) := hP
  have HSH : Hid (∀ v, (row G v).length ≤ 1048576) := hsh
  clear hG hP hsh
  have hcd := hcm.rd.cell hv
  cases hDv : D v with
  | true =>
    rw [hDv] at hcd
    have HX : Hid (Counted gd gc gt G.length m v N T D w (.returned (.tuple #[])) w) := ⟨rfl, D, C, H, hcm, hDv, fun _ h => h, Below.refl _ _⟩
    clear hcm hrp hgr
    go_enter Try.func36, Try.ntmps36
    go_wp2_with fail
    go_end0
    exact HX.out
  | false =>
  rw [hDv] at hcd
  obtain ⟨a, rb, ro, c, h1, h2, h3⟩ := hgr.rowN v hv
  have HR2 : Hid (0 < (row G v).length → a = some ⟨rb, ro, none⟩ ∧ lo ≤ rb ∧ rb < hi) := h2
  have HR3 : Hid (∀ j, j < (row G v).length → w.cell? ⟨rb, ro + j, none⟩ = some (vv ((row G v).getD j 0))) := h3
  rw [Nat.zero_add] at h1
  clear h2 h3
  have hlen := HSH.out v
  have HCM : Hid (CM w gd gc gt G.length m N T D C H) := hcm
  clear hcm hDv
  go_enter Try.func36, Try.ntmps36
  go_wp2_with fail
  clear hcd
  go_loopw [16, 17, 19] (fun c t i wr => ∃ (j : Nat) (D1 : Nat → Bool) (C1 H1 : Nat → Int), j ≤ (row G v).length ∧ i = .int .i64 j ∧ c = .int .i64 (cap m (sumT (aOf r pos N v) (row G v) j) : Nat) ∧ t = .int .i64 (cap m (sumT (tOf r pos N T v) (row G v) j) : Nat) ∧ CM wr gd gc gt G.length m N T D1 C1 H1 ∧ Hid (∀ x, D x = true → D1 x = true) ∧ Below gd w wr) (fun _ _ i _ => (row G v).length - (intOf i).toNat)
  case atStart => exact ⟨0, D, C, H, Nat.zero_le _, rfl, by rw [sumT_zero, cap_zero]; rfl, by rw [sumT_zero, cap_zero]; rfl, HCM.out, fun _ h => h, Below.refl _ _⟩
  case round =>
    obtain ⟨j, D1, C1, H1, hj, rfl, rfl, rfl, hcm1, hmono, hb⟩ := hrel
    clear HCM
    by_cases hlt : j < (row G v).length
    case neg =>
      obtain rfl : j = (row G v).length := by omega
      have e1 : sumT (aOf r pos N v) (row G v) (row G v).length = N v := by rw [sumT_all, HP.out.n v]; rfl
      have e2 : sumT (tOf r pos N T v) (row G v) (row G v).length = T v := by rw [sumT_all, HP.out.t v]; rfl
      rw [e1, e2]
      clear e1 e2
      have k1 := hcm1.rc.cell hv
      have k2 := hcm1.rt.cell hv
      have k3 := hcm1.rd.cell hv
      have f1 := hcm1.rc.frozen v
      have f2 := hcm1.rt.frozen v
      have f3 := hcm1.rd.frozen v
      have hne1 : gc ≠ gt := by have := hcm1.ct; omega
      have hne2 : gd ≠ gt := by have := hcm1.ct; have := hcm1.dc; omega
      have hne3 : gd ≠ gc := by have := hcm1.dc; omega
      have HX : Hid (Counted gd gc gt G.length m v N T D w (.returned (.tuple #[])) (((wr.setCell ⟨gc, v, none⟩ (.int .i64 (cap m (N v) : Nat))).setCell ⟨gt, v, none⟩ (.int .i64 (cap m (T v) : Nat))).setCell ⟨gd, v, none⟩ (.bool true))) :=
        ⟨rfl, _, _, _, hcm1.mark v, upd_same _ _ _, fun x hx => by unfold upd; split; rfl; exact hmono.out x hx, ((hb.setCell (p := ⟨gc, v, none⟩) (by have := hcm1.dc; simp only; omega) _).setCell (p := ⟨gt, v, none⟩) (by have := hcm1.dc; have := hcm1.ct; simp only; omega) _).setCell (p := ⟨gd, v, none⟩) (Nat.le_refl _) _⟩
      generalize cap m (N v) = A at *
      generalize cap m (T v) = B at *
      have k2' : (wr.setCell ⟨gc, v, none⟩ (.int .i64 (A : Nat))).cell? ⟨gt, v, none⟩ = some (.int .i64 (H1 v)) := by
        rw [← k2]; exact World.cell?_of_block (w := wr) (Below.heap_setCell _ _ _ _ (Ne.symm hne1))
      have f2' : (wr.setCell ⟨gc, v, none⟩ (.int .i64 (A : Nat))).frozen? ⟨gt, v, none⟩ = false := by
        rw [← f2]; exact World.frozen?_of_block (w := wr) (Below.heap_setCell _ _ _ _ (Ne.symm hne1))
      have k3' : ((wr.setCell ⟨gc, v, none⟩ (.int .i64 (A : Nat))).setCell ⟨gt, v, none⟩ (.int .i64 (B : Nat))).cell? ⟨gd, v, none⟩ = some (.bool (D1 v)) := by
        rw [← k3]; exact World.cell?_of_block (w := wr) ((Below.heap_setCell _ _ _ _ hne2).trans (Below.heap_setCell _ _ _ _ hne3))
      have f3' : ((wr.setCell ⟨gc, v, none⟩ (.int .i64 (A : Nat))).setCell ⟨gt, v, none⟩ (.int .i64 (B : Nat))).frozen? ⟨gd, v, none⟩ = false := by
        rw [← f3]; exact World.frozen?_of_block (w := wr) ((Below.heap_setCell _ _ _ _ hne2).trans (Below.heap_setCell _ _ _ _ hne3))
      clear hcm1 hb
      go_wp2_with fail
      go_end0
      exact HX.out
    obtain ⟨rfl, hrb1, hrb2⟩ := HR2.out (by omega)
    have hgx : (row G v).getD j 0 = (row G v)[j] := by simp [List.getD, hlt]
    have hcell := HR3.out j hlt
    rw [hgx, ← hb.cell (p := ⟨rb, ro + j, none⟩) (show rb < gd by omega)] at hcell
    unfold vv at hcell
    have hx : (row G v)[j] < G.length := HG.out v _ (List.getElem_mem hlt)
    have HA : Hid (sumT (aOf r pos N v) (row G v) (j + 1) = sumT (aOf r pos N v) (row G v) j + aOf r pos N v (row G v)[j]) := sumT_step _ _ j hlt
    have HT : Hid (sumT (tOf r pos N T v) (row G v) (j + 1) = sumT (tOf r pos N T v) (row G v) j + tOf r pos N T v (row G v)[j]) := sumT_step _ _ j hlt
    clear hgx
    generalize (row G v)[j] = x at *
    generalize sumT (aOf r pos N v) (row G v) j = A at *
    generalize sumT (tOf r pos N T v) (row G v) j = B at *
    have hAle := cap_le m A
    have hBle := cap_le m B
    by_cases hxr : x = r
    case pos =>
      subst hxr
      have ea : aOf x pos N v x = 1 := by simp [aOf]
      have et : tOf x pos N T v x = 0 := by simp [tOf]
      rw [ea] at HA
      rw [et] at HT
      have S : Hid (Calls Try.prog 27 #[.int .i64 (cap m A : Nat), .int .i64 1, .int .i64 (m : Nat)] wr fun e w' => e = .returned (.int .i64 (cap m (A + 1) : Nat)) ∧ w' = wr) := by
        have := sat27 m A 1 hm wr
        rw [cap_one m hm0] at this
        exact this
      clear ea et
      go_wp2_with fail
      refine S.out.mono ?_
      rintro e w' ⟨rfl, hw⟩
      obtain rfl := hw.symm
      clear hw S
      go_wp2_with fail
      go_roundw
      case rel => exact ⟨j + 1, D1, C1, H1, by omega, by go_num, by rw [HA.out], by rw [HT.out, Nat.add_zero], hcm1, hmono, hb⟩
      case measure => simp [intOf]; omega
    have hq : ((x : Int) == (r : Int)) = false := by simp; omega
    have hrp1 : wr.rowIs gp 3 G.length (fun i => .int .i64 (pos i : Nat)) := rowIs_of_heap hrp (hb.block gp hgd)
    have p1 := hrp1.cell hx
    have p2 := hrp1.cell hv
    by_cases hlp : pos x < pos v
    case neg =>
      have ea : aOf r pos N v x = 0 := by simp [aOf, hxr, hlp]
      have et : tOf r pos N T v x = 0 := by simp [tOf, hxr, hlp]
      rw [ea] at HA
      rw [et] at HT
      clear ea et
      generalize pos x = px at *
      generalize pos v = pv at *
      go_wp2_with fail
      go_quiet (fail)
      go_wp2_with fail
      go_roundw
      case rel => exact ⟨j + 1, D1, C1, H1, by omega, by go_num, by rw [HA.out, Nat.add_zero], by rw [HT.out, Nat.add_zero], hcm1.drewN _, hmono, below_drewN hb _⟩
      case measure => simp [intOf]; omega
    have ea : aOf r pos N v x = N x := by simp [aOf, hxr, hlp]
    have et : tOf r pos N T v x = T x + N x := by simp [tOf, hxr, hlp]
    rw [ea] at HA
    rw [et] at HT
    have HC : Hid (∀ k, Calls Try.prog 36 #[.slice (some ⟨eb, 0, none⟩) G.length c0, .int .i32 (r : Int), .int .i32 (x : Int), .slice (some ⟨gp, 0, none⟩) G.length G.length, .int .i64 (m : Nat), .slice (some ⟨gd, 0, none⟩) G.length G.length, .slice (some ⟨gc, 0, none⟩) G.length G.length, .slice (some ⟨gt, 0, none⟩) G.length G.length] (wr.drewN k) (Counted gd gc gt G.length m x N T D1 (wr.drewN k))) := fun k => HIH.out (pos x) (by omega) x (Nat.le_refl _) hx D1 C1 H1 _ ((hgr.below hb (by omega)).of_heap (fun _ _ _ => rfl) (hgr.below hb (by omega)).top) hrp1 (hcm1.drewN k)
    clear ea et hcm1
    have HLP : Hid (pos x < pos v) := hlp
    generalize hpx : pos x = px at *
    generalize hpv : pos v = pv at *
    clear hpx hpv
    go_wp2_with fail
    go_quiet (fail)
    go_wp2_with fail
    refine (HC.out _).mono ?_
    rintro e w2 ⟨rfl, D2, C2, H2, hcm2, hDx, hmono2, hb2⟩
    have hb3 := (below_drewN hb nq).trans hb2
    have q1 := hcm2.rc.cell hx
    have q2 := hcm2.rt.cell hx
    rw [hcm2.cnt x hDx] at q1
    rw [hcm2.tot x hDx] at q2
    have hNle := cap_le m (N x)
    have hTle := cap_le m (T x)
    clear HC p1 p2 hcell hrp1 hb hb2 hq
    have S1 : Hid (Calls Try.prog 27 #[.int .i64 (cap m A : Nat), .int .i64 (cap m (N x) : Nat), .int .i64 (m : Nat)] w2 fun e w' => e = .returned (.int .i64 (cap m (A + N x) : Nat)) ∧ w' = w2) := sat27 m A (N x) hm w2
    have S2 : Hid (∀ k, Calls Try.prog 27 #[.int .i64 (cap m (T x) : Nat), .int .i64 (cap m (N x) : Nat), .int .i64 (m : Nat)] (w2.drewN k) fun e w' => e = .returned (.int .i64 (cap m (T x + N x) : Nat)) ∧ ∃ j, w' = w2.drewN j) := fun k => Calls.quiet_of_same (sat27 m (T x) (N x) hm (w2.drewN k))
    have S3 : Hid (∀ k, Calls Try.prog 27 #[.int .i64 (cap m B : Nat), .int .i64 (cap m (T x + N x) : Nat), .int .i64 (m : Nat)] (w2.drewN k) fun e w' => e = .returned (.int .i64 (cap m (B + (T x + N x)) : Nat)) ∧ ∃ j, w' = w2.drewN j) := fun k => Calls.quiet_of_same (sat27 m B (T x + N x) hm (w2.drewN k))
    have HA2 : Hid (cap m (sumT (aOf r pos N v) (row G v) (j + 1)) = cap m (A + N x)) := by show _ = _; rw [HA.out]
    have HT2 : Hid (cap m (sumT (tOf r pos N T v) (row G v) (j + 1)) = cap m (B + (T x + N x))) := by show _ = _; rw [HT.out]
    generalize cap m (A + N x) = y1 at *
    generalize cap m (B + (T x + N x)) = y3 at *
    generalize cap m (T x + N x) = y2 at *
    generalize cap m A = cA at *
    generalize cap m B = cB at *
    generalize cap m (N x) = cN at *
    generalize cap m (T x) = cT at *
    go_wp2_with fail
    refine S1.out.mono ?_
    rintro e w' ⟨rfl, hw⟩
    obtain rfl := hw.symm
    clear hw S1
    go_wp2_with fail
    go_quiet ((first | (go_at_call 27; with_reducible exact S2.out _) | (go_at_call 27; with_reducible exact S3.out _)))
    clear S2 S3
    go_wp2_with fail
    go_roundw
    case rel => exact ⟨j + 1, D2, C2, H2, by omega, by go_num, by rw [HA2.out], by rw [HT2.out], hcm2.drewN _, fun y hy => hmono2 y (hmono.out y hy), below_drewN hb3 _⟩
    case measure => simp [intOf]; omega
end CY
end Go.Proofs.Qxb6003137a
