/- zzVisit, zzPostorder, zzWork. -/
import Derived.Test.Qxb6003137aBound
namespace Go.Proofs.Qxb6003137a
open Go.ChangeShapes Go.WideShapes Go.ChangeAt Go.RowKit
set_option linter.unusedVariables false
set_option linter.unusedSimpArgs false
namespace CY

/-- The graph's rows as they lie in memory. -/
def ints (G : List (List Nat)) : List (List Int) := G.map (fun r => r.map (fun x : Nat => (x : Int)))
theorem ints_len (G : List (List Nat)) : (ints G).length = G.length := by simp [ints]
theorem ints_row (G : List (List Nat)) (v : Nat) : (ints G).getD v [] = (row G v).map (fun x : Nat => (x : Int)) := by
  unfold ints row
  by_cases h : v < G.length
  · simp [List.getD, h]
  · simp [List.getD, h]

theorem GR.rowN {w : World} {lo hi : Nat} {at0 : Option Addr} {b off : Nat} {G : List (List Nat)} (h : GR w lo hi at0 b off (ints G)) (v : Nat) (hv : v < G.length) :
    ∃ (a : Option Addr) (rb ro c : Nat), w.cell? ⟨b, off + v, none⟩ = some (.slice a (row G v).length c) ∧ (0 < (row G v).length → a = some ⟨rb, ro, none⟩ ∧ lo ≤ rb ∧ rb < hi) ∧ ∀ j, j < (row G v).length → w.cell? ⟨rb, ro + j, none⟩ = some (vv ((row G v).getD j 0)) := by
  obtain ⟨a, rb, ro, c, h1, h2, h3⟩ := h.cell v (by rw [ints_len]; exact hv)
  rw [ints_row, List.length_map] at h1 h2
  refine ⟨a, rb, ro, c, h1, h2, fun j hj => ?_⟩
  have := h3 j (by rw [ints_row, List.length_map]; exact hj)
  rw [this, ints_row]
  simp [vv, List.getD, hj]

/-- What zzVisit leaves. -/
def Left (gs n : Nat) (w : World) (s' : Nat → Bool) (p' : List Nat) (e : Ending) (w' : World) : Prop :=
  ∃ vp', e = .returned vp' ∧ w'.rowIs gs 4 n (fun i => .bool (s' i)) ∧ w'.ownsRow (gs + 1) 21 1 vp' p'.length (p'.map vv) ∧ Below gs w w'

theorem vv_one (x : Nat) : ∀ u ∈ [vv x], u.oneCell' = true := by
  intro u hu
  simp at hu
  subst hu
  rfl

set_option maxHeartbeats 4000000 in
set_option maxRecDepth 100000 in
theorem visit30 (G : List (List Nat)) (hG : InR G) (back : Bool) (eb lo hi gs : Nat) (hlo : hi ≤ gs) (hn : G.length ≤ 4096) (hsh : ∀ v, (row G v).length ≤ 1048576) : ∀ (k v : Nat) (s s' : Nat → Bool) (p p' : List Nat), Fin G back k v 0 (upd s v true) p s' p' → v < G.length → p'.length ≤ 4096 → ∀ (w : World) (vp : Value) (c0 : Nat), GR w lo hi (some ⟨eb, 0, none⟩) eb 0 (ints G) → w.rowIs gs 4 G.length (fun i => .bool (s i)) → w.ownsRow (gs + 1) 21 1 vp p.length (p.map vv) →
    Calls Try.prog 30 #[.slice (some ⟨eb, 0, none⟩) G.length c0, .int .i32 (v : Int), .bool back, .slice (some ⟨gs, 0, none⟩) G.length G.length, vp] w (Left gs G.length w s' p') := by
  obtain ⟨i0, hi0, hz0, hz1, hz2⟩ := info_parts info21
  intro k
  induction k using Nat.strongRecOn with
  | _ k IH =>
  intro v s s' p p' hfin hv hp' w vp c0 hgr hrow hown
  have HIH : Hid (∀ m, m < k → ∀ (v : Nat) (s s' : Nat → Bool) (p p' : List Nat), Fin G back m v 0 (upd s v true) p s' p' → v < G.length → p'.length ≤ 4096 → ∀ (w : World) (vp : Value) (c0 : Nat), GR w lo hi (some ⟨eb, 0, none⟩) eb 0 (ints G) → w.rowIs gs 4 G.length (fun i => .bool (s i)) → w.ownsRow (gs + 1) 21 1 vp p.length (p.map vv) →
    Calls Try.prog 30 #[.slice (some ⟨eb, 0, none⟩) G.length c0, .int .i32 (v : Int), .bool back, .slice (some ⟨gs, 0, none⟩) G.length G.length, vp] w (Left gs G.length w s' p')) := IH
  clear IH
  have HG : Hid (InR G) := hG
  have HSH : Hid (∀ v, (row G v).length ≤ 1048576) := hsh
  have HP' : Hid (p'.length ≤ 4096) := hp'
  clear hG hsh hp'
  have hc := hrow.cell hv
  have hf := hrow.frozen v
  have hrow1 : (w.setCell ⟨gs, v, none⟩ (.bool true)).rowIs gs 4 G.length (fun i => .bool (upd s v true i)) := (hrow.set v (.bool true)).congr (fun j _ => by unfold upd; split <;> rfl)
  have hb1 : Below gs w (w.setCell ⟨gs, v, none⟩ (.bool true)) := (Below.refl gs w).setCell (Nat.le_refl gs) _
  have hown1 : (w.setCell ⟨gs, v, none⟩ (.bool true)).ownsRow (gs + 1) 21 1 vp p.length (p.map vv) := ownsRow_of_heap hown (fun g hg => Below.heap_setCell _ _ _ _ (fun e => by have := (hown.lt g hg).1; simp only at e; omega))
  have hgr1 : GR (w.setCell ⟨gs, v, none⟩ (.bool true)) lo hi (some ⟨eb, 0, none⟩) eb 0 (ints G) := hgr.below hb1 hlo
  obtain ⟨a, rb, ro, c, h1, h2, h3⟩ := hgr1.rowN v hv
  have HR2 : Hid (0 < (row G v).length → a = some ⟨rb, ro, none⟩ ∧ lo ≤ rb ∧ rb < hi) := h2
  have HR3 : Hid (∀ j, j < (row G v).length → (w.setCell ⟨gs, v, none⟩ (.bool true)).cell? ⟨rb, ro + j, none⟩ = some (vv ((row G v).getD j 0))) := h3
  rw [Nat.zero_add] at h1
  clear h2 h3 hrow hown hgr
  have hlen := HSH.out v
  have HST : Hid (∃ wv, wv = w.setCell ⟨gs, v, none⟩ (.bool true) ∧ wv.rowIs gs 4 G.length (fun i => .bool (upd s v true i)) ∧ wv.ownsRow (gs + 1) 21 1 vp p.length (p.map vv) ∧ Below gs w wv ∧ GR wv lo hi (some ⟨eb, 0, none⟩) eb 0 (ints G)) := ⟨_, rfl, hrow1, hown1, hb1, hgr1⟩
  clear hrow1 hown1 hgr1 hb1
  go_enter Try.func30, Try.ntmps30
  go_wp2_with fail
  obtain ⟨wv, hwv, hrow1, hown1, hb1, hgr1⟩ := HST.out
  clear HST
  rw [← hwv] at HR3 h1
  rw [← hwv]
  go_loopw [4, 12] (fun x i wr => ∃ (t k' : Nat) (s1 : Nat → Bool) (p1 : List Nat), t ≤ (row G v).length ∧ i = .int .i64 t ∧ k' ≤ k ∧ Fin G back k' v t s1 p1 s' p' ∧ wr.rowIs gs 4 G.length (fun i => .bool (s1 i)) ∧ wr.ownsRow (gs + 1) 21 1 x p1.length (p1.map vv) ∧ Below gs wv wr) (fun _ i _ => (row G v).length - (intOf i).toNat)
  case atStart => exact ⟨0, k, _, p, Nat.zero_le _, rfl, Nat.le_refl _, hfin, hrow1, hown1, Below.refl _ _⟩
  case round =>
    obtain ⟨t, k', s1, p1, ht, rfl, hk', hfin1, hrow2, hown2, hb2⟩ := hrel
    clear hrow1 hown1 hfin
    obtain ⟨ao, cx, rfl⟩ := ownsRow_form hown2
    by_cases hlt : t < (row G v).length
    case neg =>
      obtain rfl : t = (row G v).length := by omega
      have hd : s' = s1 ∧ p' = p1 ++ [v] := by
        cases hfin1 with
        | done _ => exact ⟨rfl, rfl⟩
        | skip h _ _ => exact absurd h (by omega)
        | go h _ _ _ => exact absurd h (by omega)
      obtain ⟨rfl, rfl⟩ := hd
      have hpl : p1.length + 1 ≤ 4096 := by have := HP'.out; simpa using this
      have HOA : ∀ o, (wr.alloc o).ownsRow (gs + 1) 21 1 (.slice ao p1.length cx) p1.length (p1.map vv) := fun o => hown2.alloc o
      have HNW : Hid (∀ j u, [vv v][j]? = some u → (wr.alloc (.cells #[.int .i32 (v : Int)] 21)).cell? ((⟨wr.heap.size, 0, none⟩ : Addr).add j) = some u) := World.news_of_block (heap_alloc_new wr (.cells #[.int .i32 (v : Int)] 21))
      have hgz := hrow2.lt
      have HW : Hid (∀ g cap w1, w1.ownsRow (gs + 1) 21 1 (.slice (some ⟨g, 0, none⟩) (p1.length + 1) cap) (p1.length + 1) (p1.map vv ++ [vv v]) → (wr.alloc (.cells #[.int .i32 (v : Int)] 21)).grownBy w1 (Value.slice ao p1.length cx).ownBlock → Left gs G.length w s' (p1 ++ [v]) (.returned (.slice (some ⟨g, 0, none⟩) (p1.length + 1) cap)) w1) := fun g cap w1 ho hg => by
        have hbl : ∀ k, (Value.slice ao p1.length cx).ownBlock = some k → gs ≤ k := fun k hk => by have := (hown2.lt k hk).1; omega
        have hB : Below gs wr w1 := ((Below.refl gs wr).alloc (Nat.le_of_lt hgz) _).grown hg (by simp; omega) hbl
        refine ⟨_, rfl, rowIs_of_heap hrow2 ((hg.block gs (by simp; omega) (fun e => by have := (hown2.lt gs e.symm).1; omega)).trans (Below.heap_alloc wr _ _ hgz)), by simpa using ho, (hb1.trans hb2).trans hB⟩
      clear hrow2 hown2 hb2 hfin1
      go_wp2_with (at_builtin; refine wpList_append_lies _ rfl _ _ 35 rfl (gs + 1) 21 i0 _ 1 4 Try.underlying35 hi0 hz0 hz1 hz2 rfl (by decide) (.slice ao p1.length cx) p1.length (p1.map vv) (by rfl) (HOA _) ⟨wr.heap.size, 0, none⟩ 1 1 [vv v] (by rfl) rfl HNW.out (vv_one v) (by decide) (by unfold maxLen; omega) (by omega) (by simp; omega) _ rfl ?_; intro g cap w1 hown3 hgrow hat hltg; have WR : Hid (Left gs G.length w s' (p1 ++ [v]) (.returned (.slice (some ⟨g, 0, none⟩) (p1.length + 1) cap)) w1) := HW.out g cap w1 hown3 hgrow; clear hown3 hgrow hat hltg)
      go_ret
      exact WR.out
    have hwn : nth back (row G v) t < G.length := HG.out v _ (nth_mem hlt)
    obtain ⟨rfl, hrb1, hrb2⟩ := HR2.out (by omega)
    obtain ⟨idx, hidx, hidx2, hnx⟩ : ∃ idx : Nat, idx < (row G v).length ∧ (if back then ((row G v).length : Int) - 1 - (t : Int) else (t : Int)) = (idx : Int) ∧ (row G v).getD idx 0 = nth back (row G v) t := by
      cases back with
      | false => exact ⟨t, hlt, rfl, by simp [nth]⟩
      | true => exact ⟨(row G v).length - 1 - t, by omega, by simp; omega, by simp [nth]⟩
    have hcell := HR3.out idx hidx
    rw [hnx, ← hb2.cell (p := ⟨rb, ro + idx, none⟩) (Nat.lt_of_lt_of_le hrb2 hlo)] at hcell
    unfold vv at hcell
    have hcs := hrow2.cell hwn
    clear hnx
    cases hfin1 with
    | done h => exact absurd h (by omega)
    | @skip k2 _ _ _ _ _ _ _ hs hf =>
      rw [hs] at hcs
      generalize nth back (row G v) t = x at *
      have HF : Hid (Fin G back k2 v (t + 1) s1 p1 s' p') := hf
      clear hf hs
      cases back with
      | false =>
        simp only [Bool.false_eq_true, if_false, Int.natCast_inj] at hidx2
        subst hidx2
        go_wp2_with fail
        go_roundw
        case rel => exact ⟨t + 1, k2, s1, p1, by omega, by go_num, by omega, HF.out, hrow2, hown2, hb2⟩
        case measure => simp [intOf]; omega
      | true =>
        simp only [if_true] at hidx2
        go_wp2_with fail
        go_roundw
        case rel => exact ⟨t + 1, k2, s1, p1, by omega, by go_num, by omega, HF.out, hrow2, hown2, hb2⟩
        case measure => simp [intOf]; omega
    | @go k1 k2 _ _ _ s2 _ _ p2 _ _ hs hf1 hf2 =>
      rw [hs] at hcs
      have hp2 : p2.length ≤ 4096 := by
        obtain ⟨q, e, _⟩ := hf2.spec HG.out
        have := HP'.out
        rw [e] at this
        simp at this
        omega
      have HC : Hid (Calls Try.prog 30 #[.slice (some ⟨eb, 0, none⟩) G.length c0, .int .i32 (nth back (row G v) t : Int), .bool back, .slice (some ⟨gs, 0, none⟩) G.length G.length, .slice ao p1.length cx] wr (Left gs G.length wr s2 p2)) := HIH.out k1 (by omega) _ s1 s2 p1 p2 hf1 hwn hp2 wr _ c0 (hgr1.below hb2 hlo) hrow2 hown2
      generalize nth back (row G v) t = x at *
      have HF : Hid (Fin G back k2 v (t + 1) s2 p2 s' p') := hf2
      clear hf1 hf2 hs hown2
      cases back with
      | false =>
        simp only [Bool.false_eq_true, if_false, Int.natCast_inj] at hidx2
        subst hidx2
        go_wp2_with fail
        refine HC.out.mono ?_
        rintro e w3 ⟨vp', rfl, hrow3, hown3, hb3⟩
        obtain ⟨ao', cx', rfl⟩ := ownsRow_form hown3
        clear HC hcell hcs hrow2
        go_wp2_with fail
        go_roundw
        case rel => exact ⟨t + 1, k2, s2, p2, by omega, by go_num, by omega, HF.out, hrow3, hown3, hb2.trans hb3⟩
        case measure => simp [intOf]; omega
      | true =>
        simp only [if_true] at hidx2
        go_wp2_with fail
        refine HC.out.mono ?_
        rintro e w3 ⟨vp', rfl, hrow3, hown3, hb3⟩
        obtain ⟨ao', cx', rfl⟩ := ownsRow_form hown3
        clear HC hcell hcs hrow2
        go_wp2_with fail
        go_roundw
        case rel => exact ⟨t + 1, k2, s2, p2, by omega, by go_num, by omega, HF.out, hrow3, hown3, hb2.trans hb3⟩
        case measure => simp [intOf]; omega
end CY
end Go.Proofs.Qxb6003137a
