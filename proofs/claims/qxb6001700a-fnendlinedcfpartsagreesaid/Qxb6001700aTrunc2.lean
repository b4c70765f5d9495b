/- truncate: the walk. -/
import Derived.Test.Qxb6001700aTrunc
namespace Go.Proofs.Qxb6001700a
open Go.ChangeShapes Go.WideShapes Go.ChangeAt Go.RowKit
set_option linter.unusedVariables false
set_option linter.unusedSimpArgs false
namespace EL

theorem wrapEq (x : Int) : IntKind.i64.wrap x = wrap64 x := by rw [IntKind.wrap_i64]; unfold wrap64; rfl

set_option maxHeartbeats 1000000 in
theorem trunc52c (p : Nat) (s : St) (n K : Nat) (ln : Bool) (ls : Int) (ts : Bool) (w : World) (h : Buf w p s ln ls ts) (ht : s.fulls ≠ [] → s.last ≠ []) (hb : s.bytes.length ≤ 4194304) (hn : n ≤ s.bytes.length) (h0 : 0 < n) (hmod : ¬ n % 65536 = 0) (hK : K = n / 65536) :
    Calls Try.prog 52 #[.pointer (some ⟨p, 0, none⟩), .int .i64 n] w (Cut p s n ln ls ts w) := by
  have hlen := h.len
  have hlast : s.last.length ≤ 65536 := Nat.le_trans (le_cap h.own1) h.cap
  have hF : s.fulls.length ≤ 64 := by omega
  have hmask : bits .and .i64 (n : Int) 65535 = (n : Int) % 65536 := andMask _
  have HV1 : Hid (∃ a1 n1 k1, s.vl = .slice a1 n1 k1) := by obtain ⟨a, k, e⟩ := ownsRow_form h.own1; exact ⟨a, _, k, e⟩
  have q1 : (0 : Int) < (n : Int) := by omega
  have q2 : ((n : Int) % 65536 == 0) = false := by simp; omega
  have q3 : (n : Int) / 65536 = (K : Int) := by omega
  have hr : 65536 * K ≤ n ∧ n ≤ 65536 * K + 65536 ∧ (K = 0 ∨ 65536 * K < n) := by omega
  clear h0 hmod hK

  by_cases hKF : K < s.fulls.length
  · obtain ⟨m, hm⟩ : ∃ m, n = 65536 * K + m := ⟨n - 65536 * K, by omega⟩
    have hm1 : m ≤ 65536 := by omega
    have hm2 : K = 0 ∨ 0 < m := by omega
    obtain ⟨gf, cap, hv, hg1, hg2⟩ := h.own0.form (by omega)
    have hvb : s.vf.ownBlock = some gf := by rw [hv]; rfl
    have hown := h.own0
    have c0 := h.c0
    rw [hv] at c0 hown
    have hFc : s.fulls.length ≤ cap := by have := le_cap hown; exact this
    have hcell := hown.cellAt K (by omega)
    rw [List.getElem?_map, List.getElem?_eq_getElem hKF] at hcell
    simp only [Option.map_some] at hcell
    have c1 := h.c1
    have hp := h.blk.lt
    have f0 : w.frozen? ⟨p, 0, none⟩ = false := h.blk.frozen 0
    have f1 : w.frozen? ⟨p, 1, none⟩ = false := h.blk.frozen 1
    have hpg : ¬ gf = p := by omega
    have hown1 : (w.setCell ⟨p, 1, none⟩ (fullV (s.fulls[K]).1)).ownsRow (p + 1) 25 1 (.slice (some ⟨gf, 0, none⟩) s.fulls.length cap) s.fulls.length (s.fulls.map (fun x => fullV x.1)) := ownsRow_setCell_below hown (a := ⟨p, 1, none⟩) (Nat.lt_succ_self p) _
    have CF : Hid (∀ w2 w3 : World, (w.setCell ⟨p, 1, none⟩ (fullV (s.fulls[K]).1)).grownBy w2 (some gf) → w2.ownsRow (p + 1) 25 1 (.slice (some ⟨gf, 0, none⟩) K cap) K ((s.fulls.map (fun x => fullV x.1)).take K) →
        (w3.heap = (w2.setCell ⟨p, 0, none⟩ (.slice (some ⟨gf, 0, none⟩) K cap)).heap ∧ w3.os = w2.os ∧ w3.tape = w2.tape ∧ w3.output = w2.output) →
        Cut p s n ln ls ts w (.returned (.tuple #[])) (w3.setCell ⟨p, 1, none⟩ (.slice (some ⟨(s.fulls[K]).1, 0, none⟩) m 65536))) := fun w2 w3 a b c => cut_full h hKF hvb a b m n hm hm1 hm2 c
    have HP : Hid (∀ w2 : World, (w.setCell ⟨p, 1, none⟩ (fullV (s.fulls[K]).1)).grownBy w2 (some gf) → w2.cell? ⟨p, 0, none⟩ = some (.slice (some ⟨gf, 0, none⟩) s.fulls.length cap) ∧ w2.frozen? ⟨p, 0, none⟩ = false ∧
        (w2.setCell ⟨p, 0, none⟩ (.slice (some ⟨gf, 0, none⟩) K cap)).cell? ⟨p, 0, none⟩ = some (.slice (some ⟨gf, 0, none⟩) K cap) ∧ (w2.setCell ⟨p, 0, none⟩ (.slice (some ⟨gf, 0, none⟩) K cap)).cell? ⟨p, 1, none⟩ = some (fullV (s.fulls[K]).1) ∧ (w2.setCell ⟨p, 0, none⟩ (.slice (some ⟨gf, 0, none⟩) K cap)).frozen? ⟨p, 1, none⟩ = false) := by
      intro w2 hgr
      have hbp : w2.heap[p]? = (w.setCell ⟨p, 1, none⟩ (fullV (s.fulls[K]).1)).heap[p]? := hgr.block p (by simpa [World.setCell] using hp) (by simp; omega)
      have hb2 : Blk w2 p 53 5 := (h.blk.set p 1 (fullV (s.fulls[K]).1)).of_heap hbp
      refine ⟨?_, hb2.frozen 0, hb2.cell_same (by decide) _, ?_, (hb2.set p 0 _).frozen 1⟩
      · rw [World.cell?_of_block (w := w.setCell ⟨p, 1, none⟩ (fullV (s.fulls[K]).1)) (a := ⟨p, 0, none⟩) hbp, cell_other (by decide)]; exact c0
      · rw [cell_other (by decide), World.cell?_of_block (w := w.setCell ⟨p, 1, none⟩ (fullV (s.fulls[K]).1)) (a := ⟨p, 1, none⟩) hbp]; exact h.blk.cell_same (by decide) _
    obtain ⟨j0, hj, hy0, hy1, hy2⟩ := info_parts info25
    clear h hv hvb hown hlen hlast hn hb ht hm2
    have hKF2 : (K : Int) < (s.fulls.length : Int) := by omega
    have hKc : ¬ cap = K := by omega
    have hKc2 : K ≤ cap := by omega
    have hmI : (n : Int) - (K : Int) * 65536 = (m : Int) := by omega
    clear hm
    generalize s.fulls.map (fun x => fullV x.1) = cs at *
    generalize (s.fulls[K]).1 = gx at *
    unfold fullV at *
    generalize s.fulls.length = F at *
    have hKF3 : K + (F - K) = F := by omega
    have hKF4 : 0 < F - K := by omega
    have HM1 : Hid (m ≤ 65536) := hm1
    clear hm1 hr hKF hg1 hg2 hFc
    obtain ⟨a1, n1, k1, hv1⟩ : ∃ a1 n1 k1, s.vl = .slice a1 n1 k1 := ⟨_, _, _, HV1.out.choose_spec.choose_spec.choose_spec⟩
    rw [hv1] at c1
    clear hv1 HV1
    have tok1 : True := trivial
    go_enter Try.func52, Try.ntmps52
    go_wp2_with (have _t := tok1; refine wpList_clear _ rfl (.tmp 38) 49 rfl (p + 1) 25 j0 Try.underlying49 hj hy0 gf K F cap (F - K) (cap - K) cs (by rfl) hown1 hKF3 hKF4 ?_; clear tok1)
    intro w2 hown2 hgrow2
    obtain ⟨d0, e0, d1, d2, e2⟩ := HP.out w2 hgrow2
    have HCF : Hid (∀ w3 : World, (w3.heap = (w2.setCell ⟨p, 0, none⟩ (.slice (some ⟨gf, 0, none⟩) K cap)).heap ∧ w3.os = w2.os ∧ w3.tape = w2.tape ∧ w3.output = w2.output) →
        Cut p s n ln ls ts w (.returned (.tuple #[])) (w3.setCell ⟨p, 1, none⟩ (.slice (some ⟨gx, 0, none⟩) m 65536))) := fun w3 c => CF.out w2 w3 hgrow2 hown2 c
    clear CF HP hown2 hgrow2 hown1 c0 c1 f0 f1 hcell
    go_wp2_with fail
    obtain ⟨w3, hw3⟩ : ∃ w3, w2.setCell ⟨p, 0, none⟩ (.slice (some ⟨gf, 0, none⟩) K cap) = w3 := ⟨_, rfl⟩
    rw [hw3] at d1 d2 e2
    have HC3 : Hid (Cut p s n ln ls ts w (.returned (.tuple #[])) (w3.drew.setCell ⟨p, 1, none⟩ (.slice (some ⟨gx, 0, none⟩) m 65536))) := HCF.out w3.drew ⟨by rw [← hw3]; rfl, by rw [← hw3]; rfl, by rw [← hw3]; rfl, by rw [← hw3]; rfl⟩
    simp only [hw3]
    clear HCF hw3 d0 e0
    have hw1 : IntKind.i64.wrap ((K : Int) * 65536) = (K : Int) * 65536 := by rw [wrapEq, IntWalk.wrap64_in _ ⟨by omega, by omega⟩]
    have hw2 : IntKind.i64.wrap (m : Int) = (m : Int) := by rw [wrapEq, IntWalk.wrap64_in _ ⟨by omega, by have := HM1.out; omega⟩]
    have hm1 : (m : Int) ≤ 65536 := by have := HM1.out; omega
    go_region_law (fail)
    all_goals (
      go_wp2_with fail
      go_end0
      exact HC3.out)
  · obtain ⟨m, hm⟩ : ∃ m, n = 65536 * s.fulls.length + m := ⟨n - 65536 * s.fulls.length, by omega⟩
    have hm1 : m ≤ s.last.length := by omega
    obtain rfl : K = s.fulls.length := by
      by_cases e : s.fulls.length = 0
      · omega
      · omega
    have hm2 : s.fulls = [] ∨ 0 < m := by
      by_cases e : s.fulls = []
      · exact .inl e
      · have := List.length_pos_iff.2 e
        omega
    obtain ⟨a0, k0, h0'⟩ := ownsRow_form h.own0
    obtain ⟨a1, k1, h1'⟩ := ownsRow_form h.own1
    have hc1 : s.last.length ≤ k1 := by have := le_cap h.own1; rw [h1'] at this; exact this
    have c0 := h.c0
    have c1 := h.c1
    rw [h0'] at c0
    rw [h1'] at c1
    have f1 : w.frozen? ⟨p, 1, none⟩ = false := h.blk.frozen 1
    have HC3 : Hid (Cut p s n ln ls ts w (.returned (.tuple #[])) (w.drew.setCell ⟨p, 1, none⟩ (.slice a1 m k1))) := cut_last (w2 := w.drew) h ⟨rfl, rfl, rfl, rfl⟩ h1' m n hm hm1 hm2
    have hmI : (n : Int) - (s.fulls.length : Int) * 65536 = (m : Int) := by omega
    have hmk : m ≤ k1 := by omega
    have hml : m ≤ 65536 := by omega
    have hw1 : IntKind.i64.wrap ((s.fulls.length : Int) * 65536) = (s.fulls.length : Int) * 65536 := by rw [wrapEq, IntWalk.wrap64_in _ ⟨by omega, by omega⟩]
    have hw2 : IntKind.i64.wrap (m : Int) = (m : Int) := by rw [wrapEq, IntWalk.wrap64_in _ ⟨by omega, by omega⟩]
    have hmk2 : (m : Int) ≤ (k1 : Int) := by omega
    have hKF2 : ¬ (s.fulls.length : Int) < (s.fulls.length : Int) := by omega
    clear h hm hm1 hm2 hml h0' h1' hc1 hlen hlast hn hb ht hr HV1
    generalize s.fulls.length = F at *
    generalize s.last.length = l1 at *
    go_enter Try.func52, Try.ntmps52
    go_wp2_with fail
    go_region_law (fail)
    all_goals (
      go_wp2_with fail
      go_end0
      exact HC3.out)
set_option maxHeartbeats 1000000 in
theorem trunc52b (p : Nat) (s : St) (n K : Nat) (ln : Bool) (ls : Int) (ts : Bool) (w : World) (h : Buf w p s ln ls ts) (ht : s.fulls ≠ [] → s.last ≠ []) (hb : s.bytes.length ≤ 4194304) (hn : n ≤ s.bytes.length) (h0 : 0 < n) (hmod : n % 65536 = 0) (hK : K = n / 65536 - 1) :
    Calls Try.prog 52 #[.pointer (some ⟨p, 0, none⟩), .int .i64 n] w (Cut p s n ln ls ts w) := by
  have hlen := h.len
  have hlast : s.last.length ≤ 65536 := Nat.le_trans (le_cap h.own1) h.cap
  have hF : s.fulls.length ≤ 64 := by omega
  have hmask : bits .and .i64 (n : Int) 65535 = (n : Int) % 65536 := andMask _
  have HV1 : Hid (∃ a1 n1 k1, s.vl = .slice a1 n1 k1) := by obtain ⟨a, k, e⟩ := ownsRow_form h.own1; exact ⟨a, _, k, e⟩
  have q1 : (0 : Int) < (n : Int) := by omega
  have q2 : ((n : Int) % 65536 == 0) = true := by simp; omega
  have q3 : (n : Int) / 65536 = (K : Int) + 1 := by omega
  have hr : 65536 * K ≤ n ∧ n ≤ 65536 * K + 65536 ∧ (K = 0 ∨ 65536 * K < n) := by omega
  clear h0 hmod hK

  by_cases hKF : K < s.fulls.length
  · obtain ⟨m, hm⟩ : ∃ m, n = 65536 * K + m := ⟨n - 65536 * K, by omega⟩
    have hm1 : m ≤ 65536 := by omega
    have hm2 : K = 0 ∨ 0 < m := by omega
    obtain ⟨gf, cap, hv, hg1, hg2⟩ := h.own0.form (by omega)
    have hvb : s.vf.ownBlock = some gf := by rw [hv]; rfl
    have hown := h.own0
    have c0 := h.c0
    rw [hv] at c0 hown
    have hFc : s.fulls.length ≤ cap := by have := le_cap hown; exact this
    have hcell := hown.cellAt K (by omega)
    rw [List.getElem?_map, List.getElem?_eq_getElem hKF] at hcell
    simp only [Option.map_some] at hcell
    have c1 := h.c1
    have hp := h.blk.lt
    have f0 : w.frozen? ⟨p, 0, none⟩ = false := h.blk.frozen 0
    have f1 : w.frozen? ⟨p, 1, none⟩ = false := h.blk.frozen 1
    have hpg : ¬ gf = p := by omega
    have hown1 : (w.setCell ⟨p, 1, none⟩ (fullV (s.fulls[K]).1)).ownsRow (p + 1) 25 1 (.slice (some ⟨gf, 0, none⟩) s.fulls.length cap) s.fulls.length (s.fulls.map (fun x => fullV x.1)) := ownsRow_setCell_below hown (a := ⟨p, 1, none⟩) (Nat.lt_succ_self p) _
    have CF : Hid (∀ w2 w3 : World, (w.setCell ⟨p, 1, none⟩ (fullV (s.fulls[K]).1)).grownBy w2 (some gf) → w2.ownsRow (p + 1) 25 1 (.slice (some ⟨gf, 0, none⟩) K cap) K ((s.fulls.map (fun x => fullV x.1)).take K) →
        (w3.heap = (w2.setCell ⟨p, 0, none⟩ (.slice (some ⟨gf, 0, none⟩) K cap)).heap ∧ w3.os = w2.os ∧ w3.tape = w2.tape ∧ w3.output = w2.output) →
        Cut p s n ln ls ts w (.returned (.tuple #[])) (w3.setCell ⟨p, 1, none⟩ (.slice (some ⟨(s.fulls[K]).1, 0, none⟩) m 65536))) := fun w2 w3 a b c => cut_full h hKF hvb a b m n hm hm1 hm2 c
    have HP : Hid (∀ w2 : World, (w.setCell ⟨p, 1, none⟩ (fullV (s.fulls[K]).1)).grownBy w2 (some gf) → w2.cell? ⟨p, 0, none⟩ = some (.slice (some ⟨gf, 0, none⟩) s.fulls.length cap) ∧ w2.frozen? ⟨p, 0, none⟩ = false ∧
        (w2.setCell ⟨p, 0, none⟩ (.slice (some ⟨gf, 0, none⟩) K cap)).cell? ⟨p, 0, none⟩ = some (.slice (some ⟨gf, 0, none⟩) K cap) ∧ (w2.setCell ⟨p, 0, none⟩ (.slice (some ⟨gf, 0, none⟩) K cap)).cell? ⟨p, 1, none⟩ = some (fullV (s.fulls[K]).1) ∧ (w2.setCell ⟨p, 0, none⟩ (.slice (some ⟨gf, 0, none⟩) K cap)).frozen? ⟨p, 1, none⟩ = false) := by
      intro w2 hgr
      have hbp : w2.heap[p]? = (w.setCell ⟨p, 1, none⟩ (fullV (s.fulls[K]).1)).heap[p]? := hgr.block p (by simpa [World.setCell] using hp) (by simp; omega)
      have hb2 : Blk w2 p 53 5 := (h.blk.set p 1 (fullV (s.fulls[K]).1)).of_heap hbp
      refine ⟨?_, hb2.frozen 0, hb2.cell_same (by decide) _, ?_, (hb2.set p 0 _).frozen 1⟩
      · rw [World.cell?_of_block (w := w.setCell ⟨p, 1, none⟩ (fullV (s.fulls[K]).1)) (a := ⟨p, 0, none⟩) hbp, cell_other (by decide)]; exact c0
      · rw [cell_other (by decide), World.cell?_of_block (w := w.setCell ⟨p, 1, none⟩ (fullV (s.fulls[K]).1)) (a := ⟨p, 1, none⟩) hbp]; exact h.blk.cell_same (by decide) _
    obtain ⟨j0, hj, hy0, hy1, hy2⟩ := info_parts info25
    clear h hv hvb hown hlen hlast hn hb ht hm2
    have hKF2 : (K : Int) < (s.fulls.length : Int) := by omega
    have hKc : ¬ cap = K := by omega
    have hKc2 : K ≤ cap := by omega
    have hmI : (n : Int) - (K : Int) * 65536 = (m : Int) := by omega
    clear hm
    generalize s.fulls.map (fun x => fullV x.1) = cs at *
    generalize (s.fulls[K]).1 = gx at *
    unfold fullV at *
    generalize s.fulls.length = F at *
    have hKF3 : K + (F - K) = F := by omega
    have hKF4 : 0 < F - K := by omega
    have HM1 : Hid (m ≤ 65536) := hm1
    clear hm1 hr hKF hg1 hg2 hFc
    obtain ⟨a1, n1, k1, hv1⟩ : ∃ a1 n1 k1, s.vl = .slice a1 n1 k1 := ⟨_, _, _, HV1.out.choose_spec.choose_spec.choose_spec⟩
    rw [hv1] at c1
    clear hv1 HV1
    have tok1 : True := trivial
    go_enter Try.func52, Try.ntmps52
    go_wp2_with (have _t := tok1; refine wpList_clear _ rfl (.tmp 38) 49 rfl (p + 1) 25 j0 Try.underlying49 hj hy0 gf K F cap (F - K) (cap - K) cs (by rfl) hown1 hKF3 hKF4 ?_; clear tok1)
    intro w2 hown2 hgrow2
    obtain ⟨d0, e0, d1, d2, e2⟩ := HP.out w2 hgrow2
    have HCF : Hid (∀ w3 : World, (w3.heap = (w2.setCell ⟨p, 0, none⟩ (.slice (some ⟨gf, 0, none⟩) K cap)).heap ∧ w3.os = w2.os ∧ w3.tape = w2.tape ∧ w3.output = w2.output) →
        Cut p s n ln ls ts w (.returned (.tuple #[])) (w3.setCell ⟨p, 1, none⟩ (.slice (some ⟨gx, 0, none⟩) m 65536))) := fun w3 c => CF.out w2 w3 hgrow2 hown2 c
    clear CF HP hown2 hgrow2 hown1 c0 c1 f0 f1 hcell
    go_wp2_with fail
    obtain ⟨w3, hw3⟩ : ∃ w3, w2.setCell ⟨p, 0, none⟩ (.slice (some ⟨gf, 0, none⟩) K cap) = w3 := ⟨_, rfl⟩
    rw [hw3] at d1 d2 e2
    have HC3 : Hid (Cut p s n ln ls ts w (.returned (.tuple #[])) (w3.drew.setCell ⟨p, 1, none⟩ (.slice (some ⟨gx, 0, none⟩) m 65536))) := HCF.out w3.drew ⟨by rw [← hw3]; rfl, by rw [← hw3]; rfl, by rw [← hw3]; rfl, by rw [← hw3]; rfl⟩
    simp only [hw3]
    clear HCF hw3 d0 e0
    have hw1 : IntKind.i64.wrap ((K : Int) * 65536) = (K : Int) * 65536 := by rw [wrapEq, IntWalk.wrap64_in _ ⟨by omega, by omega⟩]
    have hw2 : IntKind.i64.wrap (m : Int) = (m : Int) := by rw [wrapEq, IntWalk.wrap64_in _ ⟨by omega, by have := HM1.out; omega⟩]
    have hm1 : (m : Int) ≤ 65536 := by have := HM1.out; omega
    go_region_law (fail)
    all_goals (
      go_wp2_with fail
      go_end0
      exact HC3.out)
  · obtain ⟨m, hm⟩ : ∃ m, n = 65536 * s.fulls.length + m := ⟨n - 65536 * s.fulls.length, by omega⟩
    have hm1 : m ≤ s.last.length := by omega
    obtain rfl : K = s.fulls.length := by
      by_cases e : s.fulls.length = 0
      · omega
      · omega
    have hm2 : s.fulls = [] ∨ 0 < m := by
      by_cases e : s.fulls = []
      · exact .inl e
      · have := List.length_pos_iff.2 e
        omega
    obtain ⟨a0, k0, h0'⟩ := ownsRow_form h.own0
    obtain ⟨a1, k1, h1'⟩ := ownsRow_form h.own1
    have hc1 : s.last.length ≤ k1 := by have := le_cap h.own1; rw [h1'] at this; exact this
    have c0 := h.c0
    have c1 := h.c1
    rw [h0'] at c0
    rw [h1'] at c1
    have f1 : w.frozen? ⟨p, 1, none⟩ = false := h.blk.frozen 1
    have HC3 : Hid (Cut p s n ln ls ts w (.returned (.tuple #[])) (w.drew.setCell ⟨p, 1, none⟩ (.slice a1 m k1))) := cut_last (w2 := w.drew) h ⟨rfl, rfl, rfl, rfl⟩ h1' m n hm hm1 hm2
    have hmI : (n : Int) - (s.fulls.length : Int) * 65536 = (m : Int) := by omega
    have hmk : m ≤ k1 := by omega
    have hml : m ≤ 65536 := by omega
    have hw1 : IntKind.i64.wrap ((s.fulls.length : Int) * 65536) = (s.fulls.length : Int) * 65536 := by rw [wrapEq, IntWalk.wrap64_in _ ⟨by omega, by omega⟩]
    have hw2 : IntKind.i64.wrap (m : Int) = (m : Int) := by rw [wrapEq, IntWalk.wrap64_in _ ⟨by omega, by omega⟩]
    have hmk2 : (m : Int) ≤ (k1 : Int) := by omega
    have hKF2 : ¬ (s.fulls.length : Int) < (s.fulls.length : Int) := by omega
    clear h hm hm1 hm2 hml h0' h1' hc1 hlen hlast hn hb ht hr HV1
    generalize s.fulls.length = F at *
    generalize s.last.length = l1 at *
    go_enter Try.func52, Try.ntmps52
    go_wp2_with fail
    go_region_law (fail)
    all_goals (
      go_wp2_with fail
      go_end0
      exact HC3.out)
set_option maxHeartbeats 1000000 in
theorem trunc52a (p : Nat) (s : St) (n K : Nat) (ln : Bool) (ls : Int) (ts : Bool) (w : World) (h : Buf w p s ln ls ts) (ht : s.fulls ≠ [] → s.last ≠ []) (hb : s.bytes.length ≤ 4194304) (hn : n ≤ s.bytes.length) (h0 : n = 0) (hK : K = 0) :
    Calls Try.prog 52 #[.pointer (some ⟨p, 0, none⟩), .int .i64 n] w (Cut p s n ln ls ts w) := by
  have hlen := h.len
  have hlast : s.last.length ≤ 65536 := Nat.le_trans (le_cap h.own1) h.cap
  have hF : s.fulls.length ≤ 64 := by omega
  have hmask : bits .and .i64 (n : Int) 65535 = (n : Int) % 65536 := andMask _
  have HV1 : Hid (∃ a1 n1 k1, s.vl = .slice a1 n1 k1) := by obtain ⟨a, k, e⟩ := ownsRow_form h.own1; exact ⟨a, _, k, e⟩
  have q1 : ¬ (0 : Int) < (n : Int) := by omega
  have hr : 65536 * K ≤ n ∧ n ≤ 65536 * K + 65536 ∧ (K = 0 ∨ 65536 * K < n) := by omega
  have q3 : (n : Int) / 65536 = (K : Int) := by omega
  clear h0 hK

  by_cases hKF : K < s.fulls.length
  · obtain ⟨m, hm⟩ : ∃ m, n = 65536 * K + m := ⟨n - 65536 * K, by omega⟩
    have hm1 : m ≤ 65536 := by omega
    have hm2 : K = 0 ∨ 0 < m := by omega
    obtain ⟨gf, cap, hv, hg1, hg2⟩ := h.own0.form (by omega)
    have hvb : s.vf.ownBlock = some gf := by rw [hv]; rfl
    have hown := h.own0
    have c0 := h.c0
    rw [hv] at c0 hown
    have hFc : s.fulls.length ≤ cap := by have := le_cap hown; exact this
    have hcell := hown.cellAt K (by omega)
    rw [List.getElem?_map, List.getElem?_eq_getElem hKF] at hcell
    simp only [Option.map_some] at hcell
    have c1 := h.c1
    have hp := h.blk.lt
    have f0 : w.frozen? ⟨p, 0, none⟩ = false := h.blk.frozen 0
    have f1 : w.frozen? ⟨p, 1, none⟩ = false := h.blk.frozen 1
    have hpg : ¬ gf = p := by omega
    have hown1 : (w.setCell ⟨p, 1, none⟩ (fullV (s.fulls[K]).1)).ownsRow (p + 1) 25 1 (.slice (some ⟨gf, 0, none⟩) s.fulls.length cap) s.fulls.length (s.fulls.map (fun x => fullV x.1)) := ownsRow_setCell_below hown (a := ⟨p, 1, none⟩) (Nat.lt_succ_self p) _
    have CF : Hid (∀ w2 w3 : World, (w.setCell ⟨p, 1, none⟩ (fullV (s.fulls[K]).1)).grownBy w2 (some gf) → w2.ownsRow (p + 1) 25 1 (.slice (some ⟨gf, 0, none⟩) K cap) K ((s.fulls.map (fun x => fullV x.1)).take K) →
        (w3.heap = (w2.setCell ⟨p, 0, none⟩ (.slice (some ⟨gf, 0, none⟩) K cap)).heap ∧ w3.os = w2.os ∧ w3.tape = w2.tape ∧ w3.output = w2.output) →
        Cut p s n ln ls ts w (.returned (.tuple #[])) (w3.setCell ⟨p, 1, none⟩ (.slice (some ⟨(s.fulls[K]).1, 0, none⟩) m 65536))) := fun w2 w3 a b c => cut_full h hKF hvb a b m n hm hm1 hm2 c
    have HP : Hid (∀ w2 : World, (w.setCell ⟨p, 1, none⟩ (fullV (s.fulls[K]).1)).grownBy w2 (some gf) → w2.cell? ⟨p, 0, none⟩ = some (.slice (some ⟨gf, 0, none⟩) s.fulls.length cap) ∧ w2.frozen? ⟨p, 0, none⟩ = false ∧
        (w2.setCell ⟨p, 0, none⟩ (.slice (some ⟨gf, 0, none⟩) K cap)).cell? ⟨p, 0, none⟩ = some (.slice (some ⟨gf, 0, none⟩) K cap) ∧ (w2.setCell ⟨p, 0, none⟩ (.slice (some ⟨gf, 0, none⟩) K cap)).cell? ⟨p, 1, none⟩ = some (fullV (s.fulls[K]).1) ∧ (w2.setCell ⟨p, 0, none⟩ (.slice (some ⟨gf, 0, none⟩) K cap)).frozen? ⟨p, 1, none⟩ = false) := by
      intro w2 hgr
      have hbp : w2.heap[p]? = (w.setCell ⟨p, 1, none⟩ (fullV (s.fulls[K]).1)).heap[p]? := hgr.block p (by simpa [World.setCell] using hp) (by simp; omega)
      have hb2 : Blk w2 p 53 5 := (h.blk.set p 1 (fullV (s.fulls[K]).1)).of_heap hbp
      refine ⟨?_, hb2.frozen 0, hb2.cell_same (by decide) _, ?_, (hb2.set p 0 _).frozen 1⟩
      · rw [World.cell?_of_block (w := w.setCell ⟨p, 1, none⟩ (fullV (s.fulls[K]).1)) (a := ⟨p, 0, none⟩) hbp, cell_other (by decide)]; exact c0
      · rw [cell_other (by decide), World.cell?_of_block (w := w.setCell ⟨p, 1, none⟩ (fullV (s.fulls[K]).1)) (a := ⟨p, 1, none⟩) hbp]; exact h.blk.cell_same (by decide) _
    obtain ⟨j0, hj, hy0, hy1, hy2⟩ := info_parts info25
    clear h hv hvb hown hlen hlast hn hb ht hm2
    have hKF2 : (K : Int) < (s.fulls.length : Int) := by omega
    have hKc : ¬ cap = K := by omega
    have hKc2 : K ≤ cap := by omega
    have hmI : (n : Int) - (K : Int) * 65536 = (m : Int) := by omega
    clear hm
    generalize s.fulls.map (fun x => fullV x.1) = cs at *
    generalize (s.fulls[K]).1 = gx at *
    unfold fullV at *
    generalize s.fulls.length = F at *
    have hKF3 : K + (F - K) = F := by omega
    have hKF4 : 0 < F - K := by omega
    have HM1 : Hid (m ≤ 65536) := hm1
    clear hm1 hr hKF hg1 hg2 hFc
    obtain ⟨a1, n1, k1, hv1⟩ : ∃ a1 n1 k1, s.vl = .slice a1 n1 k1 := ⟨_, _, _, HV1.out.choose_spec.choose_spec.choose_spec⟩
    rw [hv1] at c1
    clear hv1 HV1
    have tok1 : True := trivial
    go_enter Try.func52, Try.ntmps52
    go_wp2_with (have _t := tok1; refine wpList_clear _ rfl (.tmp 38) 49 rfl (p + 1) 25 j0 Try.underlying49 hj hy0 gf K F cap (F - K) (cap - K) cs (by rfl) hown1 hKF3 hKF4 ?_; clear tok1)
    intro w2 hown2 hgrow2
    obtain ⟨d0, e0, d1, d2, e2⟩ := HP.out w2 hgrow2
    have HCF : Hid (∀ w3 : World, (w3.heap = (w2.setCell ⟨p, 0, none⟩ (.slice (some ⟨gf, 0, none⟩) K cap)).heap ∧ w3.os = w2.os ∧ w3.tape = w2.tape ∧ w3.output = w2.output) →
        Cut p s n ln ls ts w (.returned (.tuple #[])) (w3.setCell ⟨p, 1, none⟩ (.slice (some ⟨gx, 0, none⟩) m 65536))) := fun w3 c => CF.out w2 w3 hgrow2 hown2 c
    clear CF HP hown2 hgrow2 hown1 c0 c1 f0 f1 hcell
    go_wp2_with fail
    obtain ⟨w3, hw3⟩ : ∃ w3, w2.setCell ⟨p, 0, none⟩ (.slice (some ⟨gf, 0, none⟩) K cap) = w3 := ⟨_, rfl⟩
    rw [hw3] at d1 d2 e2
    have HC3 : Hid (Cut p s n ln ls ts w (.returned (.tuple #[])) (w3.drew.setCell ⟨p, 1, none⟩ (.slice (some ⟨gx, 0, none⟩) m 65536))) := HCF.out w3.drew ⟨by rw [← hw3]; rfl, by rw [← hw3]; rfl, by rw [← hw3]; rfl, by rw [← hw3]; rfl⟩
    simp only [hw3]
    clear HCF hw3 d0 e0
    have hw1 : IntKind.i64.wrap ((K : Int) * 65536) = (K : Int) * 65536 := by rw [wrapEq, IntWalk.wrap64_in _ ⟨by omega, by omega⟩]
    have hw2 : IntKind.i64.wrap (m : Int) = (m : Int) := by rw [wrapEq, IntWalk.wrap64_in _ ⟨by omega, by have := HM1.out; omega⟩]
    have hm1 : (m : Int) ≤ 65536 := by have := HM1.out; omega
    go_region_law (fail)
    all_goals (
      go_wp2_with fail
      go_end0
      exact HC3.out)
  · obtain ⟨m, hm⟩ : ∃ m, n = 65536 * s.fulls.length + m := ⟨n - 65536 * s.fulls.length, by omega⟩
    have hm1 : m ≤ s.last.length := by omega
    obtain rfl : K = s.fulls.length := by
      by_cases e : s.fulls.length = 0
      · omega
      · omega
    have hm2 : s.fulls = [] ∨ 0 < m := by
      by_cases e : s.fulls = []
      · exact .inl e
      · have := List.length_pos_iff.2 e
        omega
    obtain ⟨a0, k0, h0'⟩ := ownsRow_form h.own0
    obtain ⟨a1, k1, h1'⟩ := ownsRow_form h.own1
    have hc1 : s.last.length ≤ k1 := by have := le_cap h.own1; rw [h1'] at this; exact this
    have c0 := h.c0
    have c1 := h.c1
    rw [h0'] at c0
    rw [h1'] at c1
    have f1 : w.frozen? ⟨p, 1, none⟩ = false := h.blk.frozen 1
    have HC3 : Hid (Cut p s n ln ls ts w (.returned (.tuple #[])) (w.drew.setCell ⟨p, 1, none⟩ (.slice a1 m k1))) := cut_last (w2 := w.drew) h ⟨rfl, rfl, rfl, rfl⟩ h1' m n hm hm1 hm2
    have hmI : (n : Int) - (s.fulls.length : Int) * 65536 = (m : Int) := by omega
    have hmk : m ≤ k1 := by omega
    have hml : m ≤ 65536 := by omega
    have hw1 : IntKind.i64.wrap ((s.fulls.length : Int) * 65536) = (s.fulls.length : Int) * 65536 := by rw [wrapEq, IntWalk.wrap64_in _ ⟨by omega, by omega⟩]
    have hw2 : IntKind.i64.wrap (m : Int) = (m : Int) := by rw [wrapEq, IntWalk.wrap64_in _ ⟨by omega, by omega⟩]
    have hmk2 : (m : Int) ≤ (k1 : Int) := by omega
    have hKF2 : ¬ (s.fulls.length : Int) < (s.fulls.length : Int) := by omega
    clear h hm hm1 hm2 hml h0' h1' hc1 hlen hlast hn hb ht hr HV1
    generalize s.fulls.length = F at *
    generalize s.last.length = l1 at *
    go_enter Try.func52, Try.ntmps52
    go_wp2_with fail
    go_region_law (fail)
    all_goals (
      go_wp2_with fail
      go_end0
      exact HC3.out)
theorem trunc52 (p : Nat) (s : St) (n : Nat) (ln : Bool) (ls : Int) (ts : Bool) (w : World) (h : Buf w p s ln ls ts) (ht : s.fulls ≠ [] → s.last ≠ []) (hb : s.bytes.length ≤ 4194304) (hn : n ≤ s.bytes.length) :
    Calls Try.prog 52 #[.pointer (some ⟨p, 0, none⟩), .int .i64 n] w (Cut p s n ln ls ts w) := by
  by_cases h0 : n = 0
  · exact trunc52a p s n 0 ln ls ts w h ht hb hn h0 rfl
  · by_cases hm : n % 65536 = 0
    · exact trunc52b p s n _ ln ls ts w h ht hb hn (by omega) hm rfl
    · exact trunc52c p s n _ ln ls ts w h ht hb hn (by omega) hm rfl
end EL
end Go.Proofs.Qxb6001700a
