/- write. -/
import Derived.Test.Qxb6001700aWrite
namespace Go.Proofs.Qxb6001700a
open Go.ChangeShapes Go.WideShapes Go.ChangeAt Go.RowKit
set_option linter.unusedVariables false
set_option linter.unusedSimpArgs false
namespace EL

set_option maxHeartbeats 1000000 in
theorem write46 (p : Nat) (s : St) (xs : List UInt8) (b off c : Nat) (ln : Bool) (ls : Int) (ts : Bool) (w : World) (h : Buf w p s ln ls ts) (ht : s.fulls ≠ [] → s.last ≠ []) (hsrc : BS w b off xs) (hap : ¬ s.fp p b) (hb : s.bytes.length + xs.length ≤ 4194304) (hc : xs.length ≤ c) (hc2 : c ≤ 9223372036854775807) :
    Calls Try.prog 46 #[.pointer (some ⟨p, 0, none⟩), .slice (some ⟨b, off, none⟩) xs.length c] w (Wrote p s xs ln ls ts w) := by
  obtain ⟨i0, hi, hz0, hz1, hz2⟩ := info_parts info5
  have hle := le_cap h.own1
  have c1 := h.c1
  have hcap := h.cap
  have hbl := h.len
  obtain ⟨a1, k1, h1⟩ := ownsRow_form h.own1
  rw [h1] at c1
  by_cases hfit : s.last.length + xs.length ≤ capOf s.vl
  · have hq : (s.last.length : Int) + (xs.length : Int) ≤ (k1 : Int) := by rw [h1] at hfit; simp only [capOf] at hfit; omega
    rcases h.own1.2 with ⟨hv, hn0⟩ | ⟨g, cap, cur, hv, _⟩
    · have hx : xs = [] := by rw [hv] at hfit; simp only [capOf] at hfit; exact List.eq_nil_of_length_eq_zero (by omega)
      subst hx
      rw [hv] at h1
      simp only [Value.slice.injEq] at h1
      obtain ⟨rfl, hn1, rfl⟩ := h1
      rw [← hn1] at c1
      have hp := h.blk.lt
      have f1 : w.frozen? ⟨p, 1, none⟩ = false := h.blk.frozen 1
      have WN : Hid (∀ w0 w1, (∃ n, w0 = w.drewN n) → w0.grownBy w1 none → Wrote p s [] ln ls ts w (.returned (.tuple #[])) (w1.setCell ⟨p, 1, none⟩ (.slice none 0 0)) ∧ w1.cell? ⟨p, 1, none⟩ = some (.slice none 0 0) ∧ w1.frozen? ⟨p, 1, none⟩ = false) := by
        rintro w0 w1 ⟨n, rfl⟩ hg
        have hg2 : w.grownBy w1 none := ⟨hg.os, hg.tape, hg.output, hg.size, hg.block⟩
        have hbk : w1.heap[p]? = w.heap[p]? := hg2.block p hp (by simp)
        exact ⟨wrote_nil h hv ht hg2, (World.cell?_of_block (w := w) (a := ⟨p, 1, none⟩) hbk).trans c1, (World.frozen?_of_block (w := w) (a := ⟨p, 1, none⟩) hbk).trans f1⟩
      clear hle hfit hcap hbl hv hn0 hn1 ht h hsrc hq
      simp only [List.length_nil] at hb hc ⊢
      go_enter Try.func46, Try.ntmps46
      go_wp2_with fail
      go_quiet (fail)
      have HNL : (w.drewN nq).ownsRow (p + 1) 5 1 (.slice none 0 0) 0 [] := World.ownsRow_nil _ _ _ _
      go_wp2_with (at_builtin; refine wpList_append_own _ rfl (.tmp 22) (.tmp 23) 25 rfl (p + 1) 5 i0 _ 1 1 Try.underlying25 hi hz0 hz1 hz2 rfl (by decide) (.slice none 0 0) 0 [] (by rfl) HNL ⟨b, off, none⟩ 0 c [] (by rfl) rfl (by simp) (by simp) (by decide) (by decide) ?c5 ?_)
      case c5 => show p + 1 ≤ w.heap.size; omega
      intro v' w1 hown1 hgrow1 hiff
      subst hiff
      obtain ⟨W1, W2, W3⟩ := WN.out _ w1 ⟨nq, rfl⟩ hgrow1
      have HW : Hid (Wrote p s [] ln ls ts w (.returned (.tuple #[])) (w1.setCell ⟨p, 1, none⟩ (.slice none 0 0))) := W1
      clear WN hown1 hgrow1 W1
      go_wp2_with fail
      go_end0
      exact HW.out
    · have hv2 : s.vl = .slice (some ⟨g, 0, none⟩) s.last.length cap := hv
      rw [hv] at h1
      simp only [Value.slice.injEq] at h1
      obtain ⟨rfl, -, rfl⟩ := h1
      have hp := h.blk.lt
      have hl2 : s.last.length ≤ 4194304 := by omega
      have f1 : w.frozen? ⟨p, 1, none⟩ = false := h.blk.frozen 1
      have hown := h.own1
      rw [hv] at hown hfit
      simp only [capOf] at hfit
      have HO : Hid (∀ n, (w.drewN n).ownsRow (p + 1) 5 1 (.slice (some ⟨g, 0, none⟩) s.last.length cap) s.last.length (s.last.map bv)) := fun n => hown
      have HNW : Hid (∀ n, ∀ j u, (xs.map bv)[j]? = some u → (w.drewN n).cell? ((⟨b, off, none⟩ : Addr).add j) = some u) := fun n => hsrc.news
      have WN : Hid (∀ n w1, (w.drewN n).grownBy w1 (some g) → w1.ownsRow (p + 1) 5 1 (.slice (some ⟨g, 0, none⟩) (s.last.length + xs.length) cap) (s.last.length + xs.length) (s.last.map bv ++ xs.map bv) →
          Wrote p s xs ln ls ts w (.returned (.tuple #[])) (w1.setCell ⟨p, 1, none⟩ (.slice (some ⟨g, 0, none⟩) (s.last.length + xs.length) cap)) ∧ w1.cell? ⟨p, 1, none⟩ = some (.slice (some ⟨g, 0, none⟩) s.last.length cap) ∧ w1.frozen? ⟨p, 1, none⟩ = false) := by
        intro n w1 hg h2
        have hne : some p ≠ some g := fun e => by have := hown.lt p e.symm; omega
        have hbk : w1.heap[p]? = w.heap[p]? := hg.block p hp hne
        exact ⟨wrote_of (Kept.refl _ _) rfl h hv2 (below_drewN (Below.refl _ _) n) hg xs (.inr ht) h2, (World.cell?_of_block (w := w) (a := ⟨p, 1, none⟩) hbk).trans c1, (World.frozen?_of_block (w := w) (a := ⟨p, 1, none⟩) hbk).trans f1⟩
      have HXL : Hid ((xs.map bv).length = xs.length * 1) := by show _ = _; simp
      have H1C : Hid (∀ u ∈ xs.map bv, u.oneCell' = true) := bv_one _
      clear hle hcap hbl hv hv2 ht h hsrc hown
      generalize s.last.map bv = cs at *
      generalize s.last.length = n at *
      generalize xs.map bv = nw at *
      go_enter Try.func46, Try.ntmps46
      go_wp2_with fail
      go_quiet (fail)
      go_wp2_with (at_builtin; refine wpList_append_own_spare _ rfl (.tmp 22) (.tmp 23) 25 rfl (p + 1) 5 i0 1 Try.underlying25 hi hz1 g n cap cs (by rfl) (HO.out nq) ⟨b, off, none⟩ xs.length c nw (by rfl) HXL.out (HNW.out nq) H1C.out hfit ?_; intro w1 hown1 hgrow1; obtain ⟨W1, W2, W3⟩ := WN.out _ w1 hgrow1 hown1; have HW : Hid (Wrote p s xs ln ls ts w (.returned (.tuple #[])) (w1.setCell ⟨p, 1, none⟩ (.slice (some ⟨g, 0, none⟩) (n + xs.length) cap))) := W1; clear WN hown1 hgrow1 W1)
      go_end0
      exact HW.out
  · have hq : ¬ ((s.last.length : Int) + (xs.length : Int) ≤ (k1 : Int)) := by rw [h1] at hfit; simp only [capOf] at hfit; omega
    have HH : Hid (Buf w p s ln ls ts) := h
    have hx0 : 0 < xs.length := by omega
    have hl2 : s.last.length ≤ 4194304 := by omega
    clear hle hfit hcap hbl h1 h ht
    go_enter Try.func46, Try.ntmps46
    go_wp2_with fail
    go_quiet (fail)
    go_wp2_with fail
    refine (writeOn54 p s xs b off c ln ls ts _ (HH.out.drewN _) hsrc hap hx0 hb hc hc2).mono ?_
    rintro e w2 ⟨rfl, s1, hB, hBy, hT, hK⟩
    have HW : Hid (Wrote p s xs ln ls ts w (.returned (.tuple #[])) w2) := ⟨rfl, s1, hB, hBy, hT, (Kept.drewN (s.fp p) w _).trans hK⟩
    clear hB hBy hT hK
    go_wp2_with fail
    go_end0
    exact HW.out
end EL
end Go.Proofs.Qxb6001700a
