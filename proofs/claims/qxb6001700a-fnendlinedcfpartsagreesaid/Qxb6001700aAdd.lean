/- add, write, writeOn. -/
import Derived.Test.Qxb6001700aGrow
namespace Go.Proofs.Qxb6001700a
open Go.ChangeShapes Go.WideShapes Go.ChangeAt Go.RowKit
set_option linter.unusedVariables false
set_option linter.unusedSimpArgs false
namespace EL

/-- The buffer holds xs more. -/
def Wrote (p : Nat) (s : St) (xs : List UInt8) (ln : Bool) (ls : Int) (ts : Bool) (w : World) (e : Ending) (w' : World) : Prop :=
  e = .returned (.tuple #[]) ∧ ∃ s', Buf w' p s' ln ls ts ∧ s'.bytes = s.bytes ++ xs ∧ (s'.fulls ≠ [] → s'.last ≠ []) ∧ Kept (s.fp p) (s'.fp p) w w'

/-- Behind an append with room, and its store. -/
theorem put_last {p : Nat} {s : St} {ln : Bool} {ls : Int} {ts : Bool} {W W0 w1 : World} (h : Buf W p s ln ls ts) {g cap : Nat} (hv : s.vl = .slice (some ⟨g, 0, none⟩) s.last.length cap) (hW0 : Below W.heap.size W W0) (hgrow : W0.grownBy w1 (some g))
    (xs : List UInt8) (hown : w1.ownsRow (p + 1) 5 1 (.slice (some ⟨g, 0, none⟩) (s.last.length + xs.length) cap) (s.last.length + xs.length) (s.last.map bv ++ xs.map bv)) :
    Buf (w1.setCell ⟨p, 1, none⟩ (.slice (some ⟨g, 0, none⟩) (s.last.length + xs.length) cap)) p { s with vl := .slice (some ⟨g, 0, none⟩) (s.last.length + xs.length) cap, last := s.last ++ xs } ln ls ts ∧
    Kept (s.fp p) (St.fp { s with vl := .slice (some ⟨g, 0, none⟩) (s.last.length + xs.length) cap, last := s.last ++ xs } p) W (w1.setCell ⟨p, 1, none⟩ (.slice (some ⟨g, 0, none⟩) (s.last.length + xs.length) cap)) := by
  have hob : s.vl.ownBlock = some g := by rw [hv]; rfl
  have hcap := h.cap
  have hmore := h.more
  rw [hv] at hcap hmore
  refine ⟨h.newLast (fun k hk => ?_) _ _ ?_ ?_ hcap hmore, ?_⟩
  · have hlt : k < W.heap.size := by
      rcases hk with h0 | h0 | h0
      · exact (h.lt (.inl h0)).2
      · exact (h.lt (.inr (.inl h0))).2
      · exact (h.lt (.inr (.inr (.inr h0)))).2
    have hne : some k ≠ some g := by
      intro e
      rw [← e] at hob
      rcases hk with rfl | h0 | ⟨x, hx, rfl⟩
      · have := h.own1.lt _ hob; omega
      · exact ownsRow_apart h.own0 h.own1 (by decide) h0 hob
      · exact h.apart x hx hob
    exact (hgrow.block k (Nat.lt_of_lt_of_le hlt hW0.size) hne).trans (hW0.block k hlt)
  · have : (s.last ++ xs).length = s.last.length + xs.length := List.length_append
    rw [this, List.map_append]
    exact hown
  · intro x hx e
    exact h.apart x hx (by rw [hob]; exact e)
  · have hk0 : Kept (s.fp p) (s.fp p) W W0 := Kept.of_below hW0
    have hk1 : Kept (s.fp p) (s.fp p) W w1 := hk0.trans (Kept.of_grown hgrow (fun k hk => .inr (.inr (.inl (by rw [hob]; exact hk)))))
    refine (hk1.set (.inl rfl) 1 _).to' (fun k hk => ?_)
    rcases newLast_fp hk with h0 | h0
    · exact .inl h0
    · exact .inl (.inr (.inr (.inl (by rw [hob]; exact h0))))

theorem wrote_of {p : Nat} {s s1 : St} {ln : Bool} {ls : Int} {ts : Bool} {w W W0 w1 : World} (hk : Kept (s.fp p) (s1.fp p) w W) (hby : s1.bytes = s.bytes) (h : Buf W p s1 ln ls ts) {g cap : Nat} (hv : s1.vl = .slice (some ⟨g, 0, none⟩) s1.last.length cap) (hW0 : Below W.heap.size W W0) (hgrow : W0.grownBy w1 (some g))
    (xs : List UInt8) (hxs : xs ≠ [] ∨ (s1.fulls ≠ [] → s1.last ≠ [])) (hown : w1.ownsRow (p + 1) 5 1 (.slice (some ⟨g, 0, none⟩) (s1.last.length + xs.length) cap) (s1.last.length + xs.length) (s1.last.map bv ++ xs.map bv)) :
    Wrote p s xs ln ls ts w (.returned (.tuple #[])) (w1.setCell ⟨p, 1, none⟩ (.slice (some ⟨g, 0, none⟩) (s1.last.length + xs.length) cap)) := by
  obtain ⟨h1, h2⟩ := put_last h hv hW0 hgrow xs hown
  refine ⟨rfl, _, h1, ?_, ?_, hk.trans h2⟩
  · rw [← hby]; simp [St.bytes]
  · intro hne e
    simp at e
    rcases hxs with h0 | h0
    · exact h0 e.2
    · exact h0 hne e.1

theorem form_cap {w : World} {base : Nat} {e : TypeId} {v : Value} {n : Nat} {xs : List Value} (h : w.ownsRow base e 1 v n xs) (hc : n < capOf v) : ∃ g cap, v = .slice (some ⟨g, 0, none⟩) n cap ∧ n < cap := by
  rcases h.2 with ⟨rfl, _⟩ | ⟨g, cap, cur, rfl, _⟩
  · simp [capOf] at hc
  · exact ⟨g, cap, rfl, hc⟩
theorem le_cap {w : World} {base : Nat} {e : TypeId} {v : Value} {n : Nat} {xs : List Value} (h : w.ownsRow base e 1 v n xs) : n ≤ capOf v := by
  rcases h.2 with ⟨rfl, rfl⟩ | ⟨g, cap, cur, rfl, _, _, h1, _⟩
  · simp
  · exact h1

set_option maxHeartbeats 1000000 in
theorem add55 (p : Nat) (s : St) (c : UInt8) (ln : Bool) (ls : Int) (ts : Bool) (w : World) (h : Buf w p s ln ls ts) (hb : s.bytes.length ≤ 4194304) :
    Calls Try.prog 55 #[.pointer (some ⟨p, 0, none⟩), .int .u8 (c.toNat : Int)] w (Wrote p s [c] ln ls ts w) := by
  obtain ⟨i0, hi, hz0, hz1, hz2⟩ := info_parts info5
  have hle := le_cap h.own1
  have c1 := h.c1
  obtain ⟨a1, k1, h1⟩ := ownsRow_form h.own1
  rw [h1] at c1
  by_cases hful : s.last.length = capOf s.vl
  · have HF : Hid (s.last.length = capOf s.vl) := hful
    have HB : Hid (s.bytes.length ≤ 4194304) := hb
    have hq : ((s.last.length : Int) == (k1 : Int)) = true := by rw [h1] at hful; simp only [capOf] at hful; simp; omega
    clear hful hb h1 hle
    have HH : Hid (Buf w p s ln ls ts) := h
    clear h
    go_enter Try.func55, Try.ntmps55
    go_wp2_with fail
    go_quiet (fail)
    go_wp2_with fail
    refine (grow59 p s ln ls ts _ (HH.out.drewN _) HB.out HF.out).mono ?_
    rintro e w2 ⟨rfl, s1, hB, hBy, hRoom, hK0⟩
    have hK := (Kept.drewN (s.fp p) w _).trans hK0
    clear hK0 c1
    clear hq

    obtain ⟨g, cap, hv, hroom⟩ := form_cap hB.own1 hRoom
    have d1 := hB.c1
    have f1 : w2.frozen? ⟨p, 1, none⟩ = false := hB.blk.frozen 1
    have hown := hB.own1
    rw [hv] at d1 hown
    have hp := hB.blk.lt
    have WO : Hid (∀ w1, (w2.alloc (.cells #[.int .u8 (c.toNat : Int)] 5)).grownBy w1 (some g) → w1.ownsRow (p + 1) 5 1 (.slice (some ⟨g, 0, none⟩) (s1.last.length + 1) cap) (s1.last.length + 1) (s1.last.map bv ++ [bv c]) →
        Wrote p s [c] ln ls ts w (.returned (.tuple #[])) (w1.setCell ⟨p, 1, none⟩ (.slice (some ⟨g, 0, none⟩) (s1.last.length + 1) cap))) :=
      fun w1 h1 h2 => wrote_of hK hBy hB hv ((Below.refl _ _).alloc (Nat.le_refl _) _) h1 [c] (.inl (by simp)) h2
    have HOA : ∀ o, (w2.alloc o).ownsRow (p + 1) 5 1 (.slice (some ⟨g, 0, none⟩) s1.last.length cap) s1.last.length (s1.last.map bv) := fun o => hown.alloc o
    have HNW : Hid (∀ j u, [bv c][j]? = some u → (w2.alloc (.cells #[.int .u8 (c.toNat : Int)] 5)).cell? ((⟨w2.heap.size, 0, none⟩ : Addr).add j) = some u) := World.news_of_block (heap_alloc_new w2 (.cells #[.int .u8 (c.toNat : Int)] 5))
    have HP : Hid (∀ w1, (w2.alloc (.cells #[.int .u8 (c.toNat : Int)] 5)).grownBy w1 (some g) → w1.cell? ⟨p, 1, none⟩ = some (.slice (some ⟨g, 0, none⟩) s1.last.length cap) ∧ w1.frozen? ⟨p, 1, none⟩ = false) := by
      intro w1 hgr
      have hne : some p ≠ some g := fun e => by have := hown.lt p e.symm; omega
      have hbk : w1.heap[p]? = w2.heap[p]? := (hgr.block p (by simp; omega) hne).trans (Below.heap_alloc w2 _ _ hp)
      exact ⟨(World.cell?_of_block (w := w2) (a := ⟨p, 1, none⟩) hbk).trans d1, (World.frozen?_of_block (w := w2) (a := ⟨p, 1, none⟩) hbk).trans f1⟩
    clear hB hown hv hK hBy
    generalize s1.last.map bv = cs at *
    generalize s1.last.length = n at *
    go_wp2_with (at_builtin; refine wpList_append_own_spare _ rfl _ _ 25 rfl (p + 1) 5 i0 1 Try.underlying25 hi hz1 g n cap cs (by rfl) (HOA _) ⟨w2.heap.size, 0, none⟩ 1 1 [bv c] (by rfl) rfl HNW.out (by intro u hu; simp at hu; subst hu; rfl) (by omega) ?_; intro w1 hown1 hgrow1; obtain ⟨e1, e2⟩ := HP.out w1 hgrow1; have WR : Hid (Wrote p s [c] ln ls ts w (.returned (.tuple #[])) (w1.setCell ⟨p, 1, none⟩ (.slice (some ⟨g, 0, none⟩) (n + 1) cap))) := WO.out w1 hgrow1 hown1; clear WO HP HNW HOA hown1 hgrow1)
    go_end0
    exact WR.out
  · have hRoom : s.last.length < capOf s.vl := by omega
    have hq : ((s.last.length : Int) == (k1 : Int)) = false := by rw [h1] at hRoom; simp only [capOf] at hRoom; simp; omega
    clear hful hb h1 hle
    have HH : Hid (Buf w p s ln ls ts) := h
    clear h
    go_enter Try.func55, Try.ntmps55
    go_wp2_with fail
    go_quiet (fail)
    have hB : Buf (w.drewN nq) p s ln ls ts := HH.out.drewN nq
    have hK : Kept (s.fp p) (s.fp p) w (w.drewN nq) := Kept.drewN (s.fp p) w nq
    have hBy : s.bytes = s.bytes := rfl
    clear HH c1 hq
    generalize w.drewN nq = w2 at *

    obtain ⟨g, cap, hv, hroom⟩ := form_cap hB.own1 hRoom
    have d1 := hB.c1
    have f1 : w2.frozen? ⟨p, 1, none⟩ = false := hB.blk.frozen 1
    have hown := hB.own1
    rw [hv] at d1 hown
    have hp := hB.blk.lt
    have WO : Hid (∀ w1, (w2.alloc (.cells #[.int .u8 (c.toNat : Int)] 5)).grownBy w1 (some g) → w1.ownsRow (p + 1) 5 1 (.slice (some ⟨g, 0, none⟩) (s.last.length + 1) cap) (s.last.length + 1) (s.last.map bv ++ [bv c]) →
        Wrote p s [c] ln ls ts w (.returned (.tuple #[])) (w1.setCell ⟨p, 1, none⟩ (.slice (some ⟨g, 0, none⟩) (s.last.length + 1) cap))) :=
      fun w1 h1 h2 => wrote_of hK hBy hB hv ((Below.refl _ _).alloc (Nat.le_refl _) _) h1 [c] (.inl (by simp)) h2
    have HOA : ∀ o, (w2.alloc o).ownsRow (p + 1) 5 1 (.slice (some ⟨g, 0, none⟩) s.last.length cap) s.last.length (s.last.map bv) := fun o => hown.alloc o
    have HNW : Hid (∀ j u, [bv c][j]? = some u → (w2.alloc (.cells #[.int .u8 (c.toNat : Int)] 5)).cell? ((⟨w2.heap.size, 0, none⟩ : Addr).add j) = some u) := World.news_of_block (heap_alloc_new w2 (.cells #[.int .u8 (c.toNat : Int)] 5))
    have HP : Hid (∀ w1, (w2.alloc (.cells #[.int .u8 (c.toNat : Int)] 5)).grownBy w1 (some g) → w1.cell? ⟨p, 1, none⟩ = some (.slice (some ⟨g, 0, none⟩) s.last.length cap) ∧ w1.frozen? ⟨p, 1, none⟩ = false) := by
      intro w1 hgr
      have hne : some p ≠ some g := fun e => by have := hown.lt p e.symm; omega
      have hbk : w1.heap[p]? = w2.heap[p]? := (hgr.block p (by simp; omega) hne).trans (Below.heap_alloc w2 _ _ hp)
      exact ⟨(World.cell?_of_block (w := w2) (a := ⟨p, 1, none⟩) hbk).trans d1, (World.frozen?_of_block (w := w2) (a := ⟨p, 1, none⟩) hbk).trans f1⟩
    clear hB hown hv hK hBy
    generalize s.last.map bv = cs at *
    generalize s.last.length = n at *
    go_wp2_with (at_builtin; refine wpList_append_own_spare _ rfl _ _ 25 rfl (p + 1) 5 i0 1 Try.underlying25 hi hz1 g n cap cs (by rfl) (HOA _) ⟨w2.heap.size, 0, none⟩ 1 1 [bv c] (by rfl) rfl HNW.out (by intro u hu; simp at hu; subst hu; rfl) (by omega) ?_; intro w1 hown1 hgrow1; obtain ⟨e1, e2⟩ := HP.out w1 hgrow1; have WR : Hid (Wrote p s [c] ln ls ts w (.returned (.tuple #[])) (w1.setCell ⟨p, 1, none⟩ (.slice (some ⟨g, 0, none⟩) (n + 1) cap))) := WO.out w1 hgrow1 hown1; clear WO HP HNW HOA hown1 hgrow1)
    go_end0
    exact WR.out
end EL
end Go.Proofs.Qxb6001700a
