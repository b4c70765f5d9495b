/- write, writeOn. -/
import Derived.Test.Qxb6001700aAdd
namespace Go.Proofs.Qxb6001700a
open Go.ChangeShapes Go.WideShapes Go.ChangeAt Go.RowKit
set_option linter.unusedVariables false
set_option linter.unusedSimpArgs false
namespace EL

/-- The bytes xs lie in w from ⟨b, off⟩ on. -/
def BS (w : World) (b off : Nat) (xs : List UInt8) : Prop := ∀ i (h : i < xs.length), w.cell? ⟨b, off + i, none⟩ = some (bv xs[i])

theorem BS.news {w : World} {b off : Nat} {xs : List UInt8} (h : BS w b off xs) : ∀ j u, (xs.map bv)[j]? = some u → w.cell? ((⟨b, off, none⟩ : Addr).add j) = some u := by
  intro j u hu
  obtain ⟨hj, hu2⟩ := List.getElem?_eq_some_iff.1 hu
  simp at hj hu2
  rw [Addr.add_lit, h j hj, hu2]
theorem BS.lt {w : World} {b off : Nat} {xs : List UInt8} (h : BS w b off xs) (h0 : 0 < xs.length) : b < w.heap.size := World.block_lt_of_cell? w _ (h 0 h0)
theorem BS.drop {w : World} {b off : Nat} {xs : List UInt8} (h : BS w b off xs) (j : Nat) : BS w b (off + j) (xs.drop j) := fun i hi => by
  simp at hi
  rw [Nat.add_assoc, h (j + i) (by omega)]
  simp
theorem BS.take {w : World} {b off : Nat} {xs : List UInt8} (h : BS w b off xs) (j : Nat) : BS w b off (xs.take j) := fun i hi => by
  simp at hi
  rw [h i (by omega)]
  simp
theorem BS.kept {w w' : World} {b off : Nat} {xs : List UInt8} {A A' : Nat → Prop} (h : BS w b off xs) (hk : Kept A A' w w') (hn : ¬ A b) : BS w' b off xs := fun i hi => by
  have hlt := h.lt (by omega)
  rw [World.cell?_of_block (w := w) (a := ⟨b, off + i, none⟩) (hk.block b hlt hn), h i hi]
theorem BS.below {w w' : World} {b off : Nat} {xs : List UInt8} (h : BS w b off xs) (hk : Below w.heap.size w w') : BS w' b off xs := fun i hi => by
  have hlt := h.lt (by omega)
  rw [World.cell?_of_block (w := w) (a := ⟨b, off + i, none⟩) (hk.block b hlt), h i hi]

theorem step_append_spare {P : Program} (w : World) {ops : Array Oper} {o : Oper} {a : Act} {K : Act → World → Prop} {Q : Exit → Act → World → Prop} {E : Prop} (hgd : o.guard = none) (s x : Operand) (t : TypeId)
    (ho : o.op = .call { callee := .builtin .append, args := #[s, x], argTypes := #[t, t] })
    (base : Nat) (e : TypeId) (i : TypeInfo) (size : Nat) (ht : P.underlying t = some (.slice e)) (hi : P.info? e = some i) (hsize : i.size = size)
    (g n cap : Nat) (xs : List Value) (hs : a.eval s = .slice (some ⟨g, 0, none⟩) n cap) (hown : w.ownsRow base e size (.slice (some ⟨g, 0, none⟩) n cap) n xs)
    (ad : Addr) (m c : Nat) (news : List Value) (hx : a.eval x = .slice (some ad) m c) (hl : news.length = m * size) (hnews : ∀ j u, news[j]? = some u → w.cell? (ad.add j) = some u) (h1 : ∀ u ∈ news, u.oneCell' = true)
    (hroom : n + m ≤ cap)
    (h : ∀ w', w'.ownsRow base e size (.slice (some ⟨g, 0, none⟩) (n + m) cap) (n + m) (xs ++ news) → w.grownBy w' (some g) → K (a.put o.dst (.slice (some ⟨g, 0, none⟩) (n + m) cap)) w') :
    if Region.wanted o (yielded ops a.tmps) = true then Oper.wp P o a w K Q else E := by
  have hw : Region.wanted o (yielded ops a.tmps) = true := by simp [Region.wanted, hgd]
  rw [if_pos hw]
  exact wp_append_own_spare w s x t ho base e i size ht hi hsize g n cap xs hs hown ad m c news hx hl hnews h1 hroom h


def lenOf : Value → Nat | .slice _ n _ => n | _ => 0
def On (p : Nat) (s : St) (xs : List UInt8) (ln : Bool) (ls : Int) (ts : Bool) (w : World) (j : Nat) (wr : World) : Prop :=
  ∃ s', Buf wr p s' ln ls ts ∧ s'.bytes = s.bytes ++ xs.take j ∧ Kept (s.fp p) (s'.fp p) w wr

set_option maxHeartbeats 2000000 in
theorem writeOn54 (p : Nat) (s : St) (xs : List UInt8) (b off c : Nat) (ln : Bool) (ls : Int) (ts : Bool) (w : World) (h : Buf w p s ln ls ts) (hsrc : BS w b off xs) (hap : ¬ s.fp p b) (hx0 : 0 < xs.length) (hb : s.bytes.length + xs.length ≤ 4194304) (hc : xs.length ≤ c) (hc2 : c ≤ 9223372036854775807) :
    Calls Try.prog 54 #[.pointer (some ⟨p, 0, none⟩), .slice (some ⟨b, off, none⟩) xs.length c] w (Wrote p s xs ln ls ts w) := by
  obtain ⟨i0, hi, hz0, hz1, hz2⟩ := info_parts info5
  go_enter Try.func54, Try.ntmps54
  go_wp2_with fail
  go_loopw [1, 4] (fun vs _ wr => ∃ j : Nat, j < xs.length ∧ vs = .slice (some ⟨b, off + j, none⟩) (xs.length - j) (c - j) ∧ On p s xs ln ls ts w j wr) (fun vs _ _ => lenOf vs)
  case atStart => exact ⟨0, hx0, rfl, s, h, by simp, Kept.refl _ _⟩
  case round =>
    obtain ⟨j, hj, rfl, s1, hB1, hBy1, hK1⟩ := hrel
    have hbl : s1.bytes.length ≤ 4194304 := by rw [hBy1, List.length_append, List.length_take]; omega
    have hle := le_cap hB1.own1
    have c1 := hB1.c1
    obtain ⟨a1, k1, h1⟩ := ownsRow_form hB1.own1
    rw [h1] at c1
    by_cases hful : s1.last.length = capOf s1.vl
    · have HF : Hid (s1.last.length = capOf s1.vl) := hful
      have HB : Hid (s1.bytes.length ≤ 4194304) := hbl
      have hq : ((s1.last.length : Int) == (k1 : Int)) = true := by rw [h1] at hful; simp only [capOf] at hful; simp; omega
      have HBY : Hid (s1.bytes = s.bytes ++ xs.take j) := hBy1
      clear hful hbl h1 hle hBy1
      have HH : Hid (Buf wr p s1 ln ls ts) := hB1
      clear hB1
      go_wp2_with fail
      go_quiet (fail)
      go_wp2_with fail
      refine (grow59 p s1 ln ls ts _ (HH.out.drewN _) HB.out HF.out).mono ?_
      rintro e w2 ⟨rfl, s2, hB, hBy2, hRoom, hK0⟩
      have hBy : s2.bytes = s.bytes ++ xs.take j := hBy2.trans HBY.out
      have hK := (hK1.trans (Kept.drewN (s1.fp p) wr _)).trans hK0
      clear hK0 c1 hBy2 HBY
      clear hq

      obtain ⟨g, cap, hv, hroom⟩ := form_cap hB.own1 hRoom
      have d1 := hB.c1
      have hcap := hB.cap
      have hown := hB.own1
      rw [hv] at d1 hown hcap
      simp only [capOf] at hcap
      have hp := hB.blk.lt
      have hS : BS w2 b (off + j) (xs.drop j) := (hsrc.kept hK hap).drop j
      obtain ⟨k, hk⟩ : ∃ k, k = min (xs.length - j) (cap - s2.last.length) := ⟨_, rfl⟩
      have hkI : min ((xs.length - j : Nat) : Int) ((cap : Int) - (s2.last.length : Int)) = (k : Int) := by omega
      have hk1 : k ≤ xs.length - j := by omega
      have hk2 : s2.last.length + k ≤ cap := by omega
      have hk0 : 0 < k := by omega
      have hkl : ((xs.drop j).take k).length = k := by simp; omega
      clear hk
      go_wp2_with fail
      go_quiet (fail)
      have hB3 : Buf (w2.drewN nq) p s2 ln ls ts := hB.drewN _
      have hK3 : Kept (s.fp p) (s2.fp p) w (w2.drewN nq) := hK.trans (Kept.drewN _ _ _)
      have hS3 : BS (w2.drewN nq) b (off + j) (xs.drop j) := hS
      have d3 : (w2.drewN nq).cell? ⟨p, 1, none⟩ = some (.slice (some ⟨g, 0, none⟩) s2.last.length cap) := d1
      have hown3 : (w2.drewN nq).ownsRow (p + 1) 5 1 (.slice (some ⟨g, 0, none⟩) s2.last.length cap) s2.last.length (s2.last.map bv) := hown
      have hp3 : p < (w2.drewN nq).heap.size := hp
      clear hB hK hS d1 hown hp
      generalize w2.drewN nq = w3 at *
      have f3 : w3.frozen? ⟨p, 1, none⟩ = false := hB3.blk.frozen 1
      have WO : Hid (∀ w1, w3.drew.grownBy w1 (some g) → w1.ownsRow (p + 1) 5 1 (.slice (some ⟨g, 0, none⟩) (s2.last.length + k) cap) (s2.last.length + k) (s2.last.map bv ++ ((xs.drop j).take k).map bv) →
          ∃ s', Buf (w1.setCell ⟨p, 1, none⟩ (.slice (some ⟨g, 0, none⟩) (s2.last.length + k) cap)) p s' ln ls ts ∧ s'.bytes = s.bytes ++ xs.take (j + k) ∧ (s'.fulls ≠ [] → s'.last ≠ []) ∧ Kept (s.fp p) (s'.fp p) w (w1.setCell ⟨p, 1, none⟩ (.slice (some ⟨g, 0, none⟩) (s2.last.length + k) cap))) := by
        intro w1 h1 h2
        have := put_last hB3 hv ((Below.refl w3.heap.size w3).drew) h1 ((xs.drop j).take k) (by rw [hkl]; exact h2)
        rw [hkl] at this
        refine ⟨_, this.1, ?_, ?_, hK3.trans this.2⟩
        · have e := hBy
          simp only [St.bytes] at e ⊢
          rw [← List.append_assoc, e, List.append_assoc, List.take_add]
        · intro _ e
          have := congrArg List.length e
          simp only [List.length_append, hkl, List.length_nil] at this
          omega
      have HNW : Hid (∀ t u, (((xs.drop j).take k).map bv)[t]? = some u → w3.drew.cell? ((⟨b, off + j, none⟩ : Addr).add t) = some u) := (hS3.take k).news
      have HP : Hid (∀ w1, w3.drew.grownBy w1 (some g) → w1.cell? ⟨p, 1, none⟩ = some (.slice (some ⟨g, 0, none⟩) s2.last.length cap) ∧ w1.frozen? ⟨p, 1, none⟩ = false) := by
        intro w1 hgr
        have hne : some p ≠ some g := fun e => by have := hown3.lt p e.symm; omega
        have hbk : w1.heap[p]? = w3.heap[p]? := hgr.block p hp3 hne
        exact ⟨(World.cell?_of_block (w := w3) (a := ⟨p, 1, none⟩) hbk).trans d3, (World.frozen?_of_block (w := w3) (a := ⟨p, 1, none⟩) hbk).trans f3⟩
      have HO3 : Hid (w3.drew.ownsRow (p + 1) 5 1 (.slice (some ⟨g, 0, none⟩) s2.last.length cap) s2.last.length (s2.last.map bv)) := hown3
      have HKL : Hid ((((xs.drop j).take k).map bv).length = k * 1) := by show _ = _; rw [List.length_map, hkl, Nat.mul_one]
      have H1C : Hid (∀ u ∈ ((xs.drop j).take k).map bv, u.oneCell' = true) := bv_one _
      clear hB3 hv hK3 hBy hS3 hown3 hRoom hkl
      generalize s2.last.map bv = cs at *
      generalize s2.last.length = n at *
      generalize ((xs.drop j).take k).map bv = nw at *
      have hkc : k ≤ c - j := by omega
      go_wp2_with fail
      go_region_law (refine step_append_spare _ rfl (.tmp 36) (.tmp 39) 25 rfl (p + 1) 5 i0 1 Try.underlying25 hi hz1 g n cap cs (by simp [Act.eval, Act.put]) HO3.out ⟨b, off + j, none⟩ k (c - j) nw (by simp [Act.eval, Act.put]) HKL.out HNW.out H1C.out hk2 ?_; intro w1 hown1 hgrow1; obtain ⟨e1, e2⟩ := HP.out w1 hgrow1; have WR := WO.out w1 hgrow1 hown1)
      generalize w1.setCell ⟨p, 1, none⟩ (.slice (some ⟨g, 0, none⟩) (n + k) cap) = w4 at *
      obtain ⟨s4, hB4, hBy4, ht4, hK4⟩ := WR
      clear HP HNW HO3 HKL H1C WO hown1 hgrow1 e1 e2
      by_cases hd : k = xs.length - j
      · have HW : Hid (Wrote p s xs ln ls ts w (.returned (.tuple #[])) w4) := ⟨rfl, s4, hB4, by rw [hBy4, List.take_of_length_le (by omega)], ht4, hK4⟩
        subst hd
        clear hB4 hBy4 ht4 hK4
        go_wp2_with fail
        all_goals go_end0
        all_goals exact HW.out
      · have HO4 : Hid (On p s xs ln ls ts w (j + k) w4) := ⟨s4, hB4, hBy4, hK4⟩
        have hne1 : ¬ c - j = k := by omega
        have hne2 : ((xs.length - j - k : Nat) : Int) ≠ 0 := by omega
        have hkm : k ≤ xs.length - j := hk1
        have hkm2 : k < xs.length - j := by omega
        clear hB4 hBy4 ht4 hK4
        go_wp2_with fail
        go_roundw
        case rel => exact ⟨j + k, by omega, by rw [Nat.add_assoc, Nat.sub_sub, Nat.sub_sub], HO4.out⟩
        case measure => simp [lenOf]; omega
    · have hRoom1 : s1.last.length < capOf s1.vl := by omega
      have hq : ((s1.last.length : Int) == (k1 : Int)) = false := by rw [h1] at hRoom1; simp only [capOf] at hRoom1; simp; omega
      have HH : Hid (Buf wr p s1 ln ls ts) := hB1
      have HBY : Hid (s1.bytes = s.bytes ++ xs.take j) := hBy1
      have HRM : Hid (s1.last.length < capOf s1.vl) := hRoom1
      clear hful hbl h1 hle hBy1 hB1 hRoom1
      go_wp2_with fail
      go_quiet (fail)
      have hB : Buf (wr.drewN nq) p s1 ln ls ts := HH.out.drewN nq
      have hK : Kept (s.fp p) (s1.fp p) w (wr.drewN nq) := hK1.trans (Kept.drewN (s1.fp p) wr nq)
      have hBy : s1.bytes = s.bytes ++ xs.take j := HBY.out
      have hRoom : s1.last.length < capOf s1.vl := HRM.out
      clear HH HBY HRM c1 hq
      generalize wr.drewN nq = w2 at *

      obtain ⟨g, cap, hv, hroom⟩ := form_cap hB.own1 hRoom
      have d1 := hB.c1
      have hcap := hB.cap
      have hown := hB.own1
      rw [hv] at d1 hown hcap
      simp only [capOf] at hcap
      have hp := hB.blk.lt
      have hS : BS w2 b (off + j) (xs.drop j) := (hsrc.kept hK hap).drop j
      obtain ⟨k, hk⟩ : ∃ k, k = min (xs.length - j) (cap - s1.last.length) := ⟨_, rfl⟩
      have hkI : min ((xs.length - j : Nat) : Int) ((cap : Int) - (s1.last.length : Int)) = (k : Int) := by omega
      have hk1 : k ≤ xs.length - j := by omega
      have hk2 : s1.last.length + k ≤ cap := by omega
      have hk0 : 0 < k := by omega
      have hkl : ((xs.drop j).take k).length = k := by simp; omega
      clear hk
      go_wp2_with fail
      go_quiet (fail)
      have hB3 : Buf (w2.drewN nq) p s1 ln ls ts := hB.drewN _
      have hK3 : Kept (s.fp p) (s1.fp p) w (w2.drewN nq) := hK.trans (Kept.drewN _ _ _)
      have hS3 : BS (w2.drewN nq) b (off + j) (xs.drop j) := hS
      have d3 : (w2.drewN nq).cell? ⟨p, 1, none⟩ = some (.slice (some ⟨g, 0, none⟩) s1.last.length cap) := d1
      have hown3 : (w2.drewN nq).ownsRow (p + 1) 5 1 (.slice (some ⟨g, 0, none⟩) s1.last.length cap) s1.last.length (s1.last.map bv) := hown
      have hp3 : p < (w2.drewN nq).heap.size := hp
      clear hB hK hS d1 hown hp
      generalize w2.drewN nq = w3 at *
      have f3 : w3.frozen? ⟨p, 1, none⟩ = false := hB3.blk.frozen 1
      have WO : Hid (∀ w1, w3.drew.grownBy w1 (some g) → w1.ownsRow (p + 1) 5 1 (.slice (some ⟨g, 0, none⟩) (s1.last.length + k) cap) (s1.last.length + k) (s1.last.map bv ++ ((xs.drop j).take k).map bv) →
          ∃ s', Buf (w1.setCell ⟨p, 1, none⟩ (.slice (some ⟨g, 0, none⟩) (s1.last.length + k) cap)) p s' ln ls ts ∧ s'.bytes = s.bytes ++ xs.take (j + k) ∧ (s'.fulls ≠ [] → s'.last ≠ []) ∧ Kept (s.fp p) (s'.fp p) w (w1.setCell ⟨p, 1, none⟩ (.slice (some ⟨g, 0, none⟩) (s1.last.length + k) cap))) := by
        intro w1 h1 h2
        have := put_last hB3 hv ((Below.refl w3.heap.size w3).drew) h1 ((xs.drop j).take k) (by rw [hkl]; exact h2)
        rw [hkl] at this
        refine ⟨_, this.1, ?_, ?_, hK3.trans this.2⟩
        · have e := hBy
          simp only [St.bytes] at e ⊢
          rw [← List.append_assoc, e, List.append_assoc, List.take_add]
        · intro _ e
          have := congrArg List.length e
          simp only [List.length_append, hkl, List.length_nil] at this
          omega
      have HNW : Hid (∀ t u, (((xs.drop j).take k).map bv)[t]? = some u → w3.drew.cell? ((⟨b, off + j, none⟩ : Addr).add t) = some u) := (hS3.take k).news
      have HP : Hid (∀ w1, w3.drew.grownBy w1 (some g) → w1.cell? ⟨p, 1, none⟩ = some (.slice (some ⟨g, 0, none⟩) s1.last.length cap) ∧ w1.frozen? ⟨p, 1, none⟩ = false) := by
        intro w1 hgr
        have hne : some p ≠ some g := fun e => by have := hown3.lt p e.symm; omega
        have hbk : w1.heap[p]? = w3.heap[p]? := hgr.block p hp3 hne
        exact ⟨(World.cell?_of_block (w := w3) (a := ⟨p, 1, none⟩) hbk).trans d3, (World.frozen?_of_block (w := w3) (a := ⟨p, 1, none⟩) hbk).trans f3⟩
      have HO3 : Hid (w3.drew.ownsRow (p + 1) 5 1 (.slice (some ⟨g, 0, none⟩) s1.last.length cap) s1.last.length (s1.last.map bv)) := hown3
      have HKL : Hid ((((xs.drop j).take k).map bv).length = k * 1) := by show _ = _; rw [List.length_map, hkl, Nat.mul_one]
      have H1C : Hid (∀ u ∈ ((xs.drop j).take k).map bv, u.oneCell' = true) := bv_one _
      clear hB3 hv hK3 hBy hS3 hown3 hRoom hkl
      generalize s1.last.map bv = cs at *
      generalize s1.last.length = n at *
      generalize ((xs.drop j).take k).map bv = nw at *
      have hkc : k ≤ c - j := by omega
      go_wp2_with fail
      go_region_law (refine step_append_spare _ rfl (.tmp 36) (.tmp 39) 25 rfl (p + 1) 5 i0 1 Try.underlying25 hi hz1 g n cap cs (by simp [Act.eval, Act.put]) HO3.out ⟨b, off + j, none⟩ k (c - j) nw (by simp [Act.eval, Act.put]) HKL.out HNW.out H1C.out hk2 ?_; intro w1 hown1 hgrow1; obtain ⟨e1, e2⟩ := HP.out w1 hgrow1; have WR := WO.out w1 hgrow1 hown1)
      generalize w1.setCell ⟨p, 1, none⟩ (.slice (some ⟨g, 0, none⟩) (n + k) cap) = w4 at *
      obtain ⟨s4, hB4, hBy4, ht4, hK4⟩ := WR
      clear HP HNW HO3 HKL H1C WO hown1 hgrow1 e1 e2
      by_cases hd : k = xs.length - j
      · have HW : Hid (Wrote p s xs ln ls ts w (.returned (.tuple #[])) w4) := ⟨rfl, s4, hB4, by rw [hBy4, List.take_of_length_le (by omega)], ht4, hK4⟩
        subst hd
        clear hB4 hBy4 ht4 hK4
        go_wp2_with fail
        all_goals go_end0
        all_goals exact HW.out
      · have HO4 : Hid (On p s xs ln ls ts w (j + k) w4) := ⟨s4, hB4, hBy4, hK4⟩
        have hne1 : ¬ c - j = k := by omega
        have hne2 : ((xs.length - j - k : Nat) : Int) ≠ 0 := by omega
        have hkm : k ≤ xs.length - j := hk1
        have hkm2 : k < xs.length - j := by omega
        clear hB4 hBy4 ht4 hK4
        go_wp2_with fail
        go_roundw
        case rel => exact ⟨j + k, by omega, by rw [Nat.add_assoc, Nat.sub_sub, Nat.sub_sub], HO4.out⟩
        case measure => simp [lenOf]; omega

theorem wrote_nil {p : Nat} {s : St} {ln : Bool} {ls : Int} {ts : Bool} {w w1 : World} (h : Buf w p s ln ls ts) (hv : s.vl = .slice none 0 0) (ht : s.fulls ≠ [] → s.last ≠ []) (hgrow : w.grownBy w1 none) :
    Wrote p s [] ln ls ts w (.returned (.tuple #[])) (w1.setCell ⟨p, 1, none⟩ (.slice none 0 0)) := by
  have hl : s.last = [] := by
    have := h.own1
    rw [hv] at this
    rcases this.2 with ⟨_, h0⟩ | ⟨g, cap, cur, h0, _⟩
    · exact List.eq_nil_of_length_eq_zero h0
    · cases h0
  have hB := h.newLast (w2 := w1) (fun k hk => hgrow.block k ?_ (by simp)) (.slice none 0 0) [] (World.ownsRow_nil _ _ _ _) (by simp [Value.ownBlock]) (by simp [capOf]) (fun hne => by have := h.more hne; rw [hv] at this; exact this)
  · refine ⟨rfl, _, hB, ?_, ?_, ?_⟩
    · simp [St.bytes, hl]
    · intro hne; exact absurd hl (ht hne)
    · refine ((Kept.of_grown (A := s.fp p) hgrow (by simp)).set (.inl rfl) 1 _).to' (fun k hk => ?_)
      rcases newLast_fp hk with h0 | h0
      · exact .inl h0
      · simp [Value.ownBlock] at h0
  · rcases hk with h0 | h0 | h0
    · exact (h.lt (.inl h0)).2
    · exact (h.lt (.inr (.inl h0))).2
    · exact (h.lt (.inr (.inr (.inr h0)))).2
end EL
end Go.Proofs.Qxb6001700a
