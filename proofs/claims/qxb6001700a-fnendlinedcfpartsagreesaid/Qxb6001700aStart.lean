/- writeLine, startNextLine, startLine. -/
import Derived.Test.Qxb6001700aLine
namespace Go.Proofs.Qxb6001700a
open Go.ChangeShapes Go.WideShapes Go.ChangeAt Go.RowKit
set_option linter.unusedVariables false
set_option linter.unusedSimpArgs false
namespace EL

/-- The buffer holds L now. -/
def Now (p : Nat) (A : Nat → Prop) (w : World) (L : List UInt8) (ln : Bool) (ls : Int) (ts : Bool) (e : Ending) (w' : World) : Prop :=
  e = .returned (.tuple #[]) ∧ ∃ A', Holds w' p A' L ln ls ts ∧ Kept A A' w w'

theorem Buf.set3 {w : World} {p : Nat} {s : St} {ln : Bool} {ls : Int} {ts : Bool} (h : Buf w p s ln ls ts) (v : Int) : Buf (w.setCell ⟨p, 3, none⟩ (.int .i64 v)) p s ln v ts where
  c0 := by rw [cell_other (by decide)]; exact h.c0
  c1 := by rw [cell_other (by decide)]; exact h.c1
  c2 := by rw [cell_other (by decide)]; exact h.c2
  c3 := h.blk.cell_same (by decide) _
  c4 := by rw [cell_other (by decide)]; exact h.c4
  blk := h.blk.set _ _ _
  own0 := ownsRow_setCell_below h.own0 (a := ⟨p, 3, none⟩) (Nat.lt_succ_self p) _
  own1 := ownsRow_setCell_below h.own1 (a := ⟨p, 3, none⟩) (Nat.lt_succ_self p) _
  each := fun x hx => ownsRow_setCell_below (h.each x hx) (a := ⟨p, 3, none⟩) (Nat.lt_succ_self p) _
  nodup := h.nodup
  apart := h.apart
  cap := h.cap
  more := h.more
theorem Buf.set4 {w : World} {p : Nat} {s : St} {ln : Bool} {ls : Int} {ts : Bool} (h : Buf w p s ln ls ts) (v : Bool) : Buf (w.setCell ⟨p, 4, none⟩ (.bool v)) p s ln ls v where
  c0 := by rw [cell_other (by decide)]; exact h.c0
  c1 := by rw [cell_other (by decide)]; exact h.c1
  c2 := by rw [cell_other (by decide)]; exact h.c2
  c3 := by rw [cell_other (by decide)]; exact h.c3
  c4 := h.blk.cell_same (by decide) _
  blk := h.blk.set _ _ _
  own0 := ownsRow_setCell_below h.own0 (a := ⟨p, 4, none⟩) (Nat.lt_succ_self p) _
  own1 := ownsRow_setCell_below h.own1 (a := ⟨p, 4, none⟩) (Nat.lt_succ_self p) _
  each := fun x hx => ownsRow_setCell_below (h.each x hx) (a := ⟨p, 4, none⟩) (Nat.lt_succ_self p) _
  nodup := h.nodup
  apart := h.apart
  cap := h.cap
  more := h.more
theorem Holds.set3 {w : World} {p : Nat} {A : Nat → Prop} {L : List UInt8} {ln : Bool} {ls : Int} {ts : Bool} (h : Holds w p A L ln ls ts) (v : Int) : Holds (w.setCell ⟨p, 3, none⟩ (.int .i64 v)) p A L ln v ts ∧ Kept A A w (w.setCell ⟨p, 3, none⟩ (.int .i64 v)) := by
  obtain ⟨s, hb, h1, rfl, h2⟩ := h
  exact ⟨⟨s, hb.set3 v, h1, rfl, h2⟩, (Kept.refl _ _).set (.inl rfl) 3 _⟩
theorem Holds.set4 {w : World} {p : Nat} {A : Nat → Prop} {L : List UInt8} {ln : Bool} {ls : Int} {ts : Bool} (h : Holds w p A L ln ls ts) (v : Bool) : Holds (w.setCell ⟨p, 4, none⟩ (.bool v)) p A L ln ls v ∧ Kept A A w (w.setCell ⟨p, 4, none⟩ (.bool v)) := by
  obtain ⟨s, hb, h1, rfl, h2⟩ := h
  exact ⟨⟨s, hb.set4 v, h1, rfl, h2⟩, (Kept.refl _ _).set (.inl rfl) 4 _⟩
theorem Holds.cells {w : World} {p : Nat} {A : Nat → Prop} {L : List UInt8} {ln : Bool} {ls : Int} {ts : Bool} (h : Holds w p A L ln ls ts) :
    w.cell? ⟨p, 2, none⟩ = some (.bool ln) ∧ w.cell? ⟨p, 3, none⟩ = some (.int .i64 ls) ∧ w.cell? ⟨p, 4, none⟩ = some (.bool ts) ∧ ∀ q, w.frozen? ⟨p, q, none⟩ = false := by
  obtain ⟨s, hb, h1, rfl, h2⟩ := h
  exact ⟨hb.c2, hb.c3, hb.c4, hb.blk.frozen⟩

theorem hWrite (p : Nat) (A : Nat → Prop) (L xs : List UInt8) (b off c : Nat) (ln : Bool) (ls : Int) (ts : Bool) (w : World) (h : Holds w p A L ln ls ts) (hsrc : BS w b off xs) (hap : ¬ A b) (hb : L.length + xs.length ≤ 4194304) (hc : xs.length ≤ c) (hc2 : c ≤ 9223372036854775807) :
    Calls Try.prog 46 #[.pointer (some ⟨p, 0, none⟩), .slice (some ⟨b, off, none⟩) xs.length c] w (Now p A w (L ++ xs) ln ls ts) := by
  obtain ⟨s, hB, rfl, rfl, h2⟩ := h
  refine (write46 p s xs b off c ln ls ts w hB h2 hsrc hap hb hc hc2).mono ?_
  rintro e w' ⟨rfl, s', h3, h4, h5, h6⟩
  exact ⟨rfl, s'.fp p, ⟨s', h3, h4, rfl, h5⟩, h6⟩

theorem hAdd (p : Nat) (A : Nat → Prop) (L : List UInt8) (c : UInt8) (ln : Bool) (ls : Int) (ts : Bool) (w : World) (h : Holds w p A L ln ls ts) (hb : L.length ≤ 4194304) :
    Calls Try.prog 55 #[.pointer (some ⟨p, 0, none⟩), .int .u8 (c.toNat : Int)] w (Now p A w (L ++ [c]) ln ls ts) := by
  obtain ⟨s, hB, rfl, rfl, h2⟩ := h
  refine (add55 p s c ln ls ts w hB hb).mono ?_
  rintro e w' ⟨rfl, s', h3, h4, h5, h6⟩
  exact ⟨rfl, s'.fp p, ⟨s', h3, h4, rfl, h5⟩, h6⟩

theorem hLen (p : Nat) (A : Nat → Prop) (L : List UInt8) (ln : Bool) (ls : Int) (ts : Bool) (w : World) (h : Holds w p A L ln ls ts) (hb : L.length ≤ 4194304) :
    Calls Try.prog 56 #[.pointer (some ⟨p, 0, none⟩)] w fun e w' => e = .returned (.int .i64 L.length) ∧ ∃ n, w' = w.drewN n := by
  obtain ⟨s, hB, rfl, rfl, h2⟩ := h
  exact len56 p s ln ls ts w hB hb

/-- What writeLine writes of xs. -/
def part (ts : Bool) (xs : List UInt8) : List UInt8 := if ts then xs.drop (lead xs) else xs
/-- Is the line's start still to be trimmed? -/
def still (ts : Bool) (xs : List UInt8) : Bool := ts && (xs.drop (lead xs)).isEmpty

set_option maxHeartbeats 1000000 in
theorem writeLine42 (p : Nat) (A : Nat → Prop) (L xs : List UInt8) (b off c : Nat) (ln : Bool) (ls : Int) (ts : Bool) (w : World) (h : Holds w p A L ln ls ts) (hsrc : BS w b off xs) (hap : ¬ A b) (hb : L.length + xs.length ≤ 4194304) (hc : xs.length ≤ c) (hc2 : c ≤ 9223372036854775807) :
    Calls Try.prog 42 #[.pointer (some ⟨p, 0, none⟩), .slice (some ⟨b, off, none⟩) xs.length c] w (Now p A w (L ++ part ts xs) ln ls (still ts xs)) := by
  obtain ⟨c2, c3, c4, hfr⟩ := h.cells
  cases ts with
  | false =>
    have HH : Hid (Holds w p A L ln ls false) := h
    clear h
    simp only [part, still, Bool.false_and, Bool.false_eq_true, if_false]
    go_enter Try.func42, Try.ntmps42
    go_wp2_with fail
    refine (hWrite p A L xs b off c ln ls false _ HH.out hsrc hap hb hc hc2).mono ?_
    rintro e w' ⟨rfl, hN⟩
    have HN : Hid (∃ A', Holds w' p A' (L ++ xs) ln ls false ∧ Kept A A' w w') := hN
    clear hN
    go_wp2_with fail
    go_end0
    exact ⟨rfl, HN.out⟩
  | true =>
    have HH : Hid (Holds w p A L ln ls true) := h
    have hle := lead_le xs
    have f4 := hfr 4
    have hlen : (xs.drop (lead xs)).length = xs.length - lead xs := List.length_drop
    obtain ⟨o2, ho2, hS2⟩ : ∃ o2, (if c = lead xs then off else off + lead xs) = o2 ∧ BS w b o2 (xs.drop (lead xs)) := by
      refine ⟨_, rfl, ?_⟩
      by_cases e : c = lead xs
      · have : xs.drop (lead xs) = [] := List.drop_eq_nil_of_le (by omega)
        rw [this]; intro i hi; simp at hi
      · rw [if_neg e]; exact hsrc.drop _
    have hEm : (xs.drop (lead xs)).isEmpty = (((xs.length - lead xs : Nat) : Int) == 0) := by
      rw [← hlen]; cases xs.drop (lead xs) <;> simp; omega
    clear h hfr c2 c3
    obtain ⟨z, hz⟩ : ∃ z, (((xs.length - lead xs : Nat) : Int) == 0) = z := ⟨_, rfl⟩
    have HST : Hid (still true xs = z) := by show _ = _; rw [still, hEm, hz]; rfl
    have W2 := HH.out.set4 z
    have hS3 : BS (w.setCell ⟨p, 4, none⟩ (.bool z)) b o2 (xs.drop (lead xs)) := hS2.kept W2.2 hap
    have WR := hWrite p A L (xs.drop (lead xs)) b o2 (c - lead xs) ln ls z _ W2.1 hS3 hap (by rw [hlen]; omega) (by rw [hlen]; omega) (by omega)
    rw [hlen] at WR
    have HWR : Hid (Calls Try.prog 46 #[.pointer (some ⟨p, 0, none⟩), .slice (some ⟨b, o2, none⟩) (xs.length - lead xs) (c - lead xs)] (w.setCell ⟨p, 4, none⟩ (.bool z)) (Now p A (w.setCell ⟨p, 4, none⟩ (.bool z)) (L ++ xs.drop (lead xs)) ln ls z)) := WR
    have HK2 : Hid (Kept A A w (w.setCell ⟨p, 4, none⟩ (.bool z))) := W2.2
    have HPT : Hid (part true xs = xs.drop (lead xs)) := rfl
    have hxl : xs.length ≤ 4194304 := by omega
    have HLE : Hid (lead xs ≤ xs.length) := hle
    have BL := blankStart50 xs b off c w hsrc hxl
    have HBL : Hid (Calls Try.prog 50 #[.slice (some ⟨b, off, none⟩) xs.length c] w fun e w' => e = .returned (.int .i64 (lead xs)) ∧ w' = w) := BL
    rw [HST.out, HPT.out]
    clear W2 hS2 hEm hS3 WR BL HH hlen HST HPT hsrc hb
    generalize xs.drop (lead xs) = ys at *
    generalize lead xs = l at *
    by_cases e : c = l
    · rw [if_pos e] at ho2
      subst ho2
      subst e
      have hx : xs.length - c = 0 := by omega
      obtain rfl : z = true := by rw [← hz, hx]; rfl
      have HWR2 : Hid (Calls Try.prog 46 #[.pointer (some ⟨p, 0, none⟩), .slice (some ⟨b, off, none⟩) 0 0] (w.setCell ⟨p, 4, none⟩ (.bool true)) (Now p A (w.setCell ⟨p, 4, none⟩ (.bool true)) (L ++ ys) ln ls true)) := by have := HWR.out; rwa [Nat.sub_self, hx] at this
      clear HWR
      go_enter Try.func42, Try.ntmps42
      go_wp2_with fail
      refine HBL.out.mono ?_
      rintro e1 w1 ⟨rfl, hw⟩
      obtain rfl := hw.symm
      clear hw
      go_wp2_with fail
      refine HWR2.out.mono ?_
      rintro e2 w2 ⟨rfl, A2, h2, k2⟩
      have HN : Hid (∃ A', Holds w2 p A' (L ++ ys) ln ls true ∧ Kept A A' w w2) := ⟨A2, h2, HK2.out.trans k2⟩
      clear h2 k2
      go_wp2_with fail
      go_end0
      exact ⟨rfl, HN.out⟩
    · rw [if_neg e] at ho2
      subst ho2
      have hlc : l ≤ c := by omega
      go_enter Try.func42, Try.ntmps42
      go_wp2_with fail
      refine HBL.out.mono ?_
      rintro e1 w1 ⟨rfl, hw⟩
      obtain rfl := hw.symm
      clear hw
      go_wp2_with fail
      refine HWR.out.mono ?_
      rintro e2 w2 ⟨rfl, A2, h2, k2⟩
      have HN : Hid (∃ A', Holds w2 p A' (L ++ ys) ln ls z ∧ Kept A A' w w2) := ⟨A2, h2, HK2.out.trans k2⟩
      clear h2 k2
      go_wp2_with fail
      go_end0
      exact ⟨rfl, HN.out⟩
end EL
end Go.Proofs.Qxb6001700a
