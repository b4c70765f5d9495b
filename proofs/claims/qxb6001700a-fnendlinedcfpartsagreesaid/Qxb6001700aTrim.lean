/- trimBlankEnd. -/
import Derived.Test.Qxb6001700aTrunc2
namespace Go.Proofs.Qxb6001700a
open Go.ChangeShapes Go.WideShapes Go.ChangeAt Go.RowKit
set_option linter.unusedVariables false
set_option linter.unusedSimpArgs false
namespace EL

/-- Where the blanks at the end of the first e bytes begin, from start on. -/
def trimTo (L : List UInt8) (start : Nat) : Nat → Nat
  | 0 => 0
  | e + 1 => if start < e + 1 ∧ blank (L.getD e 0) = true then trimTo L start e else e + 1

theorem trimTo_le (L : List UInt8) (start : Nat) : ∀ e, trimTo L start e ≤ e
  | 0 => Nat.le_refl _
  | e + 1 => by
    unfold trimTo
    have := trimTo_le L start e
    split <;> omega

theorem trimTo_stop (L : List UInt8) (start e : Nat) (h : e ≤ start) : trimTo L start e = e := by
  cases e with
  | zero => rfl
  | succ e => unfold trimTo; rw [if_neg (by omega)]
theorem trimTo_keep (L : List UInt8) (start e : Nat) (h : blank (L.getD e 0) = false) : trimTo L start (e + 1) = e + 1 := by
  unfold trimTo; rw [if_neg (by simp only [h]; simp)]
theorem trimTo_step (L : List UInt8) (start e : Nat) (h0 : start < e + 1) (h : blank (L.getD e 0) = true) : trimTo L start (e + 1) = trimTo L start e := by
  conv => lhs; unfold trimTo
  rw [if_pos ⟨h0, h⟩]

theorem hTrunc (p : Nat) (A : Nat → Prop) (L : List UInt8) (n : Nat) (ln : Bool) (ls : Int) (ts : Bool) (w : World) (h : Holds w p A L ln ls ts) (hb : L.length ≤ 4194304) (hn : n ≤ L.length) :
    Calls Try.prog 52 #[.pointer (some ⟨p, 0, none⟩), .int .i64 n] w (Now p A w (L.take n) ln ls ts) := by
  obtain ⟨s, hB, rfl, rfl, h2⟩ := h
  refine (trunc52 p s n ln ls ts w hB h2 hb hn).mono ?_
  rintro e w' ⟨rfl, s', h3, h4, h5, h6⟩
  exact ⟨rfl, s'.fp p, ⟨s', h3, h4, rfl, h5⟩, h6⟩

theorem hEmpty (p : Nat) (A : Nat → Prop) (L : List UInt8) (ln : Bool) (ls : Int) (ts : Bool) (w : World) (h : Holds w p A L ln ls ts) (hb : L.length ≤ 4194304) :
    Calls Try.prog 57 #[.pointer (some ⟨p, 0, none⟩)] w fun e w' => e = .returned (.bool (decide (L = []))) ∧ w' = w := by
  obtain ⟨s, hB, rfl, rfl, h2⟩ := h
  have e : decide (s.bytes = []) = decide (s.last = []) := by
    by_cases hl : s.last = []
    · have : s.fulls = [] := by
        by_cases hf : s.fulls = []
        · exact hf
        · exact absurd hl (h2 hf)
      simp [St.bytes, hl, this]
    · simp [St.bytes, hl]
  rw [e]
  exact empty57 p s ln ls ts w hB hb

def AtEnd (L : List UInt8) (w : World) (e : Ending) (w' : World) : Prop := ∃ a : Addr, e = .returned (.pointer (some a)) ∧ w.cell? a = some (bv (L.getD (L.length - 1) 0)) ∧ ∃ n, w' = w.drewN n

theorem hEnd (p : Nat) (A : Nat → Prop) (L : List UInt8) (ln : Bool) (ls : Int) (ts : Bool) (w : World) (h : Holds w p A L ln ls ts) (hb : L.length ≤ 4194304) (hne : L ≠ []) :
    Calls Try.prog 58 #[.pointer (some ⟨p, 0, none⟩)] w (AtEnd L w) := by
  obtain ⟨s, hB, rfl, rfl, h2⟩ := h
  have hl : s.last ≠ [] := by
    intro hl
    have : s.fulls = [] := by
      by_cases hf : s.fulls = []
      · exact hf
      · exact absurd hl (h2 hf)
    exact hne (by simp [St.bytes, hl, this])
  refine (end58 p s ln ls ts w hB hb hl).mono ?_
  rintro e w' ⟨g, rfl, hc, n, rfl⟩
  refine ⟨_, rfl, ?_, n, rfl⟩
  rw [hc]
  have hp := List.length_pos_iff.2 hl
  congr 2
  rw [List.getLast_eq_getElem, St.bytes, List.getD_eq_getElem?_getD, List.getElem?_append_right (by simp; omega)]
  rw [List.length_append, show (s.fulls.map (·.2)).flatten.length + s.last.length - 1 - (s.fulls.map (·.2)).flatten.length = s.last.length - 1 by omega, List.getElem?_eq_getElem (by omega)]
  rfl

def AtI (L : List UInt8) (i : Nat) (w : World) (e : Ending) (w' : World) : Prop := ∃ a : Addr, e = .returned (.pointer (some a)) ∧ w.cell? a = some (bv (L.getD i 0)) ∧ w' = w

theorem hAt (p : Nat) (A : Nat → Prop) (L : List UInt8) (ln : Bool) (ls : Int) (ts : Bool) (w : World) (h : Holds w p A L ln ls ts) (hb : L.length ≤ 4194304) (i : Nat) (hi : i < L.length) :
    Calls Try.prog 49 #[.pointer (some ⟨p, 0, none⟩), .int .i64 i] w (AtI L i w) := by
  obtain ⟨s, hB, rfl, rfl, h2⟩ := h
  refine (at49 p s ln ls ts w hB hb i hi).mono ?_
  rintro e w' ⟨a, rfl, hc, rfl⟩
  exact ⟨a, rfl, by rw [hc]; simp [hi], rfl⟩

theorem hLen48 (p : Nat) (A : Nat → Prop) (L : List UInt8) (ln : Bool) (ls : Int) (ts : Bool) (w : World) (h : Holds w p A L ln ls ts) (hb : L.length ≤ 4194304) :
    Calls Try.prog 48 #[.pointer (some ⟨p, 0, none⟩)] w fun e w' => e = .returned (.int .i64 L.length) ∧ ∃ n, w' = w.drewN n := by
  obtain ⟨s, hB, rfl, rfl, h2⟩ := h
  exact len48 p s ln ls ts w hB hb
end EL
end Go.Proofs.Qxb6001700a
