/- startNextLine, startLine. -/
import Derived.Test.Qxb6001700aStart
namespace Go.Proofs.Qxb6001700a
open Go.ChangeShapes Go.WideShapes Go.ChangeAt Go.RowKit
set_option linter.unusedVariables false
set_option linter.unusedSimpArgs false
namespace EL

theorem Kept.not {A A' : Nat → Prop} {w w' : World} (h : Kept A A' w w') {b : Nat} (hn : ¬ A b) (hb : b < w.heap.size) : ¬ A' b := fun h' => by
  rcases h.sub b h' with h1 | h1
  · exact hn h1
  · omega

/-- The value when a line begins. -/
def begun (first : Bool) (L : List UInt8) : List UInt8 := if first then L else L ++ [10]

/-- What follows the first step of startNextLine: lineStart and trimStart are set. -/
theorem begin_sets {p : Nat} {A A1 : Nat → Prop} {w w1 : World} {L1 : List UInt8} {ln : Bool} {ls : Int} {ts : Bool} (h : Holds w1 p A1 L1 ln ls ts) (hk : Kept A A1 w w1) (v : Int) :
    Holds ((w1.setCell ⟨p, 3, none⟩ (.int .i64 v)).setCell ⟨p, 4, none⟩ (.bool ln)) p A1 L1 ln v ln ∧ Kept A A1 w ((w1.setCell ⟨p, 3, none⟩ (.int .i64 v)).setCell ⟨p, 4, none⟩ (.bool ln)) :=
  ⟨((h.set3 v).1.set4 ln).1, (hk.trans (h.set3 v).2).trans ((h.set3 v).1.set4 ln).2⟩

set_option maxHeartbeats 1000000 in
theorem startNext47 (p : Nat) (A : Nat → Prop) (L xs : List UInt8) (first : Bool) (b off c : Nat) (ln : Bool) (ls : Int) (ts : Bool) (w : World) (h : Holds w p A L ln ls ts) (hsrc : BS w b off xs) (hap : ¬ A b) (hbl : b < w.heap.size) (hb : L.length + xs.length < 4194304) (hc : xs.length ≤ c) (hc2 : c ≤ 9223372036854775807) :
    Calls Try.prog 47 #[.pointer (some ⟨p, 0, none⟩), .bool first, .slice (some ⟨b, off, none⟩) xs.length c] w (Now p A w (begun first L ++ part ln xs) ln ((begun first L).length : Nat) (still ln xs)) := by
  have HS : Hid (BS w b off xs) := hsrc
  have HH : Hid (Holds w p A L ln ls ts) := h
  clear hsrc h
  have HB : Hid (L.length + xs.length < 4194304) := hb
  clear hb
  cases first with
  | false =>
    go_enter Try.func47, Try.ntmps47
    go_wp2_with fail
    refine (hAdd p A L 10 ln ls ts _ HH.out (by have := HB.out; omega)).mono ?_
    rintro e w1 ⟨rfl, A1, h1, k1⟩
    have HA1 : Hid (Holds w1 p A1 (L ++ [10]) ln ls ts) := h1
    have HK1 : Hid (Kept A A1 w w1) := k1
    clear h1 k1
    go_wp2_with fail
    refine (hLen p A1 (L ++ [10]) ln ls ts _ HA1.out (by simp; have := HB.out; omega)).mono ?_
    rintro e w2 ⟨rfl, n, rfl⟩
    have hA2 := HA1.out.drewN n
    have hK2 := HK1.out.trans (Kept.drewN A1 w1 n)
    obtain ⟨d2, d3, d4, dfr⟩ := hA2.cells
    have f3 := dfr 3
    have f4 := dfr 4
    have SS := begin_sets hA2 hK2 ((L ++ [10]).length : Nat)
    have WL := writeLine42 p A1 (L ++ [10]) xs b off c ln _ ln _ SS.1 (HS.out.kept SS.2 hap) (SS.2.not hap hbl) (by simp; have := HB.out; omega) hc hc2
    have HWL : Hid (Calls Try.prog 42 #[.pointer (some ⟨p, 0, none⟩), .slice (some ⟨b, off, none⟩) xs.length c] (((w1.drewN n).setCell ⟨p, 3, none⟩ (.int .i64 ((L ++ [10]).length : Nat))).setCell ⟨p, 4, none⟩ (.bool ln))
      (Now p A1 (((w1.drewN n).setCell ⟨p, 3, none⟩ (.int .i64 ((L ++ [10]).length : Nat))).setCell ⟨p, 4, none⟩ (.bool ln)) (L ++ [10] ++ part ln xs) ln ((L ++ [10]).length : Nat) (still ln xs))) := WL
    have HSK : Hid (Kept A A1 w (((w1.drewN n).setCell ⟨p, 3, none⟩ (.int .i64 ((L ++ [10]).length : Nat))).setCell ⟨p, 4, none⟩ (.bool ln))) := SS.2
    clear SS WL hA2 hK2 dfr
    generalize hLL : L ++ [10] = L1 at *
    go_wp2_with fail
    refine HWL.out.mono ?_
    rintro e w3 ⟨rfl, A3, h3, k3⟩
    have HF : Hid (Now p A w (begun false L ++ part ln xs) ln ((begun false L).length : Nat) (still ln xs) (.returned (.tuple #[])) w3) := by
      have e0 : begun false L = L1 := hLL
      rw [e0]
      exact ⟨rfl, A3, h3, HSK.out.trans k3⟩
    clear h3 k3
    go_wp2_with fail
    go_end0
    exact HF.out
  | true =>
    go_enter Try.func47, Try.ntmps47
    go_wp2_with fail
    refine (hLen p A L ln ls ts _ HH.out (by have := HB.out; omega)).mono ?_
    rintro e w2 ⟨rfl, n, rfl⟩
    have hA2 := HH.out.drewN n
    have hK2 := Kept.drewN A w n
    obtain ⟨d2, d3, d4, dfr⟩ := hA2.cells
    have f3 := dfr 3
    have f4 := dfr 4
    have SS := begin_sets hA2 hK2 (L.length : Nat)
    have WL := writeLine42 p A L xs b off c ln _ ln _ SS.1 (HS.out.kept SS.2 hap) hap (by have := HB.out; omega) hc hc2
    have HWL : Hid (Calls Try.prog 42 #[.pointer (some ⟨p, 0, none⟩), .slice (some ⟨b, off, none⟩) xs.length c] (((w.drewN n).setCell ⟨p, 3, none⟩ (.int .i64 (L.length : Nat))).setCell ⟨p, 4, none⟩ (.bool ln))
      (Now p A (((w.drewN n).setCell ⟨p, 3, none⟩ (.int .i64 (L.length : Nat))).setCell ⟨p, 4, none⟩ (.bool ln)) (L ++ part ln xs) ln (L.length : Nat) (still ln xs))) := WL
    have HSK : Hid (Kept A A w (((w.drewN n).setCell ⟨p, 3, none⟩ (.int .i64 (L.length : Nat))).setCell ⟨p, 4, none⟩ (.bool ln))) := SS.2
    clear SS WL hA2 hK2 dfr
    go_wp2_with fail
    refine HWL.out.mono ?_
    rintro e w3 ⟨rfl, A3, h3, k3⟩
    have HF : Hid (Now p A w (begun true L ++ part ln xs) ln ((begun true L).length : Nat) (still ln xs) (.returned (.tuple #[])) w3) := ⟨rfl, A3, h3, HSK.out.trans k3⟩
    clear h3 k3
    go_wp2_with fail
    go_end0
    exact HF.out
end EL
end Go.Proofs.Qxb6001700a
