/- startLine and ZZStartLine; ZZNewValueBuffer. -/
import Derived.Test.Qxb6001700aStart2
namespace Go.Proofs.Qxb6001700a
open Go.ChangeShapes Go.WideShapes Go.ChangeAt Go.RowKit
set_option linter.unusedVariables false
set_option linter.unusedSimpArgs false
namespace EL

def NowAny (p : Nat) (A : Nat → Prop) (w : World) (L : List UInt8) (ln : Bool) (ts : Bool) (e : Ending) (w' : World) : Prop := ∃ ls, Now p A w L ln ls ts e w'

set_option maxHeartbeats 1000000 in
theorem start37f (p : Nat) (A : Nat → Prop) (L xs : List UInt8) (first : Bool) (b off c : Nat) (ls : Int) (w : World) (h : Holds w p A L false ls false) (hsrc : BS w b off xs) (hap : ¬ A b) (hbl : b < w.heap.size) (hb : L.length + xs.length < 4194304) (hc : xs.length ≤ c) (hc2 : c ≤ 9223372036854775807) :
    Calls Try.prog 37 #[.pointer (some ⟨p, 0, none⟩), .bool first, .slice (some ⟨b, off, none⟩) xs.length c] w (NowAny p A w (begun first L ++ xs) false false) := by
  obtain ⟨c2, c3, c4, hfr⟩ := h.cells
  cases first with
  | true =>
    have HC : Hid (Calls Try.prog 46 #[.pointer (some ⟨p, 0, none⟩), .slice (some ⟨b, off, none⟩) xs.length c] w (Now p A w (L ++ xs) false ls false)) := hWrite p A L xs b off c false ls false w h hsrc hap (by omega) hc hc2
    clear h hsrc hb hfr
    go_enter Try.func37, Try.ntmps37
    go_wp2_with fail
    refine HC.out.mono ?_
    rintro e w1 ⟨rfl, hN⟩
    have HF : Hid (NowAny p A w (begun true L ++ xs) false false (.returned (.tuple #[])) w1) := ⟨ls, rfl, hN⟩
    clear hN HC
    go_wp2_with fail
    go_end0
    exact HF.out
  | false =>
    have HC : Hid (Calls Try.prog 47 #[.pointer (some ⟨p, 0, none⟩), .bool false, .slice (some ⟨b, off, none⟩) xs.length c] w (Now p A w (begun false L ++ xs) false ((begun false L).length : Nat) false)) :=
      startNext47 p A L xs false b off c false ls false w h hsrc hap hbl hb hc hc2
    clear h hsrc hb hfr
    go_enter Try.func37, Try.ntmps37
    go_wp2_with fail
    refine HC.out.mono ?_
    rintro e w1 ⟨rfl, hN⟩
    have HF : Hid (NowAny p A w (begun false L ++ xs) false false (.returned (.tuple #[])) w1) := ⟨_, rfl, hN⟩
    clear hN HC
    go_wp2_with fail
    go_end0
    exact HF.out

set_option maxHeartbeats 1000000 in
theorem start37t (p : Nat) (A : Nat → Prop) (L xs : List UInt8) (first : Bool) (b off c : Nat) (ls : Int) (ts : Bool) (w : World) (h : Holds w p A L true ls ts) (hsrc : BS w b off xs) (hap : ¬ A b) (hbl : b < w.heap.size) (hb : L.length + xs.length < 4194304) (hc : xs.length ≤ c) (hc2 : c ≤ 9223372036854775807) :
    Calls Try.prog 37 #[.pointer (some ⟨p, 0, none⟩), .bool first, .slice (some ⟨b, off, none⟩) xs.length c] w (Now p A w (begun first L ++ part true xs) true ((begun first L).length : Nat) (still true xs)) := by
  obtain ⟨c2, c3, c4, hfr⟩ := h.cells
  have HC : Hid (Calls Try.prog 47 #[.pointer (some ⟨p, 0, none⟩), .bool first, .slice (some ⟨b, off, none⟩) xs.length c] w (Now p A w (begun first L ++ part true xs) true ((begun first L).length : Nat) (still true xs))) :=
      startNext47 p A L xs first b off c true ls ts w h hsrc hap hbl hb hc hc2
  clear h hsrc hb hfr
  cases first with
  | true =>
    go_enter Try.func37, Try.ntmps37
    go_wp2_with fail
    refine HC.out.mono ?_
    rintro e w1 ⟨rfl, hN⟩
    have HF : Hid (Now p A w (begun true L ++ part true xs) true ((begun true L).length : Nat) (still true xs) (.returned (.tuple #[])) w1) := ⟨rfl, hN⟩
    clear hN HC
    go_wp2_with fail
    go_end0
    exact HF.out
  | false =>
    go_enter Try.func37, Try.ntmps37
    go_wp2_with fail
    refine HC.out.mono ?_
    rintro e w1 ⟨rfl, hN⟩
    have HF : Hid (Now p A w (begun false L ++ part true xs) true ((begun false L).length : Nat) (still true xs) (.returned (.tuple #[])) w1) := ⟨rfl, hN⟩
    clear hN HC
    go_wp2_with fail
    go_end0
    exact HF.out

set_option maxHeartbeats 1000000 in
theorem start23f (p : Nat) (A : Nat → Prop) (L xs : List UInt8) (first : Bool) (b off c : Nat) (ls : Int) (w : World) (h : Holds w p A L false ls false) (hsrc : BS w b off xs) (hap : ¬ A b) (hbl : b < w.heap.size) (hb : L.length + xs.length < 4194304) (hc : xs.length ≤ c) (hc2 : c ≤ 9223372036854775807) :
    Calls Try.prog 23 #[.pointer (some ⟨p, 0, none⟩), .bool first, .slice (some ⟨b, off, none⟩) xs.length c] w (NowAny p A w (begun first L ++ xs) false false) := by
  have HC : Hid (Calls Try.prog 37 #[.pointer (some ⟨p, 0, none⟩), .bool first, .slice (some ⟨b, off, none⟩) xs.length c] w (NowAny p A w (begun first L ++ xs) false false)) := start37f p A L xs first b off c ls w h hsrc hap hbl hb hc hc2
  clear h hsrc hb
  go_enter Try.func23, Try.ntmps23
  go_wp2_with fail
  refine HC.out.mono ?_
  rintro e w1 ⟨ls', rfl, hN⟩
  have HF : Hid (NowAny p A w (begun first L ++ xs) false false (.returned (.tuple #[])) w1) := ⟨_, rfl, hN⟩
  clear hN HC
  go_wp2_with fail
  go_end0
  exact HF.out

set_option maxHeartbeats 1000000 in
theorem start23t (p : Nat) (A : Nat → Prop) (L xs : List UInt8) (first : Bool) (b off c : Nat) (ls : Int) (ts : Bool) (w : World) (h : Holds w p A L true ls ts) (hsrc : BS w b off xs) (hap : ¬ A b) (hbl : b < w.heap.size) (hb : L.length + xs.length < 4194304) (hc : xs.length ≤ c) (hc2 : c ≤ 9223372036854775807) :
    Calls Try.prog 23 #[.pointer (some ⟨p, 0, none⟩), .bool first, .slice (some ⟨b, off, none⟩) xs.length c] w (Now p A w (begun first L ++ part true xs) true ((begun first L).length : Nat) (still true xs)) := by
  have HC : Hid (Calls Try.prog 37 #[.pointer (some ⟨p, 0, none⟩), .bool first, .slice (some ⟨b, off, none⟩) xs.length c] w (Now p A w (begun first L ++ part true xs) true ((begun first L).length : Nat) (still true xs))) := start37t p A L xs first b off c ls ts w h hsrc hap hbl hb hc hc2
  clear h hsrc hb
  go_enter Try.func23, Try.ntmps23
  go_wp2_with fail
  refine HC.out.mono ?_
  rintro e w1 ⟨rfl, hN⟩
  have HF : Hid (Now p A w (begun first L ++ part true xs) true ((begun first L).length : Nat) (still true xs) (.returned (.tuple #[])) w1) := ⟨rfl, hN⟩
  clear hN HC
  go_wp2_with fail
  go_end0
  exact HF.out

set_option maxHeartbeats 400000 in
theorem end24f (p : Nat) (A : Nat → Prop) (L : List UInt8) (ls : Int) (ts : Bool) (w : World) (h : Holds w p A L false ls ts) :
    Calls Try.prog 24 #[.pointer (some ⟨p, 0, none⟩)] w fun e w' => e = .returned (.tuple #[]) ∧ w' = w := by
  obtain ⟨c2, c3, c4, hfr⟩ := h.cells
  have H38 : Calls Try.prog 38 #[.pointer (some ⟨p, 0, none⟩)] w fun e w' => e = .returned (.tuple #[]) ∧ w' = w := by
    clear h hfr
    go_enter Try.func38, Try.ntmps38
    go_wp2_with fail
    go_end0
    exact ⟨rfl, rfl⟩
  clear h hfr
  have HC : Hid (Calls Try.prog 38 #[.pointer (some ⟨p, 0, none⟩)] w fun e w' => e = .returned (.tuple #[]) ∧ w' = w) := H38
  clear H38
  go_enter Try.func24, Try.ntmps24
  go_wp2_with fail
  refine HC.out.mono ?_
  rintro e w1 ⟨rfl, hw⟩
  obtain rfl := hw.symm
  clear hw HC
  go_wp2_with fail
  go_end0
  exact ⟨rfl, rfl⟩

set_option maxHeartbeats 400000 in
theorem new22 (ln : Bool) (w : World) :
    Calls Try.prog 22 #[.bool ln] w fun e w' => e = .returned (.pointer (some ⟨w.heap.size, 0, none⟩)) ∧ w' = w.alloc (.cells #[.slice none 0 0, .slice none 0 0, .bool ln, .int .i64 0, .bool false] 53) := by
  go_enter Try.func22, Try.ntmps22
  go_wp2_with fail
  go_ret
  exact ⟨rfl, rfl⟩

theorem new_holds (ln : Bool) (w : World) : Holds (w.alloc (.cells #[.slice none 0 0, .slice none 0 0, .bool ln, .int .i64 0, .bool false] 53)) w.heap.size (fun g => g = w.heap.size) [] ln 0 false := by
  have hh := heap_alloc_new w (.cells #[.slice none 0 0, .slice none 0 0, .bool ln, .int .i64 0, .bool false] 53)
  refine ⟨{ vf := .slice none 0 0, vl := .slice none 0 0, fulls := [], last := [] }, ⟨?_, ?_, ?_, ?_, ?_, ⟨_, hh, rfl⟩, World.ownsRow_nil _ _ _ _, World.ownsRow_nil _ _ _ _, by simp, by simp, by simp, by simp [capOf], by simp⟩, rfl, ?_, by simp⟩
  iterate 5 (simp only [World.cell?, hh]; rfl)
  funext g
  simp [St.fp, Value.ownBlock]
end EL
end Go.Proofs.Qxb6001700a
