/- endLine, ZZEndLine, ZZEndLineValue; ZZWriteLine. -/
import Derived.Test.Qxb6001700aEndV2
namespace Go.Proofs.Qxb6001700a
open Go.ChangeShapes Go.WideShapes Go.ChangeAt Go.RowKit
set_option linter.unusedVariables false
set_option linter.unusedSimpArgs false
namespace EL

set_option maxHeartbeats 400000 in
theorem end38t (p : Nat) (A : Nat → Prop) (L : List UInt8) (start : Nat) (ts : Bool) (w : World) (h : Holds w p A L true start ts) (hb : L.length ≤ 4194304) (hst : start ≤ L.length) :
    Calls Try.prog 38 #[.pointer (some ⟨p, 0, none⟩)] w (Now p A w (endOf L start) true start ts) := by
  obtain ⟨c2, c3, c4, hfr⟩ := h.cells
  have HC : Hid (Calls Try.prog 43 #[.pointer (some ⟨p, 0, none⟩)] w (Now p A w (endOf L start) true start ts)) := endV43 p A L start true ts w h hb hst
  clear h hfr c3 c4
  go_enter Try.func38, Try.ntmps38
  go_wp2_with fail
  refine HC.out.mono ?_
  rintro e w1 ⟨rfl, hN⟩
  have HF : Hid (Now p A w (endOf L start) true start ts (.returned (.tuple #[])) w1) := ⟨rfl, hN⟩
  clear hN HC
  go_wp2_with fail
  go_end0
  exact HF.out

set_option maxHeartbeats 400000 in
theorem end24t (p : Nat) (A : Nat → Prop) (L : List UInt8) (start : Nat) (ts : Bool) (w : World) (h : Holds w p A L true start ts) (hb : L.length ≤ 4194304) (hst : start ≤ L.length) :
    Calls Try.prog 24 #[.pointer (some ⟨p, 0, none⟩)] w (Now p A w (endOf L start) true start ts) := by
  have HC : Hid (Calls Try.prog 38 #[.pointer (some ⟨p, 0, none⟩)] w (Now p A w (endOf L start) true start ts)) := end38t p A L start ts w h hb hst
  clear h
  go_enter Try.func24, Try.ntmps24
  go_wp2_with fail
  refine HC.out.mono ?_
  rintro e w1 ⟨rfl, hN⟩
  have HF : Hid (Now p A w (endOf L start) true start ts (.returned (.tuple #[])) w1) := ⟨rfl, hN⟩
  clear hN HC
  go_wp2_with fail
  go_end0
  exact HF.out

set_option maxHeartbeats 400000 in
theorem end34 (p : Nat) (A : Nat → Prop) (L : List UInt8) (start : Nat) (ln ts : Bool) (w : World) (h : Holds w p A L ln start ts) (hb : L.length ≤ 4194304) (hst : start ≤ L.length) :
    Calls Try.prog 34 #[.pointer (some ⟨p, 0, none⟩)] w (Now p A w (endOf L start) ln start ts) := by
  have HC : Hid (Calls Try.prog 43 #[.pointer (some ⟨p, 0, none⟩)] w (Now p A w (endOf L start) ln start ts)) := endV43 p A L start ln ts w h hb hst
  clear h
  go_enter Try.func34, Try.ntmps34
  go_wp2_with fail
  refine HC.out.mono ?_
  rintro e w1 ⟨rfl, hN⟩
  have HF : Hid (Now p A w (endOf L start) ln start ts (.returned (.tuple #[])) w1) := ⟨rfl, hN⟩
  clear hN HC
  go_wp2_with fail
  go_end0
  exact HF.out

set_option maxHeartbeats 400000 in
theorem write29 (p : Nat) (A : Nat → Prop) (L xs : List UInt8) (b off c : Nat) (ln : Bool) (ls : Int) (ts : Bool) (w : World) (h : Holds w p A L ln ls ts) (hsrc : BS w b off xs) (hap : ¬ A b) (hb : L.length + xs.length ≤ 4194304) (hc : xs.length ≤ c) (hc2 : c ≤ 9223372036854775807) :
    Calls Try.prog 29 #[.pointer (some ⟨p, 0, none⟩), .slice (some ⟨b, off, none⟩) xs.length c] w (Now p A w (L ++ part ts xs) ln ls (still ts xs)) := by
  have HC : Hid (Calls Try.prog 42 #[.pointer (some ⟨p, 0, none⟩), .slice (some ⟨b, off, none⟩) xs.length c] w (Now p A w (L ++ part ts xs) ln ls (still ts xs))) := writeLine42 p A L xs b off c ln ls ts w h hsrc hap hb hc hc2
  clear h hsrc hb
  go_enter Try.func29, Try.ntmps29
  go_wp2_with fail
  refine HC.out.mono ?_
  rintro e w1 ⟨rfl, hN⟩
  have HF : Hid (Now p A w (L ++ part ts xs) ln ls (still ts xs) (.returned (.tuple #[])) w1) := ⟨rfl, hN⟩
  clear hN HC
  go_wp2_with fail
  go_end0
  exact HF.out
end EL
end Go.Proofs.Qxb6001700a
