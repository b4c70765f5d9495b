/- Saturating additions; ZZWork; the wrapper. -/
import Derived.Test.Qxb6003137aBound
namespace Go.Proofs.Qxb6003137a
open Go.ChangeShapes Go.WideShapes Go.ChangeAt Go.RowKit
set_option linter.unusedVariables false
set_option linter.unusedSimpArgs false
namespace CY

theorem sat27 (m a b : Nat) (hm : m ≤ 9223372036854775807) (w : World) :
    Calls Try.prog 27 #[.int .i64 (cap m a : Nat), .int .i64 (cap m b : Nat), .int .i64 (m : Nat)] w fun e w' => e = .returned (.int .i64 (cap m (a + b) : Nat)) ∧ w' = w := by
  have ha := cap_le m a
  have hb := cap_le m b
  by_cases h : m < cap m a + cap m b
  · have hc := cap_over m a b h
    rw [hc]
    clear hc
    generalize cap m a = x at *
    generalize cap m b = y at *
    go_enter Try.func27, Try.ntmps27
    go_wp2
    go_ret
    exact ⟨rfl, rfl⟩
  · have hc := cap_add m a b (by omega)
    rw [hc]
    clear hc
    generalize cap m a = x at *
    generalize cap m b = y at *
    go_enter Try.func27, Try.ntmps27
    go_wp2
    go_ret
    exact ⟨by go_num, rfl⟩

theorem add38 (p m a b : Nat) (f : Nat → Value) (w : World) (hr : w.rowIs p 48 14 f) (hf : f 2 = .int .i64 ((m : Int) - 1)) (h0 : 0 < m) (hm : m ≤ 9223372036854775807) :
    Calls Try.prog 38 #[.pointer (some ⟨p, 0, none⟩), .int .i64 (cap m a : Nat), .int .i64 (cap m b : Nat)] w fun e w' => e = .returned (.int .i64 (cap m (a + b) : Nat)) ∧ w' = w := by
  have ha := cap_le m a
  have hb := cap_le m b
  have c2 := hr.cell (i := 2) (by decide)
  rw [hf] at c2
  by_cases h : m < cap m a + cap m b
  · have hc := cap_over m a b h
    rw [hc]
    clear hc
    generalize cap m a = x at *
    generalize cap m b = y at *
    go_enter Try.func38, Try.ntmps38
    go_wp2
    go_ret
    exact ⟨by go_num, rfl⟩
  · have hc := cap_add m a b (by omega)
    rw [hc]
    clear hc
    generalize cap m a = x at *
    generalize cap m b = y at *
    go_enter Try.func38, Try.ntmps38
    go_wp2
    go_ret
    exact ⟨by go_num, rfl⟩

theorem work22 (p : Nat) (f : Nat → Value) (k : Int) (w : World) (hr : w.rowIs p 48 14 f) (hf : f 4 = .int .i64 k) :
    Calls Try.prog 22 #[.pointer (some ⟨p, 0, none⟩)] w fun e w' => e = .returned (.int .i64 k) ∧ w' = w := by
  have c2 := hr.cell (i := 4) (by decide)
  rw [hf] at c2
  go_enter Try.func22, Try.ntmps22
  go_wp2
  go_ret
  exact ⟨rfl, rfl⟩
end CY
end Go.Proofs.Qxb6003137a
