/- endLineValue: the walk. -/
import Derived.Test.Qxb6001700aEndV
namespace Go.Proofs.Qxb6001700a
open Go.ChangeShapes Go.WideShapes Go.ChangeAt Go.RowKit
set_option linter.unusedVariables false
set_option linter.unusedSimpArgs false
namespace EL

set_option maxHeartbeats 2000000 in
theorem endV43 (p : Nat) (A : Nat → Prop) (L : List UInt8) (start : Nat) (ln : Bool) (ts : Bool) (w : World) (h : Holds w p A L ln start ts) (hb : L.length ≤ 4194304) (hst : start ≤ L.length) :
    Calls Try.prog 43 #[.pointer (some ⟨p, 0, none⟩)] w (Now p A w (endOf L start) ln start ts) := by
  obtain ⟨c2, c3, c4, hfr⟩ := h.cells
  have HH : Hid (Holds w p A L ln start ts) := h
  clear h hfr c2 c4
  go_enter Try.func43, Try.ntmps43
  go_wp2_with fail
  refine (trim51 p A L start ln start ts _ HH.out hb hst).mono ?_
  rintro e w1 ⟨rfl, A1, h1, k1⟩
  have HEO : Hid (endOf L start = if (L.take (trimTo L start L.length)).length = start + 1 ∧ (L.take (trimTo L start L.length)).getD start 0 = 46 then (L.take (trimTo L start L.length)).take start else L.take (trimTo L start L.length)) := rfl
  have hb1 : (L.take (trimTo L start L.length)).length ≤ 4194304 := by simp; omega
  generalize L.take (trimTo L start L.length) = L1 at *
  obtain ⟨d2, d3, d4, hfr⟩ := h1.cells
  have HH1 : Hid (Holds w1 p A1 L1 ln start ts) := h1
  have HK1 : Hid (Kept A A1 w w1) := k1
  clear h1 k1 hfr d2 d4 c3
  have LEN : Hid (∀ n, Calls Try.prog 48 #[.pointer (some ⟨p, 0, none⟩)] (w1.drewN n) fun e w' => e = .returned (.int .i64 L1.length) ∧ ∃ k, w' = w1.drewN k) := fun n => (hLen48 p A1 L1 ln start ts _ (HH1.out.drewN n) hb1).mono (by rintro e w' ⟨rfl, k, rfl⟩; exact ⟨rfl, n + k, by first | rfl | simp⟩)
  have hws : start ≤ 4194304 := by omega
  by_cases hd : L1.length = start + 1
  · obtain ⟨a, hca, hat⟩ := hAtX p A1 L1 ln start ts w1 HH1.out hb1 start (by omega)
    have HAT : Hid (∀ n, Calls Try.prog 49 #[.pointer (some ⟨p, 0, none⟩), .int .i64 start] (w1.drewN n) fun e w' => e = .returned (.pointer (some a)) ∧ ∃ k, w' = w1.drewN k) := fun n => (hat n).mono (by rintro e w' ⟨rfl, rfl⟩; exact ⟨rfl, n, rfl⟩)
    clear hat
    have hw : IntKind.i64.wrap ((L1.length : Int) - (start : Int)) = 1 := by rw [wrapEq, IntWalk.wrap64_in _ ⟨by omega, by omega⟩]; omega
    obtain ⟨y, hy⟩ : ∃ y, L1.getD start 0 = y := ⟨_, rfl⟩
    have HEO2 : Hid (endOf L start = if y = 46 then L1.take start else L1) := by show _ = _; rw [HEO.out, hy]; simp [hd]
    rw [hy] at hca
    unfold bv at hca
    clear hy
    have q1 : ((y.toNat : Int) == 46) = (y == 46) := toNat_eq y 46
    have HDL : Hid (L1.length = start + 1) := hd
    clear hd
    cases hy : (y == 46) with
    | true =>
      have q2 := q1.trans hy
      have HEO3 : Hid (endOf L start = L1.take start) := by show _ = _; rw [HEO2.out, if_pos (by simpa using hy)]
      clear q1 hy HEO HEO2
      generalize (y.toNat : Int) = yn at *
      go_wp2_with fail
      go_quiet ((first | (go_at_call 48; exact LEN.out _) | (go_at_call 49; exact HAT.out _)))
      have HTR : Hid (∀ n, Calls Try.prog 52 #[.pointer (some ⟨p, 0, none⟩), .int .i64 start] (w1.drewN n) fun e w' => e = .returned (.tuple #[]) ∧ Hid (Now p A w (endOf L start) ln start ts (.returned (.tuple #[])) w')) := fun n => (hTrunc p A1 L1 start ln start ts _ (HH1.out.drewN n) hb1 (by have := HDL.out; omega)).mono (by
        rintro e w2 ⟨rfl, A2, h2, k2⟩
        refine ⟨rfl, rfl, A2, ?_, (HK1.out.trans (Kept.drewN A1 w1 n)).trans k2⟩
        rw [HEO3.out]; exact h2)
      clear LEN HAT HEO3
      go_wp2_with fail
      go_region_with ((go_at_call 52; refine (HTR.out _).mono ?_; rintro e w2 ⟨rfl, HF⟩))
      all_goals (
        go_wp2_with fail
        go_end0
        exact HF.out)
    | false =>
      have q2 := q1.trans hy
      have HF : Hid (∀ n, Now p A w (endOf L start) ln start ts (.returned (.tuple #[])) (w1.drewN n)) := fun n => ⟨rfl, A1, by rw [HEO2.out, if_neg (by simpa using hy)]; exact HH1.out.drewN n, HK1.out.trans (Kept.drewN A1 w1 n)⟩
      clear q1 hy HEO HEO2
      generalize (y.toNat : Int) = yn at *
      go_wp2_with fail
      go_quiet ((first | (go_at_call 48; exact LEN.out _) | (go_at_call 49; exact HAT.out _)))
      clear LEN HAT
      go_wp2_with fail
      go_end0
      exact HF.out _
  · obtain ⟨d, hdd⟩ : ∃ d : Int, (L1.length : Int) - (start : Int) = d := ⟨_, rfl⟩
    have hw : IntKind.i64.wrap ((L1.length : Int) - (start : Int)) = d := by rw [wrapEq, IntWalk.wrap64_in _ ⟨by omega, by omega⟩]; exact hdd
    have hd1 : (d == 1) = false := by simp; omega
    have HF : Hid (∀ n, Now p A w (endOf L start) ln start ts (.returned (.tuple #[])) (w1.drewN n)) := fun n => ⟨rfl, A1, by rw [HEO.out, if_neg (fun h => hd h.1)]; exact HH1.out.drewN n, HK1.out.trans (Kept.drewN A1 w1 n)⟩
    clear hdd hd HEO
    go_wp2_with fail
    go_quiet ((go_at_call 48; exact LEN.out _))
    clear LEN
    go_wp2_with fail
    go_end0
    exact HF.out _
end EL
end Go.Proofs.Qxb6001700a
