/- bufferHolds, buffersAgree. -/
import Derived.Test.Qxb6001700aJoin
namespace Go.Proofs.Qxb6001700a
open Go.ChangeShapes Go.WideShapes Go.ChangeAt Go.RowKit
set_option linter.unusedVariables false
set_option linter.unusedSimpArgs false
namespace EL

theorem quiet_more {P : Program} {f : Nat} {args : Array Value} {w : World} {n x : Nat} {v : Value} (h : Calls P f args (w.drewN (n + x)) fun e w' => e = .returned v ∧ w' = w.drewN (n + x)) :
    Calls P f args (w.drewN (n + x)) fun e w'' => e = .returned v ∧ ∃ m, w'' = w.drewN (n + m) := h.mono (by rintro e w' ⟨rfl, rfl⟩; exact ⟨rfl, x, rfl⟩)

set_option maxHeartbeats 1000000 in
theorem holds25 (p : Nat) (A : Nat → Prop) (L : List UInt8) (ln : Bool) (ls : Int) (ts : Bool) (g cap base : Nat) (w : World) (h : Holds w p A L ln ls ts) (hb : L.length ≤ 4194304) (hw : w.ownsRow base 5 1 (.slice (some ⟨g, 0, none⟩) L.length cap) L.length (L.map bv)) :
    Calls Try.prog 25 #[.pointer (some ⟨p, 0, none⟩), .slice (some ⟨g, 0, none⟩) L.length cap] w fun e w' => e = .returned (.bool true) ∧ ∃ n, w' = w.drewN n := by
  have HH : Hid (∀ n, Holds (w.drewN n) p A L ln ls ts) := fun n => h.drewN n
  have HC : Hid (∀ i (hi : i < L.length), w.cell? ⟨g, i, none⟩ = some (bv L[i])) := fun i hi => by
    rw [hw.cellAt i (by omega), List.getElem?_map, List.getElem?_eq_getElem hi]; rfl
  clear h hw
  go_enter Try.func25, Try.ntmps25
  go_wp2_with fail
  refine (len39 p A L ln ls ts _ (HH.out 0) hb).mono ?_
  rintro e w' ⟨rfl, n0, rfl⟩
  go_wp2_with fail
  go_loopw [6] (fun i wr => ∃ k n : Nat, k ≤ L.length ∧ i = .int .i64 k ∧ wr = w.drewN n) (fun i _ => L.length - (intOf i).toNat)
  case atStart => exact ⟨0, _, Nat.zero_le _, rfl, rfl⟩
  case round =>
    obtain ⟨k, n, hk, rfl, rfl⟩ := hrel
    by_cases hlt : k < L.length
    · have hc := HC.out k hlt
      have hq : (((L[k].toNat : Int)) != (L[k].toNat : Int)) = false := by simp
      have hi : (k : Int) < (L.length : Int) := by omega
      unfold bv at hc
      have AT : Hid (∀ n, Calls Try.prog 40 #[.pointer (some ⟨p, 0, none⟩), .int .i64 k] (w.drewN n) fun e w' => e = .returned (.int .u8 (L[k].toNat : Int)) ∧ w' = w.drewN n) := fun n => at40 p A L ln ls ts (w.drewN n) (HH.out n) hb k hlt
      generalize (L[k].toNat : Int) = x at *
      go_wp2_with fail
      go_quiet ((go_at_call 40; exact quiet_more (AT.out _)))
      go_wp2_with fail
      go_roundw
      case rel => exact ⟨k + 1, _, by omega, by go_num, rfl⟩
      case measure => simp [intOf]; omega
    · go_wp2_with fail
      go_ret
      exact ⟨rfl, _, rfl⟩

set_option maxHeartbeats 1000000 in
theorem agree30 (p q : Nat) (A B : Nat → Prop) (L : List UInt8) (ln ln' : Bool) (ls ls' : Int) (ts ts' : Bool) (w : World) (h : Holds w p A L ln ls ts) (h' : Holds w q B L ln' ls' ts') (hb : L.length ≤ 4194304) :
    Calls Try.prog 30 #[.pointer (some ⟨p, 0, none⟩), .pointer (some ⟨q, 0, none⟩)] w fun e w' => e = .returned (.bool true) ∧ ∃ n, w' = w.drewN n := by
  have HH : Hid (∀ n, Holds (w.drewN n) p A L ln ls ts) := fun n => h.drewN n
  have HH' : Hid (∀ n, Holds (w.drewN n) q B L ln' ls' ts') := fun n => h'.drewN n
  clear h h'
  go_enter Try.func30, Try.ntmps30
  go_wp2_with fail
  refine (len39 p A L ln ls ts _ (HH.out 0) hb).mono ?_
  rintro e w' ⟨rfl, n0, rfl⟩
  go_wp2_with fail
  refine (len39 q B L ln' ls' ts' _ (HH'.out n0) hb).mono ?_
  rintro e w' ⟨rfl, n1, rfl⟩
  go_wp2_with fail
  go_loopw [6] (fun i wr => ∃ k n : Nat, k ≤ L.length ∧ i = .int .i64 k ∧ wr = w.drewN n) (fun i _ => L.length - (intOf i).toNat)
  case atStart => exact ⟨0, n0 + n1, Nat.zero_le _, rfl, by first | rfl | simp⟩
  case round =>
    obtain ⟨k, n, hk, rfl, rfl⟩ := hrel
    by_cases hlt : k < L.length
    · have hq : (((L[k].toNat : Int)) != (L[k].toNat : Int)) = false := by simp
      have AT : Hid (∀ n, Calls Try.prog 40 #[.pointer (some ⟨p, 0, none⟩), .int .i64 k] (w.drewN n) fun e w' => e = .returned (.int .u8 (L[k].toNat : Int)) ∧ w' = w.drewN n) := fun n => at40 p A L ln ls ts (w.drewN n) (HH.out n) hb k hlt
      have AT' : Hid (∀ n, Calls Try.prog 40 #[.pointer (some ⟨q, 0, none⟩), .int .i64 k] (w.drewN n) fun e w' => e = .returned (.int .u8 (L[k].toNat : Int)) ∧ w' = w.drewN n) := fun n => at40 q B L ln' ls' ts' (w.drewN n) (HH'.out n) hb k hlt
      generalize (L[k].toNat : Int) = x at *
      go_wp2_with fail
      refine (AT.out _).mono ?_
      rintro e w' ⟨rfl, rfl⟩
      go_wp2_with fail
      refine (AT'.out _).mono ?_
      rintro e w' ⟨rfl, rfl⟩
      go_wp2_with fail
      go_roundw
      case rel => exact ⟨k + 1, _, by omega, by go_num, rfl⟩
      case measure => simp [intOf]; omega
    · go_wp2_with fail
      go_ret
      exact ⟨rfl, _, rfl⟩
end EL
end Go.Proofs.Qxb6001700a
