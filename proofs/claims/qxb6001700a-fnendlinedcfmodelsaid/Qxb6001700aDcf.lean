/- FnEndLineDCFModel: the walk. -/
import Derived.Test.Qxb6001700aJoinD
import Derived.Test.Qxb6001700aKeep
import Derived.Test.Qxb6001700aEndL
import Derived.Lib.ConvBytes
namespace Go.Proofs.Qxb6001700a
open Go.ChangeShapes Go.WideShapes Go.ChangeAt Go.RowKit
set_option linter.unusedVariables false
set_option linter.unusedSimpArgs false
namespace EL

set_option maxRecDepth 100000 in
set_option maxHeartbeats 2000000 in
theorem dcf_walk (ss : List ByteArray) (at0 : Option Addr) (b0 o0 c0 : Nat) (w : World) (h0 : SS w at0 b0 o0 ss) (hn0 : Hid (at0 = none → ss.length = 0 ∧ c0 = 0)) (hl0 : ss.length ≤ 9223372036854775807) :
    Calls Try.prog 8 #[.slice at0 ss.length c0] w fun e w' => e = .returned (.bool true) ∧ Below w.heap.size w w' := by
  go_enter Try.func8, Try.ntmps8
  go_wp2_with fail
  refine (zzBytes20 ss at0 b0 o0 c0 _ h0 hl0).mono ?_
  rintro e w' ⟨r, rfl, hw, hr⟩
  obtain rfl := hw.symm
  clear hw
  cases r with
  | false =>
    go_wp2_with fail
    go_ret
    exact ⟨rfl, Below.refl _ _⟩
  | true =>
    have HS : Hid (∀ s ∈ ss, s.size ≤ 1048576) := hr rfl
    clear hr
    by_cases hL : ss.length ≤ 65536
    case neg =>
      have hL2 : (65536 : Int) < (ss.length : Int) := by omega
      go_wp2_with fail
      go_ret
      exact ⟨rfl, Below.refl _ _⟩
    have hL2 : ¬ (65536 : Int) < (ss.length : Int) := by omega
    have HL : Hid (ss.length ≤ 65536) := hL
    go_wp2_with fail
    go_loopw [3, 4] (fun t i wr => ∃ k : Nat, k ≤ ss.length ∧ i = .int .i64 k ∧ t = .int .i64 ((16 * ss.length + sumTo ss k : Nat) : Int) ∧ 16 * ss.length + sumTo ss k ≤ 1048576 ∧ wr = w) (fun _ i _ => ss.length - (intOf i).toNat)
    case atStart => exact ⟨0, Nat.zero_le _, rfl, by simp [sumTo], by simp [sumTo]; omega, rfl⟩
    case round =>
    obtain ⟨k, hk, rfl, rfl, hsum, hwr⟩ := hrel
    obtain rfl := hwr.symm
    clear hwr
    by_cases hlt : k < ss.length
    case pos =>
      have hc := h0.cell k hlt
      have ha := h0.addr (by omega)
      subst ha
      have hz : ss[k].size ≤ 1048576 := HS.out _ (List.getElem_mem hlt)
      have HT : Hid (sumTo ss (k + 1) = sumTo ss k + ss[k].size) := by show _ = _; rw [sumTo, getD_of_lt _ _ hlt]
      generalize sumTo ss k = S at *
      by_cases hbig : 16 * ss.length + S + ss[k].size ≤ 1048576
      · go_wp2_with fail
        go_roundw
        case rel => exact ⟨k + 1, by omega, by go_num, by rw [HT.out]; congr 1; omega, by rw [HT.out]; omega, by first | rfl | trivial⟩
        case measure => simp [intOf]; omega
      · go_wp2_with fail
        go_ret
        exact ⟨rfl, Below.refl _ _⟩
    obtain rfl : k = ss.length := by omega
    clear hlt hk
    have HSM : Hid (16 * ss.length + sumTo ss ss.length ≤ 1048576) := hsum
    clear HS hsum
    have HLB : Hid (∀ k (h : k < ss.length), (joinTo trimF ss k).length + (bytesOf ss[k]).length < 4194304) := fun k h => by
      have h1 := joinTo_len trimF trimF_len ss k
      have h2 := sumTo_mono ss (show k + 1 ≤ ss.length from h)
      have h3 := HSM.out
      simp only [sumTo, getD_of_lt _ _ h] at h2
      rw [bytesOf_len]
      omega
    have hcv := fun (w : World) (s : ByteArray) => Lib.run_convert_string_bytes (P := Try.prog) w 9 25 5 s Try.underlying9 Try.underlying25 Try.underlying5
    go_wp2_with fail
    refine (clone21 ss at0 b0 o0 c0 _ h0 (by omega) hn0).mono ?_
    rintro e w1 ⟨at1, b1, rfl, ss1, bel1⟩
    clear h0 hn0
    go_wp2_with fail
    refine (new22 true _).mono ?_
    rintro e w2 ⟨rfl, hw2⟩
    have hH2 := new_holds true w1
    rw [← hw2] at hH2
    have bel2 : Below w1.heap.size w1 w2 := by rw [hw2]; exact (Below.refl _ _).alloc (Nat.le_refl _) _
    clear hw2
    go_wp2_with fail
    go_loopw [6] (fun i wr => ∃ (k : Nat) (A : Nat → Prop) (ls : Int) (ts : Bool), k ≤ ss.length ∧ i = .int .i64 k ∧ Holds wr w1.heap.size A (joinTo trimF ss k) true ls ts ∧ Below w1.heap.size w1 wr) (fun i _ => ss.length - (intOf i).toNat)
    case atStart => exact ⟨0, _, 0, false, Nat.zero_le _, rfl, hH2, bel2⟩
    case round =>
    obtain ⟨k, A, ls, ts, hk, rfl, hH, hbel⟩ := hrel
    by_cases hlt : k < ss.length
    case pos =>
      have hc := (ss1.belowAll hbel).cell k hlt
      have ha := ss1.addr (by omega)
      subst ha
      rw [getD_of_lt _ _ hlt, Nat.zero_add] at hc
      have HJ : Hid (joinTo trimF ss (k + 1) = endOf (begun ((k : Int) == 0) (joinTo trimF ss k) ++ part true (bytesOf ss[k])) (begun ((k : Int) == 0) (joinTo trimF ss k)).length) := by
        show _ = _
        have : ((k : Int) == 0) = (k == 0) := by rw [Bool.eq_iff_iff]; simp
        rw [this, endOf_app, joinTo, getD_of_lt _ _ hlt]
        rfl
      have hlb := HLB.out k hlt
      generalize ss[k] = x at *
      have hB3 := bytesWorld_below wr x
      have hS3 := bytesWorld_bs wr x
      have hH3 : Holds (Lib.bytesWorld wr 5 x) w1.heap.size A (joinTo trimF ss k) true ls ts := hH.of_heap (fun g hg => hB3.block g (hH.lt hg).2)
      have hnA : ¬ A wr.heap.size := fun hg => by have := (hH.lt hg).2; omega
      have hbl : wr.heap.size < (Lib.bytesWorld wr 5 x).heap.size := by rw [Lib.bytesWorld_size]; omega
      have hcap : x.size ≤ grownCap wr x.size 0 5 := grownCap_ge _ _ _ _
      have hxs : x.size ≤ 4194304 := by rw [bytesOf_len] at hlb; omega
      have hcm : grownCap wr x.size 0 5 ≤ 9223372036854775807 := by
        have := grownCap_le_maxLen wr x.size 0 5 (by unfold maxLen; omega)
        unfold maxLen at this
        omega
      have HMB : Hid ((begun ((k : Int) == 0) (joinTo trimF ss k) ++ part true (bytesOf x)).length ≤ 4194304 ∧ (begun ((k : Int) == 0) (joinTo trimF ss k)).length ≤ (begun ((k : Int) == 0) (joinTo trimF ss k) ++ part true (bytesOf x)).length) := by
        show _ ≤ _ ∧ _ ≤ _
        have h1 : (begun ((k : Int) == 0) (joinTo trimF ss k)).length ≤ (joinTo trimF ss k).length + 1 := by unfold begun; split <;> simp
        have h2 : (part true (bytesOf x)).length ≤ (bytesOf x).length := by unfold part; simp
        rw [List.length_append]
        omega
      have CALL := start23t w1.heap.size A (joinTo trimF ss k) (bytesOf x) ((k : Int) == 0) wr.heap.size 0 (grownCap wr x.size 0 5) ls ts _ hH3 hS3 hnA hbl hlb (by rw [bytesOf_len]; exact hcap) hcm
      rw [bytesOf_len] at CALL
      generalize begun ((k : Int) == 0) (joinTo trimF ss k) ++ part true (bytesOf x) = M at *
      generalize (begun ((k : Int) == 0) (joinTo trimF ss k)).length = st at *
      generalize still true (bytesOf x) = tt at *
      have HC : Hid (Calls Try.prog 23 #[.pointer (some ⟨w1.heap.size, 0, none⟩), .bool ((k : Int) == 0), .slice (some ⟨wr.heap.size, 0, none⟩) x.size (grownCap wr x.size 0 5)] (Lib.bytesWorld wr 5 x) (Now w1.heap.size A (Lib.bytesWorld wr 5 x) M true (st : Nat) tt)) := CALL
      clear CALL hS3 hH3 hlb hcap hcm hxs
      generalize hcp : grownCap wr x.size 0 5 = cp at *
      go_wp2_with fail
      refine HC.out.mono ?_
      rintro e w4 ⟨rfl, A4, hH4, hK4⟩
      have hbel4 := line_step (ls' := ls) (ts' := false) (L' := []) hH hbel hB3 hK4
      clear HC hK4 hH hB3
      go_wp2_with fail
      refine (end24t w1.heap.size A4 M st tt _ hH4 HMB.out.1 HMB.out.2).mono ?_
      rintro e w5 ⟨rfl, A5, hH5, hK5⟩
      have hbel5 := line_step (ls' := ls) (ts' := false) (L' := []) hH4 hbel4 (Below.refl _ _) hK5
      rw [← HJ.out] at hH5
      clear HJ HMB hK5 hH4
      go_wp2_with fail
      go_roundw
      case rel => exact ⟨k + 1, A5, _, _, by omega, by go_num, hH5, hbel5⟩
      case measure => simp [intOf]; omega
    obtain rfl : k = ss.length := by omega
    clear hlt hk
    have HSM2 : Hid (sumTo ss ss.length ≤ 1048576) := by have := HSM.out; show _ ≤ _; omega
    have ss2 := ss1.belowAll hbel
    go_wp2_with fail
    refine (joinedDCF26 ss at1 b1 0 ss.length (16 * ss.length + sumTo ss ss.length) _ ss2 HL.out HSM.out HSM2.out).mono ?_
    rintro e w6 ⟨g, cap, rfl, hown6, hbel6⟩
    have hH6 : Holds w6 w1.heap.size A (joinTo trimF ss ss.length) true ls ts := hH.of_heap (fun g hg => hbel6.block g (hH.lt hg).2)
    have hp6 := hbel.size
    have hbel7 : Below w.heap.size w w6 := (bel1.trans (hbel.mono bel1.size)).trans (hbel6.mono (Nat.le_trans bel1.size hbel.size))
    have hlen : (joinTo trimF ss ss.length).length ≤ 4194304 := by
      have h1 := joinTo_len trimF trimF_len ss ss.length
      have := HSM2.out
      omega
    have HC : Hid (Calls Try.prog 25 #[.pointer (some ⟨w1.heap.size, 0, none⟩), .slice (some ⟨g, 0, none⟩) (joinTo trimF ss ss.length).length cap] w6 fun e w' => e = .returned (.bool true) ∧ ∃ n, w' = w6.drewN n) := holds25 w1.heap.size A _ true ls ts g cap _ w6 hH6 hlen hown6
    clear hH6 hown6 hlen hH ss2 hbel6
    generalize joinTo trimF ss ss.length = JJ at *
    go_wp2_with fail
    refine HC.out.mono ?_
    rintro e w7 ⟨rfl, n7, rfl⟩
    go_wp2_with fail
    go_ret
    exact ⟨rfl, below_drewN hbel7 n7⟩
end EL
end Go.Proofs.Qxb6001700a
