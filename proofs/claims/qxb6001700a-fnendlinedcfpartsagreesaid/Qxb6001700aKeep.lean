/- FnEndLineDeb822KeepsLines: the walk. -/
import Derived.Test.Qxb6001700aSame
import Derived.Lib.ConvBytes
namespace Go.Proofs.Qxb6001700a
open Go.ChangeShapes Go.WideShapes Go.ChangeAt Go.RowKit
set_option linter.unusedVariables false
set_option linter.unusedSimpArgs false
namespace EL

def Cloned (ss : List ByteArray) (w : World) (e : Ending) (w' : World) : Prop :=
  ∃ (at' : Option Addr) (b' : Nat), e = .returned (.slice at' ss.length ss.length) ∧ SS w' at' b' 0 ss ∧ Below w.heap.size w w'

theorem clone21 (ss : List ByteArray) (at0 : Option Addr) (b off cap : Nat) (w : World) (h : SS w at0 b off ss) (hl : ss.length ≤ 1048576) (hn : Hid (at0 = none → ss.length = 0 ∧ cap = 0)) :
    Calls Try.prog 21 #[.slice at0 ss.length cap] w (Cloned ss w) := by
  cases at0 with
  | none =>
    obtain ⟨h1, rfl⟩ := hn.out rfl
    rw [h1]
    refine (cloneStrs_nil w).mono ?_
    rintro e w' ⟨rfl, rfl⟩
    exact ⟨none, w'.heap.size, by rw [h1], ⟨fun h => by omega, fun i hi => by omega⟩, Below.refl _ _⟩
  | some a =>
    refine (cloneStrs_any ss a b off cap w h hl).mono ?_
    rintro e w' ⟨rfl, hs, hb, _⟩
    exact ⟨_, _, rfl, hs, hb⟩

theorem bytesWorld_below (w : World) (s : ByteArray) : Below w.heap.size w (Lib.bytesWorld w 5 s) := by
  refine ⟨rfl, rfl, rfl, ?_, fun k hk => Lib.bytesWorld_at_old w 5 s k hk⟩
  rw [Lib.bytesWorld_size]; omega

theorem bytesWorld_bs (w : World) (s : ByteArray) : BS (Lib.bytesWorld w 5 s) w.heap.size 0 (bytesOf s) := fun i hi => by
  rw [bytesOf_len] at hi
  rw [Nat.zero_add, Lib.bytesWorld_cell w 5 s i hi]
  simp [bytesOf, bv, List.getD, hi]

theorem kept_below {A A' : Nat → Prop} {w w' : World} {B : Nat} (h : Kept A A' w w') (hA : ∀ g, A g → B ≤ g) (hB : B ≤ w.heap.size) : Below B w w' :=
  ⟨h.os, h.tape, h.output, h.size, fun k hk => h.block k (by omega) (fun e => by have := hA k e; omega)⟩

/-- One more line is written. -/
theorem line_step {p : Nat} {A A' : Nat → Prop} {wr w1 w2 : World} {L L' : List UInt8} {ln : Bool} {ls ls' : Int} {ts ts' : Bool} {w0 : World} (h : Holds wr p A L ln ls ts) (hb : Below p w0 wr) (h1 : Below wr.heap.size wr w1) (h2 : Kept A A' w1 w2) : Below p w0 w2 := by
  have hp : p ≤ wr.heap.size := by
    obtain ⟨s, hB, _, rfl, _⟩ := h
    have := (hB.lt (g := p) (.inl rfl)).2
    omega
  exact (hb.trans (h1.mono hp)).trans (kept_below h2 (fun g hg => (h.lt hg).1) (Nat.le_trans hp h1.size))

set_option maxRecDepth 100000 in
set_option maxHeartbeats 2000000 in
theorem keep_walk (ss : List ByteArray) (at0 : Option Addr) (b0 o0 c0 : Nat) (w : World) (h0 : SS w at0 b0 o0 ss) (hn0 : Hid (at0 = none → ss.length = 0 ∧ c0 = 0)) (hl0 : ss.length ≤ 9223372036854775807) :
    Calls Try.prog 10 #[.slice at0 ss.length c0] w fun e w' => e = .returned (.bool true) ∧ Below w.heap.size w w' := by
  go_enter Try.func10, Try.ntmps10
  go_wp2_with fail
  refine (zzBytes31 ss at0 b0 o0 c0 _ h0 hl0).mono ?_
  rintro e w' ⟨r, rfl, hw, hr⟩
  obtain rfl := hw.symm
  clear hw
  cases r with
  | false =>
    go_wp2_with fail
    go_ret
    exact ⟨rfl, Below.refl _ _⟩
  | true =>
    have HS : Hid (∀ s ∈ ss, s.size ≤ 1048576) := hr rfl
    clear hr
    by_cases hL : ss.length ≤ 65536
    case neg =>
      have hL2 : (65536 : Int) < (ss.length : Int) := by omega
      go_wp2_with fail
      go_ret
      exact ⟨rfl, Below.refl _ _⟩
    have hL2 : ¬ (65536 : Int) < (ss.length : Int) := by omega
    have HL : Hid (ss.length ≤ 65536) := hL
    go_wp2_with fail
    go_loopw [3, 4] (fun t i wr => ∃ k : Nat, k ≤ ss.length ∧ i = .int .i64 k ∧ t = .int .i64 ((16 * ss.length + sumTo ss k : Nat) : Int) ∧ 16 * ss.length + sumTo ss k ≤ 1048576 ∧ wr = w) (fun _ i _ => ss.length - (intOf i).toNat)
    case atStart => exact ⟨0, Nat.zero_le _, rfl, by simp [sumTo], by simp [sumTo]; omega, rfl⟩
    case round =>
    obtain ⟨k, hk, rfl, rfl, hsum, hwr⟩ := hrel
    obtain rfl := hwr.symm
    clear hwr
    by_cases hlt : k < ss.length
    case pos =>
      have hc := h0.cell k hlt
      have ha := h0.addr (by omega)
      subst ha
      have hz : ss[k].size ≤ 1048576 := HS.out _ (List.getElem_mem hlt)
      have HT : Hid (sumTo ss (k + 1) = sumTo ss k + ss[k].size) := by show _ = _; rw [sumTo, getD_of_lt _ _ hlt]
      generalize sumTo ss k = S at *
      by_cases hbig : 16 * ss.length + S + ss[k].size ≤ 1048576
      · go_wp2_with fail
        go_roundw
        case rel => exact ⟨k + 1, by omega, by go_num, by rw [HT.out]; congr 1; omega, by rw [HT.out]; omega, by first | rfl | trivial⟩
        case measure => simp [intOf]; omega
      · go_wp2_with fail
        go_ret
        exact ⟨rfl, Below.refl _ _⟩
    obtain rfl : k = ss.length := by omega
    clear hlt hk
    have HSM : Hid (16 * ss.length + sumTo ss ss.length ≤ 1048576) := hsum
    clear HS hsum
    have HLB : Hid (∀ k (h : k < ss.length), (joinTo bytesOf ss k).length + (bytesOf ss[k]).length < 4194304) := fun k h => by
      have h1 := joinTo_len bytesOf (fun s => by rw [bytesOf_len]; exact Nat.le_refl _) ss k
      have h2 := sumTo_mono ss (show k + 1 ≤ ss.length from h)
      have h3 := HSM.out
      simp only [sumTo, getD_of_lt _ _ h] at h2
      rw [bytesOf_len]
      omega
    have hcv := fun (w : World) (s : ByteArray) => Lib.run_convert_string_bytes (P := Try.prog) w 9 25 5 s Try.underlying9 Try.underlying25 Try.underlying5
    go_wp2_with fail
    refine (clone21 ss at0 b0 o0 c0 _ h0 (by omega) hn0).mono ?_
    rintro e w1 ⟨at1, b1, rfl, ss1, bel1⟩
    clear h0 hn0
    go_wp2_with fail
    refine (new22 false _).mono ?_
    rintro e w2 ⟨rfl, hw2⟩
    have hH2 := new_holds false w1
    rw [← hw2] at hH2
    have bel2 : Below w1.heap.size w1 w2 := by rw [hw2]; exact (Below.refl _ _).alloc (Nat.le_refl _) _
    clear hw2
    go_wp2_with fail
    go_loopw [6] (fun i wr => ∃ (k : Nat) (A : Nat → Prop) (ls : Int), k ≤ ss.length ∧ i = .int .i64 k ∧ Holds wr w1.heap.size A (joinTo bytesOf ss k) false ls false ∧ Below w1.heap.size w1 wr) (fun i _ => ss.length - (intOf i).toNat)
    case atStart => exact ⟨0, _, 0, Nat.zero_le _, rfl, hH2, bel2⟩
    case round =>
    obtain ⟨k, A, ls, hk, rfl, hH, hbel⟩ := hrel
    by_cases hlt : k < ss.length
    case pos =>
      have hc := (ss1.belowAll hbel).cell k hlt
      have ha := ss1.addr (by omega)
      subst ha
      rw [getD_of_lt _ _ hlt, Nat.zero_add] at hc
      have HJ : Hid (joinTo bytesOf ss (k + 1) = begun ((k : Int) == 0) (joinTo bytesOf ss k) ++ bytesOf ss[k]) := by
        show _ = _
        have : ((k : Int) == 0) = (k == 0) := by rw [Bool.eq_iff_iff]; simp
        rw [this, joinTo, getD_of_lt _ _ hlt]
      have hlb := HLB.out k hlt
      generalize ss[k] = x at *
      have hB3 := bytesWorld_below wr x
      have hS3 := bytesWorld_bs wr x
      have hH3 : Holds (Lib.bytesWorld wr 5 x) w1.heap.size A (joinTo bytesOf ss k) false ls false := hH.of_heap (fun g hg => hB3.block g (hH.lt hg).2)
      have hnA : ¬ A wr.heap.size := fun hg => by have := (hH.lt hg).2; omega
      have hbl : wr.heap.size < (Lib.bytesWorld wr 5 x).heap.size := by rw [Lib.bytesWorld_size]; omega
      have hcap : x.size ≤ grownCap wr x.size 0 5 := grownCap_ge _ _ _ _
      have hxs : x.size ≤ 4194304 := by rw [bytesOf_len] at hlb; omega
      have hcm : grownCap wr x.size 0 5 ≤ 9223372036854775807 := by
        have := grownCap_le_maxLen wr x.size 0 5 (by unfold maxLen; omega)
        unfold maxLen at this
        omega
      have CALL := start23f w1.heap.size A (joinTo bytesOf ss k) (bytesOf x) ((k : Int) == 0) wr.heap.size 0 (grownCap wr x.size 0 5) ls _ hH3 hS3 hnA hbl hlb (by rw [bytesOf_len]; exact hcap) hcm
      rw [← HJ.out, bytesOf_len] at CALL
      have HC : Hid (Calls Try.prog 23 #[.pointer (some ⟨w1.heap.size, 0, none⟩), .bool ((k : Int) == 0), .slice (some ⟨wr.heap.size, 0, none⟩) x.size (grownCap wr x.size 0 5)] (Lib.bytesWorld wr 5 x) (NowAny w1.heap.size A (Lib.bytesWorld wr 5 x) (joinTo bytesOf ss (k + 1)) false false)) := CALL
      clear CALL hS3 hH3 hlb hcap hcm hxs
      generalize hcp : grownCap wr x.size 0 5 = cp at *
      go_wp2_with fail
      refine HC.out.mono ?_
      rintro e w4 ⟨ls4, rfl, A4, hH4, hK4⟩
      have hbel4 := line_step (ls' := ls) (ts' := false) (L' := []) hH hbel hB3 hK4
      clear HC HJ hK4 hH hB3
      go_wp2_with fail
      refine (end24f w1.heap.size A4 _ ls4 false _ hH4).mono ?_
      rintro e w5 ⟨rfl, hw5⟩
      obtain rfl := hw5.symm
      clear hw5
      go_wp2_with fail
      go_roundw
      case rel => exact ⟨k + 1, A4, ls4, by omega, by go_num, hH4, hbel4⟩
      case measure => simp [intOf]; omega
    obtain rfl : k = ss.length := by omega
    clear hlt hk
    have HSM2 : Hid (sumTo ss ss.length ≤ 1048576) := by have := HSM.out; show _ ≤ _; omega
    have ss2 := ss1.belowAll hbel
    go_wp2_with fail
    refine (joinedRaw32 ss at1 b1 0 ss.length (16 * ss.length + sumTo ss ss.length) _ ss2 HL.out HSM.out HSM2.out).mono ?_
    rintro e w6 ⟨g, cap, rfl, hown6, hbel6⟩
    have hH6 : Holds w6 w1.heap.size A (joinTo bytesOf ss ss.length) false ls false := hH.of_heap (fun g hg => hbel6.block g (hH.lt hg).2)
    have hp6 := hbel.size
    have hbel7 : Below w.heap.size w w6 := (bel1.trans (hbel.mono bel1.size)).trans (hbel6.mono (Nat.le_trans bel1.size hbel.size))
    have hlen : (joinTo bytesOf ss ss.length).length ≤ 4194304 := by
      have h1 := joinTo_len bytesOf (fun s => by rw [bytesOf_len]; exact Nat.le_refl _) ss ss.length
      have := HSM2.out
      omega
    have HC : Hid (Calls Try.prog 25 #[.pointer (some ⟨w1.heap.size, 0, none⟩), .slice (some ⟨g, 0, none⟩) (joinTo bytesOf ss ss.length).length cap] w6 fun e w' => e = .returned (.bool true) ∧ ∃ n, w' = w6.drewN n) := holds25 w1.heap.size A _ false ls false g cap _ w6 hH6 hlen hown6
    clear hH6 hown6 hlen hH ss2 hbel6
    generalize joinTo bytesOf ss ss.length = JJ at *
    go_wp2_with fail
    refine HC.out.mono ?_
    rintro e w7 ⟨rfl, n7, rfl⟩
    go_wp2_with fail
    go_ret
    exact ⟨rfl, below_drewN hbel7 n7⟩
end EL
end Go.Proofs.Qxb6001700a
