/- FnEndLineValueIdempotent: the walk. -/
import Derived.Test.Qxb6001700aPair
namespace Go.Proofs.Qxb6001700a
open Go.ChangeShapes Go.WideShapes Go.ChangeAt Go.RowKit
set_option linter.unusedVariables false
set_option linter.unusedSimpArgs false
namespace EL

theorem endOf_len (A B : List UInt8) : (endOf (A ++ B) A.length).length ≤ (A ++ B).length ∧ A.length ≤ (endOf (A ++ B) A.length).length := by
  rw [endOf_app]
  have := fin_len B
  simp only [List.length_append]
  omega
theorem endOf_endOf (A B : List UInt8) : endOf (endOf (A ++ B) A.length) A.length = endOf (A ++ B) A.length := by
  rw [endOf_app, endOf_app, fin_fin]
theorem conv_ok (wr : World) (x : ByteArray) (h : x.size ≤ 4194304) : x.size ≤ grownCap wr x.size 0 5 ∧ grownCap wr x.size 0 5 ≤ 9223372036854775807 := by
  refine ⟨grownCap_ge _ _ _ _, ?_⟩
  have := grownCap_le_maxLen wr x.size 0 5 (by unfold maxLen; omega)
  unfold maxLen at this
  omega
theorem bsame (b : Nat) (xs : List UInt8) : ∀ w, BS w b 0 xs → BS w b 0 xs := fun _ h => h

set_option maxRecDepth 100000 in
set_option maxHeartbeats 2000000 in
theorem idem_walk (ss : List ByteArray) (at0 : Option Addr) (b0 o0 c0 : Nat) (w : World) (h0 : SS w at0 b0 o0 ss) (hn0 : Hid (at0 = none → ss.length = 0 ∧ c0 = 0)) (hl0 : ss.length ≤ 9223372036854775807) :
    Calls Try.prog 11 #[.slice at0 ss.length c0] w fun e w' => e = .returned (.bool true) ∧ Below w.heap.size w w' := by
  go_enter Try.func11, Try.ntmps11
  go_wp2_with fail
  refine (zzBytes33 ss at0 b0 o0 c0 _ h0 hl0).mono ?_
  rintro e w' ⟨r, rfl, hw, hr⟩
  obtain rfl := hw.symm
  clear hw
  cases r with
  | false =>
    go_wp2_with fail
    go_ret
    exact ⟨rfl, Below.refl _ _⟩
  | true =>
    have HS : Hid (∀ s ∈ ss, s.size ≤ 1048576) := hr rfl
    clear hr
    by_cases hL : ss.length ≤ 65536
    case neg =>
      have hL2 : (65536 : Int) < (ss.length : Int) := by omega
      go_wp2_with fail
      go_ret
      exact ⟨rfl, Below.refl _ _⟩
    have hL2 : ¬ (65536 : Int) < (ss.length : Int) := by omega
    have HL : Hid (ss.length ≤ 65536) := hL
    go_wp2_with fail
    go_loopw [3, 4] (fun t i wr => ∃ k : Nat, k ≤ ss.length ∧ i = .int .i64 k ∧ t = .int .i64 ((16 * ss.length + sumTo ss k : Nat) : Int) ∧ 16 * ss.length + sumTo ss k ≤ 1048576 ∧ wr = w) (fun _ i _ => ss.length - (intOf i).toNat)
    case atStart => exact ⟨0, Nat.zero_le _, rfl, by simp [sumTo], by simp [sumTo]; omega, rfl⟩
    case round =>
    obtain ⟨k, hk, rfl, rfl, hsum, hwr⟩ := hrel
    obtain rfl := hwr.symm
    clear hwr
    by_cases hlt : k < ss.length
    case pos =>
      have hc := h0.cell k hlt
      have ha := h0.addr (by omega)
      subst ha
      have hz : ss[k].size ≤ 1048576 := HS.out _ (List.getElem_mem hlt)
      have HT : Hid (sumTo ss (k + 1) = sumTo ss k + ss[k].size) := by show _ = _; rw [sumTo, getD_of_lt _ _ hlt]
      generalize sumTo ss k = S at *
      by_cases hbig : 16 * ss.length + S + ss[k].size ≤ 1048576
      · go_wp2_with fail
        go_roundw
        case rel => exact ⟨k + 1, by omega, by go_num, by rw [HT.out]; congr 1; omega, by rw [HT.out]; omega, by first | rfl | trivial⟩
        case measure => simp [intOf]; omega
      · go_wp2_with fail
        go_ret
        exact ⟨rfl, Below.refl _ _⟩
    obtain rfl : k = ss.length := by omega
    clear hlt hk
    have HSM : Hid (16 * ss.length + sumTo ss ss.length ≤ 1048576) := hsum
    clear HS hsum
    have HLB : Hid (∀ k (h : k < ss.length), (joinTo trimF ss k).length + (bytesOf ss[k]).length < 4194304) := fun k h => by
      have h1 := joinTo_len trimF trimF_len ss k
      have h2 := sumTo_mono ss (show k + 1 ≤ ss.length from h)
      have h3 := HSM.out
      simp only [sumTo, getD_of_lt _ _ h] at h2
      rw [bytesOf_len]
      omega
    have hcv := fun (w : World) (s : ByteArray) => Lib.run_convert_string_bytes (P := Try.prog) w 9 25 5 s Try.underlying9 Try.underlying25 Try.underlying5
    go_wp2_with fail
    refine (clone21 ss at0 b0 o0 c0 _ h0 (by omega) hn0).mono ?_
    rintro e w1 ⟨at1, b1, rfl, ss1, bel1⟩
    clear h0 hn0
    go_wp2_with fail
    refine (new22 true _).mono ?_
    rintro e w2 ⟨rfl, hw2⟩
    have hz2 : Hid (w2.heap.size = w1.heap.size + 1) := by show _ = _; rw [hw2]; simp
    have HW2 : Hid (w2 = w1.alloc (.cells #[.slice none 0 0, .slice none 0 0, .bool true, .int .i64 0, .bool false] 53)) := hw2
    clear hw2
    go_wp2_with fail
    refine (new22 true _).mono ?_
    rintro e w3 ⟨rfl, hw3⟩
    rw [hz2.out]
    have hP0 : PS w1.heap.size w1.heap.size (w1.heap.size + 1) w1 w3 [] [] 0 0 false false := by rw [hw3, HW2.out]; exact two_new w1
    clear HW2 hw3 hz2
    generalize hq : w1.heap.size + 1 = q at *
    clear hq
    generalize hpp : w1.heap.size = p at *
    go_wp2_with fail
    go_loopw [7] (fun i wr => ∃ (k : Nat) (ls ls' : Int) (ts ts' : Bool), k ≤ ss.length ∧ i = .int .i64 k ∧ PS p p q w1 wr (joinTo trimF ss k) (joinTo trimF ss k) ls ls' ts ts') (fun i _ => ss.length - (intOf i).toNat)
    case atStart => exact ⟨0, 0, 0, false, false, Nat.zero_le _, rfl, hP0⟩
    case round =>
    obtain ⟨k, ls, ls', ts, ts', hk, rfl, hP⟩ := hrel
    have hbel : Below p w1 wr := by obtain ⟨A, B, h⟩ := hP; exact h.bel
    by_cases hlt : k < ss.length
    case pos =>
      have hc := (ss1.belowAll (by rw [hpp]; exact hbel)).cell k hlt
      have ha := ss1.addr (by omega)
      subst ha
      rw [getD_of_lt _ _ hlt, Nat.zero_add] at hc
      have HJ : Hid (joinTo trimF ss (k + 1) = endOf (begun ((k : Int) == 0) (joinTo trimF ss k) ++ part true (bytesOf ss[k])) (begun ((k : Int) == 0) (joinTo trimF ss k)).length) := by
        show _ = _
        have : ((k : Int) == 0) = (k == 0) := by rw [Bool.eq_iff_iff]; simp
        rw [this, endOf_app, joinTo, getD_of_lt _ _ hlt]
        rfl
      have hlb := HLB.out k hlt
      generalize hx : ss[k] = x at *
      have HX : Hid (ss[k] = x) := hx
      clear hx
      have hxs : x.size ≤ 4194304 := by rw [bytesOf_len] at hlb; omega
      obtain ⟨hcap, hcm⟩ := conv_ok wr x hxs
      have HMB : Hid ((begun ((k : Int) == 0) (joinTo trimF ss k) ++ part true (bytesOf x)).length ≤ 4194304 ∧ (begun ((k : Int) == 0) (joinTo trimF ss k)).length ≤ (begun ((k : Int) == 0) (joinTo trimF ss k) ++ part true (bytesOf x)).length) := by
        show _ ≤ _ ∧ _ ≤ _
        have h1 : (begun ((k : Int) == 0) (joinTo trimF ss k)).length ≤ (joinTo trimF ss k).length + 1 := by unfold begun; split <;> simp
        have h2 : (part true (bytesOf x)).length ≤ (bytesOf x).length := by unfold part; simp
        rw [List.length_append]
        omega
      have HLE := endOf_len (begun ((k : Int) == 0) (joinTo trimF ss k)) (part true (bytesOf x))
      have HEE := endOf_endOf (begun ((k : Int) == 0) (joinTo trimF ss k)) (part true (bytesOf x))
      have C1 := start_l (hP.conv x) ((k : Int) == 0) 0 (grownCap wr x.size 0 5) (bytesOf x) (bsame _ _) hlb (by rw [bytesOf_len]; exact hcap) hcm
      have C2 : Hid (∀ (wq : World) (M : List UInt8) (l1 : Int) (t1 : Bool), PS p p q w1 wq M (joinTo trimF ss k) l1 ls' t1 ts' → Calls Try.prog 23 #[.pointer (some ⟨q, 0, none⟩), .bool ((k : Int) == 0), .slice (some ⟨wq.heap.size, 0, none⟩) (bytesOf x).length (grownCap wq x.size 0 5)] (Lib.bytesWorld wq 5 x) (PN p p q wq.heap.size (bytesOf x) w1 M (begun ((k : Int) == 0) (joinTo trimF ss k) ++ part true (bytesOf x)) l1 ((begun ((k : Int) == 0) (joinTo trimF ss k)).length : Nat) t1 (still true (bytesOf x)))) := fun wq M l1 t1 h => start_r (h.conv x) ((k : Int) == 0) 0 (grownCap wq x.size 0 5) (bytesOf x) (bsame _ _) hlb (by rw [bytesOf_len]; exact (conv_ok wq x hxs).1) (conv_ok wq x hxs).2
      rw [bytesOf_len] at C1 C2
      generalize begun ((k : Int) == 0) (joinTo trimF ss k) ++ part true (bytesOf x) = M at *
      generalize (begun ((k : Int) == 0) (joinTo trimF ss k)).length = st at *
      generalize still true (bytesOf x) = tt at *
      have HLEE : Hid ((endOf M st).length ≤ M.length ∧ st ≤ (endOf M st).length) := HLE
      have HEE2 : Hid (endOf (endOf M st) st = endOf M st) := HEE
      have HC : Hid (Calls Try.prog 23 #[.pointer (some ⟨p, 0, none⟩), .bool ((k : Int) == 0), .slice (some ⟨wr.heap.size, 0, none⟩) x.size (grownCap wr x.size 0 5)] (Lib.bytesWorld wr 5 x) (PN p p q wr.heap.size (bytesOf x) w1 M (joinTo trimF ss k) (st : Nat) ls' tt ts')) := C1
      clear C1 HLE HEE hlb hcap hcm hxs hP
      generalize hcp : grownCap wr x.size 0 5 = cp at *
      go_wp2_with fail
      refine HC.out.mono ?_
      rintro e w4 ⟨rfl, h4⟩
      clear HC
      go_wp2_with fail
      refine (end34_l h4 HMB.out.1 HMB.out.2).mono ?_
      rintro e w5 ⟨rfl, h5⟩
      clear h4
      have hP5 := h5.drop
      have hbel5 : Below p w1 w5 := by obtain ⟨A, B, h⟩ := hP5; exact h.bel
      have hc5 := (ss1.belowAll (by rw [hpp]; exact hbel5)).cell k hlt
      rw [getD_of_lt _ _ hlt, HX.out, Nat.zero_add] at hc5
      have HC2 : Hid (Calls Try.prog 23 #[.pointer (some ⟨q, 0, none⟩), .bool ((k : Int) == 0), .slice (some ⟨w5.heap.size, 0, none⟩) x.size (grownCap w5 x.size 0 5)] (Lib.bytesWorld w5 5 x) (PN p p q w5.heap.size (bytesOf x) w1 (endOf M st) M (st : Nat) (st : Nat) tt tt)) := C2.out w5 _ _ _ hP5
      clear C2 h5 hP5 hbel hc
      generalize hcp5 : grownCap w5 x.size 0 5 = cp5 at *
      go_wp2_with fail
      refine HC2.out.mono ?_
      rintro e w6 ⟨rfl, h6⟩
      clear HC2
      go_wp2_with fail
      refine (end34_r h6 HMB.out.1 HMB.out.2).mono ?_
      rintro e w7 ⟨rfl, h7⟩
      clear h6
      go_wp2_with fail
      refine (end34_r h7 (Nat.le_trans HLEE.out.1 HMB.out.1) HLEE.out.2).mono ?_
      rintro e w8 ⟨rfl, h8⟩
      have h9 := h8.drop
      rw [HEE2.out, ← HJ.out] at h9
      clear h7 h8 HJ HMB HLEE HEE2
      go_wp2_with fail
      go_roundw
      case rel => exact ⟨k + 1, _, _, _, _, by omega, by go_num, h9⟩
      case measure => simp [intOf]; omega
    obtain rfl : k = ss.length := by omega
    clear hlt hk
    have HSM2 : Hid (sumTo ss ss.length ≤ 1048576) := by have := HSM.out; show _ ≤ _; omega
    have ss2 := ss1.belowAll (by rw [hpp]; exact hbel)
    obtain ⟨A, B, hp⟩ := hP
    have hlen : (joinTo trimF ss ss.length).length ≤ 4194304 := by
      have h1 := joinTo_len trimF trimF_len ss ss.length
      have := HSM2.out
      omega
    have HA : Hid (Calls Try.prog 30 #[.pointer (some ⟨p, 0, none⟩), .pointer (some ⟨q, 0, none⟩)] wr fun e w' => e = .returned (.bool true) ∧ ∃ n, w' = wr.drewN n) := agree30 p q A B _ true true ls ls' ts ts' wr hp.l hp.r hlen
    have HP : Hid (Holds wr p A (joinTo trimF ss ss.length) true ls ts) := hp.l
    have HLN : Hid ((joinTo trimF ss ss.length).length ≤ 4194304) := hlen
    clear hp hlen
    go_wp2_with fail
    refine HA.out.mono ?_
    rintro e w5 ⟨rfl, n5, rfl⟩
    clear HA
    go_wp2_with fail
    refine (joinedDCF26 ss at1 b1 0 ss.length (16 * ss.length + sumTo ss ss.length) _ (ss2.drewN n5) HL.out HSM.out HSM2.out).mono ?_
    rintro e w6 ⟨g, cap, rfl, hown6, hbel6⟩
    have hH6 : Holds w6 p A (joinTo trimF ss ss.length) true ls ts := (HP.out.drewN n5).of_heap (fun g hg => hbel6.block g (HP.out.lt hg).2)
    have hbelp : Below p w1 (wr.drewN n5) := below_drewN hbel n5
    have hwp : w.heap.size ≤ p := by rw [← hpp]; exact bel1.size
    have hbel7 : Below w.heap.size w w6 := (bel1.trans (hbelp.mono hwp)).trans (hbel6.mono (by
      have := hbelp.size
      rw [hpp] at this
      omega))
    have HC : Hid (Calls Try.prog 25 #[.pointer (some ⟨p, 0, none⟩), .slice (some ⟨g, 0, none⟩) (joinTo trimF ss ss.length).length cap] w6 fun e w' => e = .returned (.bool true) ∧ ∃ n, w' = w6.drewN n) := holds25 p A _ true ls ts g cap _ w6 hH6 HLN.out hown6
    clear hH6 hown6 HLN HP ss2 hbel6 hbelp
    generalize joinTo trimF ss ss.length = JJ at *
    go_wp2_with fail
    refine HC.out.mono ?_
    rintro e w7 ⟨rfl, n7, rfl⟩
    go_wp2_with fail
    go_ret
    exact ⟨rfl, below_drewN hbel7 n7⟩
end EL
end Go.Proofs.Qxb6001700a
