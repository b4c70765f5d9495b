/- FnEndLineDCFPartsAgree: the walk. -/
import Derived.Test.Qxb6001700aIdem
import Derived.Test.Qxb6001700aInts
import Derived.Deep.CutRange
import Derived.Deep.DeepCutAuto
namespace Go.Proofs.Qxb6001700a
open Go.ChangeShapes Go.WideShapes Go.ChangeAt Go.RowKit
set_option linter.unusedVariables false
set_option linter.unusedSimpArgs false
namespace EL

set_option maxRecDepth 100000 in
set_option maxHeartbeats 4000000 in
theorem parts_walk (ss : List ByteArray) (vs : List Int) (at0 at1 : Option Addr) (b0 o0 c0 b1 o1 c1 : Nat) (w : World) (h0 : SS w at0 b0 o0 ss) (i0 : IS w at1 b1 o1 vs) (hn0 : Hid (at0 = none → ss.length = 0 ∧ c0 = 0)) (hn1 : Hid (at1 = none → vs.length = 0 ∧ c1 = 0)) (hl0 : ss.length ≤ 9223372036854775807) (hl1 : vs.length ≤ 9223372036854775807) :
    Calls Try.prog 9 #[.slice at0 ss.length c0, .slice at1 vs.length c1] w fun e w' => e = .returned (.bool true) ∧ Below w.heap.size w w' := by
  go_enter Try.func9, Try.ntmps9
  go_wp2_with fail
  refine (zzBytes27 ss at0 at1 b0 o0 c0 vs.length c1 hl1 _ h0 hl0).mono ?_
  rintro e w' ⟨r, rfl, hw, hr⟩
  obtain rfl := hw.symm
  clear hw
  cases r with
  | false =>
    go_wp2_with fail
    go_ret
    exact ⟨rfl, Below.refl _ _⟩
  | true =>
    have HS : Hid (∀ s ∈ ss, s.size ≤ 1048576) := (hr rfl).1
    clear hr
    by_cases hL : ss.length ≤ 65536
    case neg =>
      have hL2 : (65536 : Int) < (ss.length : Int) := by omega
      go_wp2_with fail
      go_ret
      exact ⟨rfl, Below.refl _ _⟩
    have hL2 : ¬ (65536 : Int) < (ss.length : Int) := by omega
    have HL : Hid (ss.length ≤ 65536) := hL
    by_cases hV : vs.length ≤ 131072
    case neg =>
      have hV2 : (131072 : Int) < (vs.length : Int) := by omega
      go_wp2_with fail
      go_ret
      exact ⟨rfl, Below.refl _ _⟩
    have hV2 : ¬ (131072 : Int) < (vs.length : Int) := by omega
    have HV : Hid (vs.length ≤ 131072) := hV
    go_wp2_with fail
    go_loopw [5, 6] (fun t i wr => ∃ k : Nat, k ≤ ss.length ∧ i = .int .i64 k ∧ t = .int .i64 ((16 * ss.length + 8 * vs.length + sumTo ss k : Nat) : Int) ∧ 16 * ss.length + 8 * vs.length + sumTo ss k ≤ 2097152 ∧ wr = w) (fun _ i _ => ss.length - (intOf i).toNat)
    case atStart => exact ⟨0, Nat.zero_le _, rfl, by simp [sumTo], by simp [sumTo]; omega, rfl⟩
    case round =>
    obtain ⟨k, hk, rfl, rfl, hsum, hwr⟩ := hrel
    obtain rfl := hwr.symm
    clear hwr
    by_cases hlt : k < ss.length
    case pos =>
      have hc := h0.cell k hlt
      have ha := h0.addr (by omega)
      subst ha
      have hz : ss[k].size ≤ 1048576 := HS.out _ (List.getElem_mem hlt)
      have HT : Hid (sumTo ss (k + 1) = sumTo ss k + ss[k].size) := by show _ = _; rw [sumTo, getD_of_lt _ _ hlt]
      generalize sumTo ss k = S at *
      by_cases hbig : 16 * ss.length + 8 * vs.length + S + ss[k].size ≤ 1048576
      · go_wp2_with fail
        go_roundw
        case rel => exact ⟨k + 1, by omega, by go_num, by rw [HT.out]; congr 1; omega, by rw [HT.out]; omega, by first | rfl | trivial⟩
        case measure => simp [intOf]; omega
      · go_wp2_with fail
        go_ret
        exact ⟨rfl, Below.refl _ _⟩
    obtain rfl : k = ss.length := by omega
    clear hlt hk
    by_cases hbig : 16 * ss.length + 8 * vs.length + sumTo ss ss.length ≤ 1048576
    case neg =>
      generalize sumTo ss ss.length = S at *
      go_wp2_with fail
      go_ret
      exact ⟨rfl, Below.refl _ _⟩
    have HSM : Hid (16 * ss.length + 8 * vs.length + sumTo ss ss.length ≤ 1048576) := hbig
    have HLB : Hid (∀ k (h : k < ss.length), (joinTo trimF ss k).length + (bytesOf ss[k]).length < 4194304) := fun k h => by
      have h1 := joinTo_len trimF trimF_len ss k
      have h2 := sumTo_mono ss (show k + 1 ≤ ss.length from h)
      have h3 := HSM.out
      simp only [sumTo, getD_of_lt _ _ h] at h2
      rw [bytesOf_len]
      omega
    clear HS hsum
    have hbi : ¬ ((1048576 : Int) < 16 * (ss.length : Int) + 8 * (vs.length : Int) + (sumTo ss ss.length : Int)) := by omega
    clear hbig
    have hcv := fun (w : World) (s : ByteArray) => Lib.run_convert_string_bytes (P := Try.prog) w 9 25 5 s Try.underlying9 Try.underlying25 Try.underlying5
    go_wp2_with fail
    refine (clone21 ss at0 b0 o0 c0 _ h0 (by omega) hn0).mono ?_
    rintro e w1 ⟨at2, b2, rfl, ss1, bel1⟩
    have i1 := i0.belowAll bel1
    clear h0 hn0 i0
    go_wp2_with fail
    refine (clone28 vs at1 b1 o1 c1 _ i1 (by omega) hn1).mono ?_
    rintro e w2 ⟨at3, b3, rfl, is2, bel2⟩
    have ss2 := ss1.belowAll bel2
    have bel12 := bel1.trans (bel2.mono bel1.size)
    clear i1 hn1 ss1 bel1 bel2
    go_wp2_with fail
    refine (new22 true _).mono ?_
    rintro e w3 ⟨rfl, hw3⟩
    have hz3 : Hid (w3.heap.size = w2.heap.size + 1) := by show _ = _; rw [hw3]; simp
    have HW3 : Hid (w3 = w2.alloc (.cells #[.slice none 0 0, .slice none 0 0, .bool true, .int .i64 0, .bool false] 53)) := hw3
    clear hw3
    go_wp2_with fail
    refine (new22 true _).mono ?_
    rintro e w4 ⟨rfl, hw4⟩
    rw [hz3.out]
    have hP0 : PS w2.heap.size w2.heap.size (w2.heap.size + 1) w2 w4 [] [] 0 0 false false := by rw [hw4, HW3.out]; exact two_new w2
    clear HW3 hw4 hz3
    generalize hq : w2.heap.size + 1 = q at *
    clear hq
    generalize hpp : w2.heap.size = p at *
    go_wp2_with fail
    go_loopw [9] (fun i wr => ∃ (k : Nat) (ls ls' : Int) (ts ts' : Bool), k ≤ ss.length ∧ i = .int .i64 k ∧ PS p p q w2 wr (joinTo trimF ss k) (joinTo trimF ss k) ls ls' ts ts') (fun i _ => ss.length - (intOf i).toNat)
    case atStart => exact ⟨0, 0, 0, false, false, Nat.zero_le _, rfl, hP0⟩
    case round =>
    obtain ⟨k, ls, ls', ts, ts', hk, rfl, hP⟩ := hrel
    have hbel : Below p w2 wr := by obtain ⟨A, B, h⟩ := hP; exact h.bel
    by_cases hlt : k < ss.length
    case pos =>
      have hc := (ss2.belowAll (by rw [hpp]; exact hbel)).cell k hlt
      have ha := ss2.addr (by omega)
      subst ha
      rw [getD_of_lt _ _ hlt, Nat.zero_add] at hc
      have HJ : Hid (joinTo trimF ss (k + 1) = endOf (begun ((k : Int) == 0) (joinTo trimF ss k) ++ part true (bytesOf ss[k])) (begun ((k : Int) == 0) (joinTo trimF ss k)).length) := by
        show _ = _
        have : ((k : Int) == 0) = (k == 0) := by rw [Bool.eq_iff_iff]; simp
        rw [this, endOf_app, joinTo, getD_of_lt _ _ hlt]
        rfl
      have hlb := HLB.out k hlt
      generalize hx : ss[k] = x at *
      clear hx
      have hxs : x.size ≤ 4194304 := by rw [bytesOf_len] at hlb; omega
      obtain ⟨hcap, hcm⟩ := conv_ok wr x hxs
      have HLB2 : Hid ((joinTo trimF ss k).length + x.size < 4194304) := by rw [bytesOf_len] at hlb; exact hlb
      have HPX : Hid (PX p p q wr.heap.size (bytesOf x) w2 (Lib.bytesWorld wr 5 x) (joinTo trimF ss k) (joinTo trimF ss k) ls ls' ts ts') := hP.conv x
      have HIC : Hid (∀ i, i < vs.length → (Lib.bytesWorld wr 5 x).cell? ⟨b3, i, none⟩ = some (.int .i64 (vs.getD i 0)) ∧ at3 = some ⟨b3, 0, none⟩) := fun i hi => by
        have h1 := is2.belowAll (by rw [hpp]; exact hbel)
        have h2 := (h1.belowAll (bytesWorld_below wr x)).cell i hi
        rw [Nat.zero_add] at h2
        exact ⟨h2, is2.addr (by omega)⟩
      clear hP hlb
      generalize hcp : grownCap wr x.size 0 5 = cp at *
      go_upto_if 71 with fail
      generalize hwb : Lib.bytesWorld wr 5 x = wb at *
      have HWB : Hid (Lib.bytesWorld wr 5 x = wb) := hwb
      clear hwb hcv
      go_cut [11, 12] (fun a _c wx => (∃ kk : Nat, kk ≤ x.size ∧ a = .int .i64 kk) ∧ wx = wb)
      case first =>
        by_cases hi : k < vs.length
        case neg =>
          go_wp2_with fail
          go_meet
          exact ⟨⟨x.size, Nat.le_refl _, rfl⟩, rfl⟩
        obtain ⟨hci, rfl⟩ := HIC.out k hi
        generalize vs.getD k 0 = cc at *
        by_cases h1 : cc < 0
        · go_wp2_with fail
          go_meet
          exact ⟨⟨0, Nat.zero_le _, rfl⟩, rfl⟩
        obtain ⟨kk, rfl⟩ : ∃ kk : Nat, cc = kk := ⟨cc.toNat, by omega⟩
        by_cases h2 : kk < x.size
        · go_wp2_with fail
          go_meet
          exact ⟨⟨kk, by omega, rfl⟩, rfl⟩
        · go_wp2_with fail
          go_meet
          exact ⟨⟨x.size, Nat.le_refl _, rfl⟩, rfl⟩
      case rest =>
      obtain ⟨⟨kk, hkk, rfl⟩, hwc⟩ := hcut
      obtain rfl := hwc.symm
      clear hwc
      have hkl : ((bytesOf x).take kk).length = kk := by rw [List.length_take, bytesOf_len]; omega
      have hdl : ((bytesOf x).drop kk).length = x.size - kk := by rw [List.length_drop, bytesOf_len]
      have hbgl : (begun ((k : Int) == 0) (joinTo trimF ss k)).length ≤ (joinTo trimF ss k).length + 1 := by unfold begun; split <;> simp
      have hlb2 := HLB2.out
      have hp1 : (part true ((bytesOf x).take kk)).length ≤ kk := by rw [← hkl]; unfold part; simp
      have hpx : (part true (bytesOf x)).length ≤ x.size := by rw [← bytesOf_len]; unfold part; simp
      obtain ⟨o2, ho2, hS2⟩ : ∃ o2, (if cp = kk then 0 else kk) = o2 ∧ ∀ w, BS w wr.heap.size 0 (bytesOf x) → BS w wr.heap.size o2 ((bytesOf x).drop kk) := by
        refine ⟨_, rfl, fun w h => ?_⟩
        by_cases e : cp = kk
        · have : (bytesOf x).drop kk = [] := List.drop_eq_nil_of_le (by rw [bytesOf_len]; omega)
          rw [this]; intro i hi; simp at hi
        · rw [if_neg e]; have := h.drop kk; rwa [Nat.zero_add] at this
      have C1 := start_l HPX.out ((k : Int) == 0) 0 cp ((bytesOf x).take kk) (fun w h => h.take kk) (by rw [hkl]; omega) (by rw [hkl]; omega) hcm
      have C2 : Hid (∀ (w4 : World), PX p p q wr.heap.size (bytesOf x) w2 w4 (begun ((k : Int) == 0) (joinTo trimF ss k) ++ part true ((bytesOf x).take kk)) (joinTo trimF ss k) ((begun ((k : Int) == 0) (joinTo trimF ss k)).length : Nat) ls' (still true ((bytesOf x).take kk)) ts' → Calls Try.prog 29 #[.pointer (some ⟨p, 0, none⟩), .slice (some ⟨wr.heap.size, o2, none⟩) ((bytesOf x).drop kk).length (cp - kk)] w4 (PN p p q wr.heap.size (bytesOf x) w2 (begun ((k : Int) == 0) (joinTo trimF ss k) ++ part true ((bytesOf x).take kk) ++ part (still true ((bytesOf x).take kk)) ((bytesOf x).drop kk)) (joinTo trimF ss k) ((begun ((k : Int) == 0) (joinTo trimF ss k)).length : Nat) ls' (still (still true ((bytesOf x).take kk)) ((bytesOf x).drop kk)) ts')) := fun w4 h => write_l h o2 (cp - kk) ((bytesOf x).drop kk) hS2 (by rw [List.length_append, hdl]; omega) (by rw [hdl]; omega) (by omega)
      have C3 : Hid (∀ (w4 : World) (M : List UInt8) (l1 : Int) (t1 : Bool), PX p p q wr.heap.size (bytesOf x) w2 w4 M (joinTo trimF ss k) l1 ls' t1 ts' → Calls Try.prog 23 #[.pointer (some ⟨q, 0, none⟩), .bool ((k : Int) == 0), .slice (some ⟨wr.heap.size, 0, none⟩) (bytesOf x).length cp] w4 (PN p p q wr.heap.size (bytesOf x) w2 M (begun ((k : Int) == 0) (joinTo trimF ss k) ++ part true (bytesOf x)) l1 ((begun ((k : Int) == 0) (joinTo trimF ss k)).length : Nat) t1 (still true (bytesOf x)))) := fun w4 M l1 t1 h => start_r h ((k : Int) == 0) 0 cp (bytesOf x) (bsame _ _) (by rw [bytesOf_len]; omega) (by rw [bytesOf_len]; exact hcap) hcm
      have HMB : Hid ((begun ((k : Int) == 0) (joinTo trimF ss k) ++ part true (bytesOf x)).length ≤ 4194304 ∧ (begun ((k : Int) == 0) (joinTo trimF ss k)).length ≤ (begun ((k : Int) == 0) (joinTo trimF ss k) ++ part true (bytesOf x)).length) := by
        show _ ≤ _ ∧ _ ≤ _
        rw [List.length_append]
        omega
      have HPA : begun ((k : Int) == 0) (joinTo trimF ss k) ++ part true ((bytesOf x).take kk) ++ part (still true ((bytesOf x).take kk)) ((bytesOf x).drop kk) = begun ((k : Int) == 0) (joinTo trimF ss k) ++ part true (bytesOf x) := by rw [List.append_assoc, parts_agree]
      rw [HPA] at C2
      rw [hkl] at C1
      rw [hdl] at C2
      rw [bytesOf_len] at C3
      clear HPA hpx hp1 hkl hdl hbgl hlb2 hS2
      generalize begun ((k : Int) == 0) (joinTo trimF ss k) ++ part true (bytesOf x) = M at *
      generalize begun ((k : Int) == 0) (joinTo trimF ss k) ++ part true ((bytesOf x).take kk) = M1 at *
      generalize (begun ((k : Int) == 0) (joinTo trimF ss k)).length = st at *
      generalize still true ((bytesOf x).take kk) = t1 at *
      generalize still t1 ((bytesOf x).drop kk) = t2 at *
      generalize still true (bytesOf x) = t3 at *
      have HC1 : Hid (Calls Try.prog 23 #[.pointer (some ⟨p, 0, none⟩), .bool ((k : Int) == 0), .slice (some ⟨wr.heap.size, 0, none⟩) kk cp] wb (PN p p q wr.heap.size (bytesOf x) w2 M1 (joinTo trimF ss k) (st : Nat) ls' t1 ts')) := C1
      clear C1
      have hkc : kk ≤ cp := by omega
      have HO2 : Hid ((if cp = kk then 0 else kk) = o2) := ho2
      clear ho2
      go_wp2_with fail
      refine HC1.out.mono ?_
      rintro e w5 ⟨rfl, h5⟩
      have HC2 : Hid (Calls Try.prog 29 #[.pointer (some ⟨p, 0, none⟩), .slice (some ⟨wr.heap.size, o2, none⟩) (x.size - kk) (cp - kk)] w5 (PN p p q wr.heap.size (bytesOf x) w2 M (joinTo trimF ss k) (st : Nat) ls' t2 ts')) := C2.out w5 h5
      clear HC1 C2 h5
      by_cases e : cp = kk
      case pos =>
        subst e
        have HC5 : Hid (Calls Try.prog 29 #[.pointer (some ⟨p, 0, none⟩), .slice (some ⟨wr.heap.size, 0, none⟩) 0 0] w5 (PN p p q wr.heap.size (bytesOf x) w2 M (joinTo trimF ss k) (st : Nat) ls' t2 ts')) := by
          have h := HC2.out
          have h2 := HO2.out
          rw [if_pos rfl] at h2
          subst h2
          rw [Nat.sub_self, show x.size - cp = 0 by omega] at h
          exact h
        clear HC2 HO2
        go_wp2_with fail
        refine HC5.out.mono ?_
        rintro e w6 ⟨rfl, h6⟩
        clear HC5
        go_wp2_with fail
        refine (end24_l h6 HMB.out.1 HMB.out.2).mono ?_
        rintro e w7 ⟨rfl, h7⟩
        have HC3 := C3.out w7 _ _ _ h7
        have HC4 : Hid (Calls Try.prog 23 #[.pointer (some ⟨q, 0, none⟩), .bool ((k : Int) == 0), .slice (some ⟨wr.heap.size, 0, none⟩) x.size cp] w7 (PN p p q wr.heap.size (bytesOf x) w2 (endOf M st) M (st : Nat) (st : Nat) t2 t3)) := HC3
        clear HC3 C3 h7 h6
        go_wp2_with fail
        refine HC4.out.mono ?_
        rintro e w8 ⟨rfl, h8⟩
        clear HC4
        go_wp2_with fail
        refine (end24_r h8 HMB.out.1 HMB.out.2).mono ?_
        rintro e w9 ⟨rfl, h9⟩
        have hP9 := h9.drop
        rw [← HJ.out] at hP9
        clear h8 h9 HJ HMB
        go_wp2_with fail
        go_roundw
        case rel => exact ⟨k + 1, _, _, _, _, by omega, by go_num, hP9⟩
        case measure => simp [intOf]; omega
      case neg =>
        have HC5 : Hid (Calls Try.prog 29 #[.pointer (some ⟨p, 0, none⟩), .slice (some ⟨wr.heap.size, kk, none⟩) (x.size - kk) (cp - kk)] w5 (PN p p q wr.heap.size (bytesOf x) w2 M (joinTo trimF ss k) (st : Nat) ls' t2 ts')) := by
          have h := HC2.out
          have h2 := HO2.out
          rw [if_neg e] at h2
          subst h2
          exact h
        clear HC2 HO2
        go_wp2_with fail
        refine HC5.out.mono ?_
        rintro e w6 ⟨rfl, h6⟩
        clear HC5
        go_wp2_with fail
        refine (end24_l h6 HMB.out.1 HMB.out.2).mono ?_
        rintro e w7 ⟨rfl, h7⟩
        have HC3 := C3.out w7 _ _ _ h7
        have HC4 : Hid (Calls Try.prog 23 #[.pointer (some ⟨q, 0, none⟩), .bool ((k : Int) == 0), .slice (some ⟨wr.heap.size, 0, none⟩) x.size cp] w7 (PN p p q wr.heap.size (bytesOf x) w2 (endOf M st) M (st : Nat) (st : Nat) t2 t3)) := HC3
        clear HC3 C3 h7 h6
        go_wp2_with fail
        refine HC4.out.mono ?_
        rintro e w8 ⟨rfl, h8⟩
        clear HC4
        go_wp2_with fail
        refine (end24_r h8 HMB.out.1 HMB.out.2).mono ?_
        rintro e w9 ⟨rfl, h9⟩
        have hP9 := h9.drop
        rw [← HJ.out] at hP9
        clear h8 h9 HJ HMB
        go_wp2_with fail
        go_roundw
        case rel => exact ⟨k + 1, _, _, _, _, by omega, by go_num, hP9⟩
        case measure => simp [intOf]; omega
    obtain rfl : k = ss.length := by omega
    clear hlt hk
    have HSM2 : Hid (sumTo ss ss.length ≤ 1048576) := by have := HSM.out; show _ ≤ _; omega
    have ss3 := ss2.belowAll (by rw [hpp]; exact hbel)
    obtain ⟨A, B, hp⟩ := hP
    have hlen : (joinTo trimF ss ss.length).length ≤ 4194304 := by
      have h1 := joinTo_len trimF trimF_len ss ss.length
      have := HSM2.out
      omega
    have HA : Hid (Calls Try.prog 30 #[.pointer (some ⟨p, 0, none⟩), .pointer (some ⟨q, 0, none⟩)] wr fun e w' => e = .returned (.bool true) ∧ ∃ n, w' = wr.drewN n) := agree30 p q A B _ true true ls ls' ts ts' wr hp.l hp.r hlen
    have HP : Hid (Holds wr q B (joinTo trimF ss ss.length) true ls' ts') := hp.r
    have HLN : Hid ((joinTo trimF ss ss.length).length ≤ 4194304) := hlen
    clear hp hlen
    go_wp2_with fail
    refine HA.out.mono ?_
    rintro e w5 ⟨rfl, n5, rfl⟩
    clear HA
    go_wp2_with fail
    refine (joinedDCF26 ss at2 b2 0 ss.length (16 * ss.length + 8 * vs.length + sumTo ss ss.length) _ (ss3.drewN n5) HL.out HSM.out HSM2.out).mono ?_
    rintro e w6 ⟨g, cap, rfl, hown6, hbel6⟩
    have hH6 : Holds w6 q B (joinTo trimF ss ss.length) true ls' ts' := (HP.out.drewN n5).of_heap (fun g hg => hbel6.block g (HP.out.lt hg).2)
    have hbelp : Below p w2 (wr.drewN n5) := below_drewN hbel n5
    have hwp : w.heap.size ≤ p := by rw [← hpp]; exact bel12.size
    have hbel7 : Below w.heap.size w w6 := (bel12.trans (hbelp.mono hwp)).trans (hbel6.mono (by
      have := hbelp.size
      rw [hpp] at this
      omega))
    have HC : Hid (Calls Try.prog 25 #[.pointer (some ⟨q, 0, none⟩), .slice (some ⟨g, 0, none⟩) (joinTo trimF ss ss.length).length cap] w6 fun e w' => e = .returned (.bool true) ∧ ∃ n, w' = w6.drewN n) := holds25 q B _ true ls' ts' g cap _ w6 hH6 HLN.out hown6
    clear hH6 hown6 HLN HP ss3 hbel6 hbelp
    generalize joinTo trimF ss ss.length = JJ at *
    go_wp2_with fail
    refine HC.out.mono ?_
    rintro e w7 ⟨rfl, n7, rfl⟩
    go_wp2_with fail
    go_ret
    exact ⟨rfl, below_drewN hbel7 n7⟩
end EL
end Go.Proofs.Qxb6001700a
