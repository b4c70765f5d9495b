/- joinedDCF. -/
import Derived.Test.Qxb6001700aTLine
namespace Go.Proofs.Qxb6001700a
open Go.ChangeShapes Go.WideShapes Go.ChangeAt Go.RowKit
set_option linter.unusedVariables false
set_option linter.unusedSimpArgs false
namespace EL

/-- A line as the model makes it, of a string. -/
def trimF (s : ByteArray) : List UInt8 := trimmed (bytesOf s)
theorem trimF_len (s : ByteArray) : (trimF s).length ≤ s.size := by
  have := trimmed_len (bytesOf s)
  rw [bytesOf_len] at this
  exact this

set_option maxHeartbeats 1000000 in
theorem joinedDCF26 (ss : List ByteArray) (at0 : Option Addr) (b off cap total : Nat) (w : World) (h : SS w at0 b off ss) (hl : ss.length ≤ 65536) (ht : total ≤ 1048576) (hs : sumTo ss ss.length ≤ 1048576) :
    Calls Try.prog 26 #[.slice at0 ss.length cap, .int .i64 total] w (RowOf (joinTo trimF ss ss.length) w) := by
  obtain ⟨i0, hi, hz0, hz1, hz2⟩ := info_parts info5
  have HLN : Hid (∀ k, k ≤ ss.length → (joinTo trimF ss k).length ≤ 2000000) := fun k hk => by
    have h1 := joinTo_len trimF trimF_len ss k
    have h2 := sumTo_mono ss hk
    omega
  have HS : Hid (sumTo ss ss.length ≤ 1048576) := hs
  have HSX : Hid (∀ k (h : k < ss.length), ss[k].size ≤ 1048576) := fun k h => by
    have h2 := sumTo_mono ss (show k + 1 ≤ ss.length from h)
    simp only [sumTo, getD_of_lt _ _ h] at h2
    omega
  clear hs
  go_enter Try.func26, Try.ntmps26
  go_wp2_with (at_make; refine wpList_make_own _ rfl _ _ 25 rfl w.heap.size 5 i0 _ 1 Try.underlying25 hi hz0 hz1 .i64 .i64 _ total rfl rfl rfl (by rw [hz2]; omega) (by unfold maxLen; omega) (Nat.le_refl _) ?_)
  intro w1 hown1 hgrow1
  have hb1 : Below w.heap.size w w1 := (Below.refl _ _).grown hgrow1 (Nat.le_refl _) (by simp)
  clear hgrow1
  go_wp2_with fail
  go_loopw [5, 6] (fun v i wr => ∃ k g cp : Nat, k ≤ ss.length ∧ i = .int .i64 k ∧ v = .slice (some ⟨g, 0, none⟩) (joinTo trimF ss k).length cp ∧ wr.ownsRow w.heap.size 5 1 v (joinTo trimF ss k).length ((joinTo trimF ss k).map bv) ∧ Below w.heap.size w wr) (fun _ i _ => ss.length - (intOf i).toNat)
  case atStart => exact ⟨0, _, _, Nat.zero_le _, rfl, rfl, hown1, hb1⟩
  case round =>
    obtain ⟨k, g, cp, hk, rfl, rfl, hown, hbel⟩ := hrel
    by_cases hlt : k < ss.length
    · have hc := (h.belowAll hbel).cell k hlt
      have ha := h.addr (by omega)
      have hb0 := h.lt (by omega)
      subst ha
      have hl1 := HLN.out k hk
      have hl2 := HLN.out (k + 1) hlt
      have HJ : Hid (joinTo trimF ss (k + 1) = begun (k == 0) (joinTo trimF ss k) ++ trimF ss[k]) := by show _ = _; rw [joinTo, getD_of_lt _ _ hlt]
      have hsx := HSX.out k hlt
      have hsz : (begun (k == 0) (joinTo trimF ss k)).length + (trimF ss[k]).length ≤ 2000000 := by rw [HJ.out, List.length_append] at hl2; exact hl2
      rw [getD_of_lt _ _ hlt] at hc
      clear hl2
      generalize ss[k] = x at *
      generalize hJ : joinTo trimF ss k = J at *
      clear hJ
      skip
      by_cases h0 : k = 0
      · subst h0
        have hbg : begun (0 == 0) J = J := rfl
        rw [hbg] at hsz HJ
        simp only [Nat.add_zero] at hc
        go_wp2_with fail
        refine (tline41 x _ hsx).mono ?_
        rintro e wq ⟨t, rfl, htt, hwq⟩
        obtain rfl := hwq.symm
        clear hwq
        have HTT : Hid (bytesOf t = trimF x) := htt
        have TL : Hid ((trimF x).length = t.size) := by show _ = _; rw [← HTT.out, bytesOf_len]
        rw [TL.out] at hsz
        clear htt

        go_wp2_with (refine Lib.wpList_append_own_string _ rfl (.tmp 20) (.tmp 25) 25 9 rfl w.heap.size 5 i0 Try.underlying25 Try.underlying9 hi hz0 hz1 hz2 _ _ _ (by rfl) hown t (by rfl) (by unfold maxLen; omega) (by omega) (by have := hbel.size; omega) ?_)
        intro v3 w3 hown3 hgrow3 hiff3
        have hb3 : Below w.heap.size w w3 := below_own hbel hown hgrow3 (by have := hbel.size; omega)
        obtain ⟨g3, cp3, hv3⟩ := own_form _ _ _ _ _ hown3 (by simpa using hiff3)
        subst hv3
        have HR : Hid (∃ g cp, Value.slice (some ⟨g3, 0, none⟩) (J.length + t.size) cp3 = .slice (some ⟨g, 0, none⟩) (joinTo trimF ss (0 + 1)).length cp ∧ w3.ownsRow w.heap.size 5 1 (.slice (some ⟨g3, 0, none⟩) (J.length + t.size) cp3) (joinTo trimF ss (0 + 1)).length ((joinTo trimF ss (0 + 1)).map bv)) := by
          rw [HJ.out, List.length_append, TL.out, List.map_append]
          refine ⟨g3, cp3, rfl, ?_⟩
          rw [strCells_bv] at hown3
          rw [HTT.out] at hown3; exact (by simpa using hown3)
        clear hown3 hgrow3 hiff3 hown
        go_wp2_with fail
        go_roundw
        case rel =>
          obtain ⟨g4, cp4, e4, o4⟩ := HR.out
          exact ⟨0 + 1, g4, cp4, by omega, by first | rfl | go_num, e4, o4, hb3⟩
        case measure => simp [intOf]; omega
      · have hpos : (0 : Int) < (k : Int) := by omega
        have hbg : begun (k == 0) J = J ++ [10] := by simp [begun, h0]
        rw [hbg] at hsz HJ
        have hsz2 : J.length + 1 ≤ 2000000 := by simp only [List.length_append, List.length_singleton] at hsz; omega
        have HNW : Hid (∀ j u, [bv 10][j]? = some u → (wr.alloc (.cells #[.int .u8 10] 5)).cell? ((⟨wr.heap.size, 0, none⟩ : Addr).add j) = some u) := World.news_of_block (heap_alloc_new wr (.cells #[.int .u8 10] 5))
        have hwl := hbel.size
        go_wp2_with (at_builtin; refine wpList_append_own _ rfl (.tmp 17) (.tmp 18) 25 rfl w.heap.size 5 i0 _ 1 1 Try.underlying25 hi hz0 hz1 hz2 rfl (by decide) (.slice (some ⟨g, 0, none⟩) J.length cp) J.length (J.map bv) (by rfl) (hown.alloc _) ⟨wr.heap.size, 0, none⟩ 1 1 [bv 10] (by rfl) rfl HNW.out (by intro u hu; simp at hu; subst hu; rfl) (by unfold maxLen; omega) (by omega) (by simp; omega) ?_)
        intro v' w2 hown2 hgrow2 hiff
        have hb2 : Below w.heap.size w w2 := below_own (hbel.alloc hwl _) (hown.alloc _) hgrow2 (by simp; omega)
        obtain ⟨g2, cp2, hv2⟩ := own_form _ _ _ _ _ hown2 (by simpa using hiff)
        obtain ⟨J1, hJ1⟩ : ∃ J1, J ++ [10] = J1 := ⟨_, rfl⟩
        have hlen1 : J.length + 1 = J1.length := by rw [← hJ1]; simp
        rw [hlen1] at hv2 hown2
        subst hv2
        rw [hJ1] at hsz HJ
        have hc2 : w2.cell? ⟨b, off + k, none⟩ = some (.string x) := (hb2.cell (p := ⟨b, off + k, none⟩) hb0).trans ((hbel.cell (p := ⟨b, off + k, none⟩) hb0).symm.trans hc)
        have hown2b : w2.ownsRow w.heap.size 5 1 (.slice (some ⟨g2, 0, none⟩) J1.length cp2) J1.length (J1.map bv) := by rw [← hJ1, List.map_append, hJ1]; exact hown2
        clear hlen1 hJ1
        clear hown2 hgrow2 hiff HNW hown
        go_wp2_with fail
        refine (tline41 x _ hsx).mono ?_
        rintro e wq ⟨t, rfl, htt, hwq⟩
        obtain rfl := hwq.symm
        clear hwq
        have HTT : Hid (bytesOf t = trimF x) := htt
        have TL : Hid ((trimF x).length = t.size) := by show _ = _; rw [← HTT.out, bytesOf_len]
        rw [TL.out] at hsz
        clear htt

        go_wp2_with (refine Lib.wpList_append_own_string _ rfl (.tmp 20) (.tmp 25) 25 9 rfl w.heap.size 5 i0 Try.underlying25 Try.underlying9 hi hz0 hz1 hz2 _ _ _ (by rfl) hown2b t (by rfl) (by unfold maxLen; omega) (by omega) (by have := hb2.size; omega) ?_)
        intro v3 w3 hown3 hgrow3 hiff3
        have hb3 : Below w.heap.size w w3 := below_own hb2 hown2b hgrow3 (by have := hb2.size; omega)
        obtain ⟨g3, cp3, hv3⟩ := own_form _ _ _ _ _ hown3 (by simpa using hiff3)
        subst hv3
        have HR : Hid (∃ g cp, Value.slice (some ⟨g3, 0, none⟩) (J1.length + t.size) cp3 = .slice (some ⟨g, 0, none⟩) (joinTo trimF ss (k + 1)).length cp ∧ w3.ownsRow w.heap.size 5 1 (.slice (some ⟨g3, 0, none⟩) (J1.length + t.size) cp3) (joinTo trimF ss (k + 1)).length ((joinTo trimF ss (k + 1)).map bv)) := by
          rw [HJ.out, List.length_append, TL.out, List.map_append]
          refine ⟨g3, cp3, rfl, ?_⟩
          rw [strCells_bv] at hown3
          rw [HTT.out] at hown3; exact (by simpa using hown3)
        clear hown3 hgrow3 hiff3 hown2b
        go_wp2_with fail
        go_roundw
        case rel =>
          obtain ⟨g4, cp4, e4, o4⟩ := HR.out
          exact ⟨k + 1, g4, cp4, by omega, by go_num, e4, o4, hb3⟩
        case measure => simp [intOf]; omega
    · go_wp2_with fail
      go_ret
      obtain rfl : k = ss.length := by omega
      exact ⟨g, cp, rfl, hown, hbel⟩
end EL
end Go.Proofs.Qxb6001700a
