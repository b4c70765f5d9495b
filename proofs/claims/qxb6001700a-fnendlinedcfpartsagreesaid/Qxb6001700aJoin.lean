/- The model's side: the lines joined. -/
import Derived.Test.Qxb6001700aStart3
import Derived.Lib.AppendStr
namespace Go.Proofs.Qxb6001700a
open Go.ChangeShapes Go.WideShapes Go.ChangeAt Go.RowKit
set_option linter.unusedVariables false
set_option linter.unusedSimpArgs false
namespace EL

/-- A string's bytes. -/
def bytesOf (s : ByteArray) : List UInt8 := s.data.toList
theorem bytesOf_len (s : ByteArray) : (bytesOf s).length = s.size := by
  rw [bytesOf, Array.length_toList]; rfl
theorem strCells_bv (s : ByteArray) : Lib.strCells s = (bytesOf s).map bv := rfl

/-- The first k lines, each as f makes it, joined by line feeds. -/
def joinTo (f : ByteArray → List UInt8) (ss : List ByteArray) : Nat → List UInt8
  | 0 => []
  | k + 1 => begun (k == 0) (joinTo f ss k) ++ f (ss.getD k ByteArray.empty)

/-- The lengths of the first k lines. -/
def sumTo (ss : List ByteArray) : Nat → Nat
  | 0 => 0
  | k + 1 => sumTo ss k + (ss.getD k ByteArray.empty).size

theorem begun_len (first : Bool) (L : List UInt8) : (begun first L).length ≤ L.length + 1 := by
  cases first <;> simp [begun]

theorem joinTo_len (f : ByteArray → List UInt8) (hf : ∀ s, (f s).length ≤ s.size) (ss : List ByteArray) : ∀ k, (joinTo f ss k).length ≤ k + sumTo ss k
  | 0 => by simp [joinTo]
  | k + 1 => by
    have h1 := joinTo_len f hf ss k
    have h2 := hf (ss.getD k ByteArray.empty)
    have h3 := begun_len (k == 0) (joinTo f ss k)
    simp only [joinTo, sumTo, List.length_append]
    omega

theorem sumTo_mono (ss : List ByteArray) {j k : Nat} (h : j ≤ k) : sumTo ss j ≤ sumTo ss k := by
  induction k with
  | zero => rw [show j = 0 by omega]; exact Nat.le_refl _
  | succ k ih =>
    by_cases e : j = k + 1
    · subst e; exact Nat.le_refl _
    · have := ih (by omega)
      simp only [sumTo]; omega

/-- A row of bytes of the call's own. -/
def RowOf (L : List UInt8) (w : World) (e : Ending) (w' : World) : Prop := ∃ g cap, e = .returned (.slice (some ⟨g, 0, none⟩) L.length cap) ∧ w'.ownsRow w.heap.size 5 1 (.slice (some ⟨g, 0, none⟩) L.length cap) L.length (L.map bv) ∧ Below w.heap.size w w'

theorem own_form (w : World) (base : Nat) (v : Value) (n : Nat) (xs : List Value) (h : w.ownsRow base 5 1 v n xs) (hv : v ≠ .slice none 0 0) : ∃ g cap, v = .slice (some ⟨g, 0, none⟩) n cap := by
  rcases h.2 with ⟨h0, _⟩ | ⟨g, cap, cur, hv, _⟩
  · exact absurd h0 hv
  · exact ⟨g, cap, hv⟩

theorem below_own {B : Nat} {a w w' : World} {e : TypeId} {v : Value} {n : Nat} {xs : List Value} (h : Below B a w) (ho : w.ownsRow B e 1 v n xs) (hg : w.grownBy w' v.ownBlock) (hB : B ≤ w.heap.size) : Below B a w' :=
  h.grown hg hB (fun k hk => (ho.lt k hk).1)

set_option maxHeartbeats 1000000 in
theorem joinedRaw32 (ss : List ByteArray) (at0 : Option Addr) (b off cap total : Nat) (w : World) (h : SS w at0 b off ss) (hl : ss.length ≤ 65536) (ht : total ≤ 1048576) (hs : sumTo ss ss.length ≤ 1048576) :
    Calls Try.prog 32 #[.slice at0 ss.length cap, .int .i64 total] w (RowOf (joinTo bytesOf ss ss.length) w) := by
  obtain ⟨i0, hi, hz0, hz1, hz2⟩ := info_parts info5
  have HLN : Hid (∀ k, k ≤ ss.length → (joinTo bytesOf ss k).length ≤ 2000000) := fun k hk => by
    have h1 := joinTo_len bytesOf (fun s => by rw [bytesOf_len]; exact Nat.le_refl _) ss k
    have h2 := sumTo_mono ss hk
    omega
  have HS : Hid (sumTo ss ss.length ≤ 1048576) := hs
  have HSX : Hid (∀ k (h : k < ss.length), ss[k].size ≤ 1048576) := fun k h => by
    have h2 := sumTo_mono ss (show k + 1 ≤ ss.length from h)
    simp only [sumTo, getD_of_lt _ _ h] at h2
    omega
  clear hs
  go_enter Try.func32, Try.ntmps32
  go_wp2_with (at_make; refine wpList_make_own _ rfl _ _ 25 rfl w.heap.size 5 i0 _ 1 Try.underlying25 hi hz0 hz1 .i64 .i64 _ total rfl rfl rfl (by rw [hz2]; omega) (by unfold maxLen; omega) (Nat.le_refl _) ?_)
  intro w1 hown1 hgrow1
  have hb1 : Below w.heap.size w w1 := (Below.refl _ _).grown hgrow1 (Nat.le_refl _) (by simp)
  clear hgrow1
  go_wp2_with fail
  go_loopw [5, 6] (fun v i wr => ∃ k g cp : Nat, k ≤ ss.length ∧ i = .int .i64 k ∧ v = .slice (some ⟨g, 0, none⟩) (joinTo bytesOf ss k).length cp ∧ wr.ownsRow w.heap.size 5 1 v (joinTo bytesOf ss k).length ((joinTo bytesOf ss k).map bv) ∧ Below w.heap.size w wr) (fun _ i _ => ss.length - (intOf i).toNat)
  case atStart => exact ⟨0, _, _, Nat.zero_le _, rfl, rfl, hown1, hb1⟩
  case round =>
    obtain ⟨k, g, cp, hk, rfl, rfl, hown, hbel⟩ := hrel
    by_cases hlt : k < ss.length
    · have hc := (h.belowAll hbel).cell k hlt
      have ha := h.addr (by omega)
      have hb0 := h.lt (by omega)
      subst ha
      have hl1 := HLN.out k hk
      have hl2 := HLN.out (k + 1) hlt
      have HJ : Hid (joinTo bytesOf ss (k + 1) = begun (k == 0) (joinTo bytesOf ss k) ++ bytesOf ss[k]) := by show _ = _; rw [joinTo, getD_of_lt _ _ hlt]
      have hsx := HSX.out k hlt
      have hsz : (begun (k == 0) (joinTo bytesOf ss k)).length + (bytesOf ss[k]).length ≤ 2000000 := by rw [HJ.out, List.length_append] at hl2; exact hl2
      rw [getD_of_lt _ _ hlt] at hc
      clear hl2
      generalize ss[k] = x at *
      generalize hJ : joinTo bytesOf ss k = J at *
      clear hJ
      rw [bytesOf_len] at hsz
      by_cases h0 : k = 0
      · subst h0
        have hbg : begun (0 == 0) J = J := rfl
        rw [hbg] at hsz HJ
        simp only [Nat.add_zero] at hc

        go_wp2_with (refine Lib.wpList_append_own_string _ rfl (.tmp 20) (.tmp 24) 25 9 rfl w.heap.size 5 i0 Try.underlying25 Try.underlying9 hi hz0 hz1 hz2 _ _ _ (by rfl) hown x (by rfl) (by unfold maxLen; omega) (by omega) (by have := hbel.size; omega) ?_)
        intro v3 w3 hown3 hgrow3 hiff3
        have hb3 : Below w.heap.size w w3 := below_own hbel hown hgrow3 (by have := hbel.size; omega)
        obtain ⟨g3, cp3, hv3⟩ := own_form _ _ _ _ _ hown3 (by simpa using hiff3)
        subst hv3
        have HR : Hid (∃ g cp, Value.slice (some ⟨g3, 0, none⟩) (J.length + x.size) cp3 = .slice (some ⟨g, 0, none⟩) (joinTo bytesOf ss (0 + 1)).length cp ∧ w3.ownsRow w.heap.size 5 1 (.slice (some ⟨g3, 0, none⟩) (J.length + x.size) cp3) (joinTo bytesOf ss (0 + 1)).length ((joinTo bytesOf ss (0 + 1)).map bv)) := by
          rw [HJ.out, List.length_append, bytesOf_len, List.map_append]
          refine ⟨g3, cp3, rfl, ?_⟩
          rw [strCells_bv] at hown3
          exact (by simpa using hown3)
        clear hown3 hgrow3 hiff3 hown
        go_wp2_with fail
        go_roundw
        case rel =>
          obtain ⟨g4, cp4, e4, o4⟩ := HR.out
          exact ⟨0 + 1, g4, cp4, by omega, by first | rfl | go_num, e4, o4, hb3⟩
        case measure => simp [intOf]; omega
      · have hpos : (0 : Int) < (k : Int) := by omega
        have hbg : begun (k == 0) J = J ++ [10] := by simp [begun, h0]
        rw [hbg] at hsz HJ
        have hsz2 : J.length + 1 ≤ 2000000 := by simp only [List.length_append, List.length_singleton] at hsz; omega
        have HNW : Hid (∀ j u, [bv 10][j]? = some u → (wr.alloc (.cells #[.int .u8 10] 5)).cell? ((⟨wr.heap.size, 0, none⟩ : Addr).add j) = some u) := World.news_of_block (heap_alloc_new wr (.cells #[.int .u8 10] 5))
        have hwl := hbel.size
        go_wp2_with (at_builtin; refine wpList_append_own _ rfl (.tmp 17) (.tmp 18) 25 rfl w.heap.size 5 i0 _ 1 1 Try.underlying25 hi hz0 hz1 hz2 rfl (by decide) (.slice (some ⟨g, 0, none⟩) J.length cp) J.length (J.map bv) (by rfl) (hown.alloc _) ⟨wr.heap.size, 0, none⟩ 1 1 [bv 10] (by rfl) rfl HNW.out (by intro u hu; simp at hu; subst hu; rfl) (by unfold maxLen; omega) (by omega) (by simp; omega) ?_)
        intro v' w2 hown2 hgrow2 hiff
        have hb2 : Below w.heap.size w w2 := below_own (hbel.alloc hwl _) (hown.alloc _) hgrow2 (by simp; omega)
        obtain ⟨g2, cp2, hv2⟩ := own_form _ _ _ _ _ hown2 (by simpa using hiff)
        obtain ⟨J1, hJ1⟩ : ∃ J1, J ++ [10] = J1 := ⟨_, rfl⟩
        have hlen1 : J.length + 1 = J1.length := by rw [← hJ1]; simp
        rw [hlen1] at hv2 hown2
        subst hv2
        rw [hJ1] at hsz HJ
        have hc2 : w2.cell? ⟨b, off + k, none⟩ = some (.string x) := (hb2.cell (p := ⟨b, off + k, none⟩) hb0).trans ((hbel.cell (p := ⟨b, off + k, none⟩) hb0).symm.trans hc)
        have hown2b : w2.ownsRow w.heap.size 5 1 (.slice (some ⟨g2, 0, none⟩) J1.length cp2) J1.length (J1.map bv) := by rw [← hJ1, List.map_append, hJ1]; exact hown2
        clear hlen1 hJ1
        clear hown2 hgrow2 hiff HNW hown

        go_wp2_with (refine Lib.wpList_append_own_string _ rfl (.tmp 20) (.tmp 24) 25 9 rfl w.heap.size 5 i0 Try.underlying25 Try.underlying9 hi hz0 hz1 hz2 _ _ _ (by rfl) hown2b x (by rfl) (by unfold maxLen; omega) (by omega) (by have := hb2.size; omega) ?_)
        intro v3 w3 hown3 hgrow3 hiff3
        have hb3 : Below w.heap.size w w3 := below_own hb2 hown2b hgrow3 (by have := hb2.size; omega)
        obtain ⟨g3, cp3, hv3⟩ := own_form _ _ _ _ _ hown3 (by simpa using hiff3)
        subst hv3
        have HR : Hid (∃ g cp, Value.slice (some ⟨g3, 0, none⟩) (J1.length + x.size) cp3 = .slice (some ⟨g, 0, none⟩) (joinTo bytesOf ss (k + 1)).length cp ∧ w3.ownsRow w.heap.size 5 1 (.slice (some ⟨g3, 0, none⟩) (J1.length + x.size) cp3) (joinTo bytesOf ss (k + 1)).length ((joinTo bytesOf ss (k + 1)).map bv)) := by
          rw [HJ.out, List.length_append, bytesOf_len, List.map_append]
          refine ⟨g3, cp3, rfl, ?_⟩
          rw [strCells_bv] at hown3
          exact (by simpa using hown3)
        clear hown3 hgrow3 hiff3 hown2b
        go_wp2_with fail
        go_roundw
        case rel =>
          obtain ⟨g4, cp4, e4, o4⟩ := HR.out
          exact ⟨k + 1, g4, cp4, by omega, by go_num, e4, o4, hb3⟩
        case measure => simp [intOf]; omega
    · go_wp2_with fail
      go_ret
      obtain rfl : k = ss.length := by omega
      exact ⟨g, cp, rfl, hown, hbel⟩
end EL
end Go.Proofs.Qxb6001700a
