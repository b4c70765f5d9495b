/- What only reads the buffer. -/
import Derived.Test.Qxb6001700aBuf
namespace Go.Proofs.Qxb6001700a
open Go.ChangeShapes Go.WideShapes Go.ChangeAt Go.RowKit
set_option linter.unusedVariables false
set_option linter.unusedSimpArgs false
namespace EL

set_option maxHeartbeats 400000 in
theorem len56 (p : Nat) (s : St) (ln : Bool) (ls : Int) (ts : Bool) (w : World) (h : Buf w p s ln ls ts) (hb : s.bytes.length ≤ 4194304) :
    Calls Try.prog 56 #[.pointer (some ⟨p, 0, none⟩)] w fun e w' => e = .returned (.int .i64 s.bytes.length) ∧ ∃ n, w' = w.drewN n := by
  have hl := h.len
  have c0 := h.c0
  have c1 := h.c1
  obtain ⟨a0, k0, h0⟩ := ownsRow_form h.own0
  obtain ⟨a1, k1, h1⟩ := ownsRow_form h.own1
  rw [h0] at c0
  rw [h1] at c1
  clear h0 h1 h
  rw [hl]
  rw [hl] at hb
  clear hl
  generalize s.fulls.length = F at *
  generalize s.last.length = n at *
  go_enter Try.func56, Try.ntmps56
  go_wp2
  go_quiet (fail)
  go_wp2
  go_ret
  exact ⟨ret_int (by omega), _, rfl⟩

set_option maxHeartbeats 400000 in
theorem empty57 (p : Nat) (s : St) (ln : Bool) (ls : Int) (ts : Bool) (w : World) (h : Buf w p s ln ls ts) (hb : s.bytes.length ≤ 4194304) :
    Calls Try.prog 57 #[.pointer (some ⟨p, 0, none⟩)] w fun e w' => e = .returned (.bool (decide (s.last = []))) ∧ w' = w := by
  have hl := h.len
  have c1 := h.c1
  obtain ⟨a1, k1, h1⟩ := ownsRow_form h.own1
  rw [h1] at c1
  clear h1 h
  have hE : decide (s.last = []) = ((s.last.length : Int) == 0) := by cases s.last <;> simp; omega
  rw [hE]
  go_enter Try.func57, Try.ntmps57
  go_wp2
  go_ret
  exact ⟨rfl, rfl⟩

set_option maxHeartbeats 400000 in
theorem end58 (p : Nat) (s : St) (ln : Bool) (ls : Int) (ts : Bool) (w : World) (h : Buf w p s ln ls ts) (hb : s.bytes.length ≤ 4194304) (hne : s.last ≠ []) :
    Calls Try.prog 58 #[.pointer (some ⟨p, 0, none⟩)] w fun e w' => ∃ g, e = .returned (.pointer (some ⟨g, s.last.length - 1, none⟩)) ∧ w.cell? ⟨g, s.last.length - 1, none⟩ = some (bv (s.last.getLast hne)) ∧ ∃ n, w' = w.drewN n := by
  have hl := h.len
  have c1 := h.c1
  have hpos : 0 < s.last.length := List.length_pos_iff.2 hne
  obtain ⟨g, cap, h1, _, _⟩ := h.own1.form hpos
  have hown := h.own1
  rw [h1] at c1 hown
  have hc := hown.cellAt (s.last.length - 1) (by omega)
  have hc2 : w.cell? ⟨g, s.last.length - 1, none⟩ = some (bv (s.last.getLast hne)) := by
    rw [hc, List.getElem?_map, List.getLast_eq_getElem, List.getElem?_eq_getElem (by omega)]; rfl
  have HC : Hid (w.cell? ⟨g, s.last.length - 1, none⟩ = some (bv (s.last.getLast hne))) := hc2
  clear hc hc2 hown h1 h
  generalize s.last.getLast hne = b at *
  have hlt : s.last.length ≤ 4194304 := by omega
  clear hl hb hne
  generalize s.last.length = n at *
  obtain ⟨m, rfl⟩ : ∃ m, n = m + 1 := ⟨n - 1, by omega⟩
  go_enter Try.func58, Try.ntmps58
  go_wp2
  go_quiet (fail)
  go_wp2
  go_ret
  exact ⟨g, rfl, HC.out, _, rfl⟩

theorem andMask (n : Int) : bits .and .i64 n 65535 = n % 65536 := by
  have h127 : (BitVec.ofInt 64 65535).toNat = 2 ^ 16 - 1 := by decide
  have key : (BitVec.ofInt 64 n &&& BitVec.ofInt 64 65535).toNat = (n % ((2 ^ 64 : Nat) : Int)).toNat % 2 ^ 16 := by
    rw [BitVec.toNat_and, BitVec.toNat_ofInt, h127, Nat.and_two_pow_sub_one_eq_mod]
  show IntKind.i64.wrap ((BitVec.ofInt 64 n &&& BitVec.ofInt 64 65535).toNat : Nat) = n % 65536
  rw [key, IntKind.wrap_i64]
  omega

set_option maxHeartbeats 400000 in
theorem at49 (p : Nat) (s : St) (ln : Bool) (ls : Int) (ts : Bool) (w : World) (h : Buf w p s ln ls ts) (hb : s.bytes.length ≤ 4194304) (i : Nat) (hi : i < s.bytes.length) :
    Calls Try.prog 49 #[.pointer (some ⟨p, 0, none⟩), .int .i64 i] w fun e w' => ∃ a : Addr, e = .returned (.pointer (some a)) ∧ w.cell? a = some (bv s.bytes[i]) ∧ w' = w := by
  have hl := h.len
  have c0 := h.c0
  have c1 := h.c1
  have hm : bits .and .i64 (i : Int) 65535 = (i : Int) % 65536 := andMask _
  by_cases hk : i / 65536 < s.fulls.length
  · obtain ⟨g, cap, h1, _, _⟩ := h.own0.form (by omega)
    have hown := h.own0
    rw [h1] at c0 hown
    have hc := hown.cellAt (i / 65536) (by omega)
    have HX := h.get_full i _ (List.getElem?_eq_getElem hk)
    have hx := h.each _ (List.getElem_mem hk)
    rw [List.getElem?_map, List.getElem?_eq_getElem hk] at hc
    have hc2 := hx.cellAt (i % 65536) (by omega)
    rw [List.getElem?_map, ← HX, List.getElem?_eq_getElem hi] at hc2
    simp only [Option.map_some, fullV] at hc hc2
    have HC : Hid (w.cell? ⟨(s.fulls[i / 65536]).1, i % 65536, none⟩ = some (bv s.bytes[i])) := hc2
    clear hc2 hx HX hown h1
    generalize s.fulls[i / 65536].1 = g2 at *
    go_enter Try.func49, Try.ntmps49
    go_wp2
    go_ret
    exact ⟨_, rfl, HC.out, rfl⟩
  · have hpos : 0 < s.last.length := by omega
    obtain ⟨g, cap, h1, _, _⟩ := h.own1.form hpos
    obtain ⟨a0, k0, h0⟩ := ownsRow_form h.own0
    rw [h0] at c0
    have hown := h.own1
    rw [h1] at c1 hown
    have hcap := h.cap
    have hcl : s.last.length ≤ 65536 := by
      rcases hown.2 with ⟨h2, _⟩ | ⟨g', cap', cur, hv, _, _, hh, _⟩
      · cases h2
      · rw [h1] at hcap
        simp only [Value.slice.injEq] at hv
        obtain ⟨_, _, rfl⟩ := hv
        exact Nat.le_trans hh hcap
    have hF : i / 65536 = s.fulls.length := by omega
    have HX := h.get_last i (by omega)
    have hq : i - 65536 * s.fulls.length = i % 65536 := by omega
    rw [hq] at HX
    have hc2 := hown.cellAt (i % 65536) (by omega)
    rw [List.getElem?_map, ← HX, List.getElem?_eq_getElem hi] at hc2
    simp only [Option.map_some] at hc2
    have HC : Hid (w.cell? ⟨g, i % 65536, none⟩ = some (bv s.bytes[i])) := hc2
    have hlt : i % 65536 < s.last.length := by omega
    have hF2 : ¬ ((i : Int) / 65536 < (s.fulls.length : Int)) := by omega
    clear hc2 HX hown h1 h0
    go_enter Try.func49, Try.ntmps49
    go_wp2
    go_ret
    exact ⟨_, rfl, HC.out, rfl⟩

set_option maxHeartbeats 400000 in
theorem len48 (p : Nat) (s : St) (ln : Bool) (ls : Int) (ts : Bool) (w : World) (h : Buf w p s ln ls ts) (hb : s.bytes.length ≤ 4194304) :
    Calls Try.prog 48 #[.pointer (some ⟨p, 0, none⟩)] w fun e w' => e = .returned (.int .i64 s.bytes.length) ∧ ∃ n, w' = w.drewN n := by
  go_enter Try.func48, Try.ntmps48
  go_wp2_with fail
  refine (len56 p s ln ls ts _ h hb).mono ?_
  rintro e w' ⟨rfl, n, rfl⟩
  go_wp2
  go_ret
  exact ⟨rfl, _, rfl⟩

set_option maxHeartbeats 400000 in
theorem len39 (p : Nat) (A : Nat → Prop) (L : List UInt8) (ln : Bool) (ls : Int) (ts : Bool) (w : World) (h : Holds w p A L ln ls ts) (hb : L.length ≤ 4194304) :
    Calls Try.prog 39 #[.pointer (some ⟨p, 0, none⟩)] w fun e w' => e = .returned (.int .i64 L.length) ∧ ∃ n, w' = w.drewN n := by
  obtain ⟨s, h, rfl, _, _⟩ := h
  go_enter Try.func39, Try.ntmps39
  go_wp2_with fail
  refine (len48 p s ln ls ts _ h hb).mono ?_
  rintro e w' ⟨rfl, n, rfl⟩
  go_wp2
  go_ret
  exact ⟨rfl, _, rfl⟩

set_option maxHeartbeats 400000 in
theorem at40 (p : Nat) (A : Nat → Prop) (L : List UInt8) (ln : Bool) (ls : Int) (ts : Bool) (w : World) (h : Holds w p A L ln ls ts) (hb : L.length ≤ 4194304) (i : Nat) (hi : i < L.length) :
    Calls Try.prog 40 #[.pointer (some ⟨p, 0, none⟩), .int .i64 i] w fun e w' => e = .returned (bv L[i]) ∧ w' = w := by
  obtain ⟨s, h, rfl, _, _⟩ := h
  go_enter Try.func40, Try.ntmps40
  go_wp2_with fail
  refine (at49 p s ln ls ts _ h hb i hi).mono ?_
  rintro e w' ⟨a, rfl, hc, hw⟩
  obtain rfl := hw.symm
  unfold bv at *
  go_wp2
  go_ret
  exact ⟨rfl, rfl⟩
end EL
end Go.Proofs.Qxb6001700a
