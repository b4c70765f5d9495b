/- The walk of FnCarrySpec. -/
import Derived.Test.Qxb6001673aCarCarry
import Derived.Deep.RegionWith
namespace Go.Proofs.Qxb6001673a
open Go.ChangeShapes Go.WideShapes Go.ChangeAt Go.RowKit
set_option linter.unusedVariables false
set_option linter.unusedSimpArgs false
namespace Car

theorem indexOf_n (ss : List ByteArray) (s : ByteArray) (at0 : Option Addr) (b off n cap : Nat) (w : World) (h : SS w at0 b off ss) (hn : ss.length = n) (hl : n ≤ 1000000000) :
    Calls Try.prog 39 #[.slice at0 n cap, .string s] w fun e w' => e = .returned (.int .i64 (idx ss s)) ∧ w' = w := by
  subst hn; exact indexOf_any ss s at0 b off cap w h hl

/-- cloneStrs of whatever slice. -/
def Cloned (ss : List ByteArray) (w : World) (e : Ending) (w' : World) : Prop :=
  ∃ (at' : Option Addr) (b' : Nat), e = .returned (.slice at' ss.length ss.length) ∧ SS w' at' b' 0 ss ∧ Below w.heap.size w w'

theorem cloneStrs_u (ss : List ByteArray) (at0 : Option Addr) (b off cap : Nat) (w : World) (h : SS w at0 b off ss) (hl : ss.length ≤ 1048576) (hn : Hid (at0 = none → ss.length = 0 ∧ cap = 0)) :
    Calls Try.prog 37 #[.slice at0 ss.length cap] w (Cloned ss w) := by
  cases at0 with
  | none =>
    obtain ⟨h1, rfl⟩ := hn.out rfl
    rw [h1]
    refine (cloneStrs_nil w).mono ?_
    rintro e w' ⟨rfl, rfl⟩
    exact ⟨none, 0, by rw [h1], ⟨fun h => by omega, fun i hi => by omega⟩, Below.refl _ _⟩
  | some a =>
    refine (cloneStrs_any ss a b off cap w h hl).mono ?_
    rintro e w' ⟨rfl, hs, hb, _⟩
    exact ⟨_, _, rfl, hs, hb⟩

def room : ByteArray := { data := #[0, 122, 122, 45, 114, 111, 111, 109] }

/-- What lies in 'full' behind its first loop's k rounds, and behind its second's. -/
def full1 (A : List ByteArray) (k : Nat) (j : Nat) : Value := if j < k then .string (A.getD j ByteArray.empty) else .string ByteArray.empty
def full2 (A : List ByteArray) (k : Nat) (j : Nat) : Value := if j < A.length then .string (A.getD j ByteArray.empty) else if j < k then .string { data := #[0, 122, 122, 45, 114, 111, 111, 109] } else .string ByteArray.empty

theorem full1_step {w : World} {b : Nat} {A : List ByteArray} {k : Nat} (h : w.rowIs b 9 (A.length + 4) (full1 A k)) (hlt : k < A.length) :
    (w.setCell ⟨b, k, none⟩ (.string A[k])).rowIs b 9 (A.length + 4) (full1 A (k + 1)) :=
  (h.set k _).congr (fun i _ => by
    unfold full1
    by_cases e : i = k
    · subst e; simp [List.getD, hlt]
    · have e2 : i < k + 1 ↔ i < k := by omega
      simp only [e, if_false, e2])

theorem full2_start {w : World} {b : Nat} {A : List ByteArray} (h : w.rowIs b 9 (A.length + 4) (full1 A A.length)) : w.rowIs b 9 (A.length + 4) (full2 A A.length) :=
  h.congr (fun i _ => by
    unfold full1 full2
    by_cases e : i < A.length <;> simp [e])

theorem full2_at {A : List ByteArray} {k : Nat} (h : A.length ≤ k) : full2 A k k = .string ByteArray.empty := by
  unfold full2; rw [if_neg (by omega), if_neg (by omega)]

theorem full2_step {w : World} {b : Nat} {A : List ByteArray} {k : Nat} (h : w.rowIs b 9 (A.length + 4) (full2 A k)) (hk : A.length ≤ k) :
    (w.setCell ⟨b, k, none⟩ (.string { data := #[0, 122, 122, 45, 114, 111, 111, 109] })).rowIs b 9 (A.length + 4) (full2 A (k + 1)) :=
  (h.set k _).congr (fun i _ => by
    unfold full2
    by_cases e : i = k
    · subst e
      rw [if_pos rfl, if_neg (by omega), if_pos (by omega)]
    · have e2 : i < k + 1 ↔ i < k := by omega
      simp only [e, if_false, e2])

theorem full2_ss {w : World} {b : Nat} {A : List ByteArray} (h : w.rowIs b 9 (A.length + 4) (full2 A (A.length + 4))) : SS w (some ⟨b, 0, none⟩) b 0 A :=
  ⟨fun _ => rfl, fun i hi => by
    rw [Nat.zero_add, h.cell (show i < A.length + 4 by omega)]
    unfold full2
    rw [if_pos hi]⟩

/-- What Carry hands back, written out: an address in every case (n + 4 cells were handed in), its capacity is not n. -/
theorem tags_form {A own tl : List ByteArray} {F : Nat} {w : World} {v : Value} {w' : World} (h : Tags A (carry A own) (some ⟨F, 0, none⟩) (A.length + 4) w v w') (hT : carry A own = A ++ tl) :
    ∃ b' off' cap', v = .slice (some ⟨b', off', none⟩) (A.length + tl.length) cap' ∧ A.length + tl.length ≤ cap' ∧ A.length < cap' ∧ SS w' (some ⟨b', off', none⟩) b' off' (A ++ tl) ∧ Hid (tl.length = 0 → b' = F ∧ off' = 0) ∧ Below w.heap.size w w' := by
  rw [hT] at h
  obtain ⟨at', b', off', cap', rfl, hss, hnn, hlc, hcm, hsame, hbel⟩ := h
  have hlen : (A ++ tl).length = A.length + tl.length := List.length_append
  by_cases h0 : tl.length = 0
  · obtain ⟨rfl, rfl⟩ := hsame.out (by omega)
    by_cases hA : A.length = 0
    · exact ⟨F, 0, A.length + 4, by rw [hlen], by omega, by omega, ⟨fun _ => rfl, fun i hi => by omega⟩, fun _ => ⟨rfl, rfl⟩, hbel⟩
    · have := hss.addr (by omega)
      simp only [Option.some.injEq, Addr.mk.injEq] at this
      obtain ⟨rfl, rfl, _⟩ := this
      exact ⟨F, 0, A.length + 4, by rw [hlen], by omega, by omega, hss, fun _ => ⟨rfl, rfl⟩, hbel⟩
  · have := hss.addr (by omega)
    subst this
    exact ⟨b', off', cap', by rw [hlen], by omega, by omega, hss, fun h => absurd h h0, hbel⟩

theorem getD_left (A tl : List ByteArray) (k : Nat) (h : k < A.length) : (A ++ tl).getD k ByteArray.empty = A.getD k ByteArray.empty := by
  simp [List.getD, List.getElem?_append_left h]

theorem ss_tail {w : World} {b off : Nat} {A tl : List ByteArray} (h : SS w (some ⟨b, off, none⟩) b off (A ++ tl)) : SS w (some ⟨b, off + A.length, none⟩) b (off + A.length) tl :=
  ⟨fun _ => rfl, fun i hi => by
    rw [Nat.add_assoc, h.cell (A.length + i) (by simp; omega)]
    simp [List.getD, List.getElem?_append_right]⟩

theorem wrapEq (x : Int) : IntKind.i64.wrap x = wrap64 x := by rw [IntKind.wrap_i64]; unfold wrap64; rfl

theorem eqSelf (d : Nat) (w : World) (a : Addr) : (Op.equalIn (d + 1) 70 (.pointer (some a)) (.pointer (some a))).run Try.prog w = .ok true w := by
  obtain ⟨i, hi, _, h1, _⟩ := info_parts info9
  simp [Op.equalIn, run_underlying Try.underlying70, sizeOf, typeInfo, hi, h1, sameAddr]
theorem neqSelf (w : World) (a : Addr) : (binOp .neq 70 (.pointer (some a)) (.pointer (some a))).run Try.prog w = .ok (.bool false) w := by
  have h : (Op.equal 70 (.pointer (some a)) (.pointer (some a))).run Try.prog w = .ok true w := eqSelf 9999 w a
  simp only [binOp]
  simp [h]
theorem neqNil (w : World) (a : Option Addr) (n c n' c' : Nat) : (binOp .neq 31 (.slice a n c) (.slice none n' c')).run Try.prog w = .ok (.bool (!a.isNone)) w := run_neq_slice_nil_any w _ _ a n c n' c' Try.underlying31

theorem bel_drewN {B : Nat} {w w' : World} (h : Below B w w') (n : Nat) : Below B w (w'.drewN n) := ⟨h.os, h.tape, h.output, h.size, h.block⟩

theorem quiet_more {P : Program} {f : Nat} {args : Array Value} {w : World} {n x : Nat} {v : Value} (h : Calls P f args (w.drewN (n + x)) fun e w' => e = .returned v ∧ w' = w.drewN (n + x)) :
    Calls P f args (w.drewN (n + x)) fun e w'' => e = .returned v ∧ ∃ m, w'' = w.drewN (n + m) := h.mono (by rintro e w' ⟨rfl, rfl⟩; exact ⟨rfl, x, rfl⟩)

set_option maxRecDepth 100000 in
set_option maxHeartbeats 2000000 in
theorem main_walk (A own : List ByteArray) (at0 at1 : Option Addr) (b0 o0 c0 b1 o1 c1 : Nat) (w : World) (h0 : SS w at0 b0 o0 A) (h1 : SS w at1 b1 o1 own)
    (hn0 : Hid (at0 = none → A.length = 0 ∧ c0 = 0)) (hn1 : Hid (at1 = none → own.length = 0 ∧ c1 = 0)) (hl0 : A.length ≤ 9223372036854775807) (hl1 : own.length ≤ 9223372036854775807) :
    Calls Try.prog 9 #[.slice at0 A.length c0, .slice at1 own.length c1] w fun e w' => e = .returned (.bool true) ∧ Below w.heap.size w w' := by
  have q := nil31
  go_enter Try.func9, Try.ntmps9
  go_wp2_with fail
  refine (zzBytes_any A own at0 at1 b0 o0 c0 b1 o1 c1 _ h0 h1 hl0 hl1).mono ?_
  rintro e w' ⟨r, rfl, hw, hr⟩
  obtain rfl := hw.symm
  cases r with
  | false =>
    go_wp2_with fail
    go_ret
    exact ⟨rfl, Below.refl _ _⟩
  | true =>
    obtain ⟨hs0, hs1⟩ := hr rfl
    have HS0 : Hid (∀ s ∈ A, s.size ≤ 1048576) := hs0
    have HS1 : Hid (∀ s ∈ own, s.size ≤ 1048576) := hs1
    clear hs0 hs1 hr
    by_cases hA : A.length ≤ 1024
    case neg =>
      go_wp2_with fail
      go_ret
      exact ⟨rfl, Below.refl _ _⟩
    by_cases hO : own.length ≤ 1024
    case neg =>
      go_wp2_with fail
      go_ret
      exact ⟨rfl, Below.refl _ _⟩
    go_wp2_with fail
    refine (strsBytes_any A at0 b0 o0 c0 _ h0 hA HS0.out).mono ?_
    rintro e w' ⟨rfl, hw⟩
    obtain rfl := hw.symm
    go_wp2_with fail
    refine (strsBytes_any own at1 b1 o1 c1 _ h1 hO HS1.out).mono ?_
    rintro e w' ⟨rfl, hw⟩
    obtain rfl := hw.symm
    have t1 := tot_bd 1048576 A HS0.out
    have t2 := tot_bd 1048576 own HS1.out
    have t3 : (A.length : Int) * (16 + (1048576 : Nat)) ≤ 1024 * (16 + (1048576 : Nat)) := Int.mul_le_mul_of_nonneg_right (by omega) (by omega)
    have t4 : (own.length : Int) * (16 + (1048576 : Nat)) ≤ 1024 * (16 + (1048576 : Nat)) := Int.mul_le_mul_of_nonneg_right (by omega) (by omega)
    have t5 : 0 ≤ tot A ∧ tot A ≤ 1100000000 := by omega
    have t6 : 0 ≤ tot own ∧ tot own ≤ 1100000000 := by omega
    clear t1 t2 t3 t4
    by_cases hB : tot A + tot own ≤ 1048576
    case neg =>
      go_wp2_with fail
      go_ret
      exact ⟨rfl, Below.refl _ _⟩
    go_wp2_with fail
    obtain ⟨nb, hnb⟩ : ∃ nb, at0.isNone = nb := ⟨_, rfl⟩
    rw [hnb]
    have HNB : Hid (nb = true → A = []) := by
      intro h
      rw [h] at hnb
      have := (hn0.out (by simpa using hnb)).1
      exact List.eq_nil_of_length_eq_zero this
    clear hnb
    refine (cloneStrs_u A at0 b0 o0 c0 _ h0 (by omega) hn0).mono ?_
    rintro e w1 ⟨ata, ba, rfl, ssa, bel1⟩
    go_wp2_with fail
    refine (cloneStrs_u own at1 b1 o1 c1 _ (h1.belowAll bel1) (by omega) hn1).mono ?_
    rintro e w2 ⟨ato, bo, rfl, sso, bel2⟩
    have ssa2 := ssa.belowAll bel2
    have bel := bel1.trans (bel2.mono bel1.size)
    clear bel1 bel2 ssa t5 t6 hB h0 h1 hn0 hn1 HS0 HS1
    have hmk := run_make_row' (P := Try.prog) 31 9 (.string ByteArray.empty) 16 Try.underlying31 info9 rfl .i64 .i64 (A.length + 4) (by omega) (by omega)
    have e4 : ((A.length + 4 : Nat) : Int) = (A.length : Int) + 4 := by omega
    rw [e4] at hmk
    clear e4
    go_wp2_with fail
    clear hmk
    go_loopw [8] (fun i wr => ∃ k : Nat, k ≤ A.length ∧ i = .int .i64 k ∧ wr.rowIs w2.heap.size 9 (A.length + 4) (full1 A k) ∧ Below w2.heap.size w2 wr) (fun i _ => A.length - (intOf i).toNat)
    case atStart => exact ⟨0, Nat.zero_le _, rfl, (World.rowIs_made _ _ _ _).congr (fun i _ => by simp [full1]), (Below.refl _ _).alloc (Nat.le_refl _) _⟩
    case round =>
    obtain ⟨k, hk, rfl, hrow, hbw⟩ := hrel
    by_cases hlt : k < A.length
    case pos =>
      have hc := (ssa2.belowAll hbw).cell k hlt
      simp only [Nat.zero_add] at hc
      have ha := ssa2.addr (by omega)
      have ho := hrow.cell (show k < A.length + 4 by omega)
      have hf := hrow.frozen k
      subst ha
      simp only [full1, Nat.lt_irrefl, if_false] at ho
      have R := full1_step hrow hlt
      have R1 : Hid (wr.setCell ⟨w2.heap.size, k, none⟩ (.string A[k]) |>.rowIs w2.heap.size 9 (A.length + 4) (full1 A (k + 1))) := R
      have R2 : Hid (Below w2.heap.size w2 (wr.setCell ⟨w2.heap.size, k, none⟩ (.string A[k]))) := hbw.setCell (Nat.le_refl _) _
      clear R
      go_wp2_with fail
      go_roundw
      case rel => exact ⟨k + 1, by omega, by go_num, R1.out, R2.out⟩
      case measure => simp [intOf]; omega
    obtain rfl : k = A.length := by omega
    have hrow2 := full2_start hrow
    clear hrow hlt hk
    go_wp2_with fail
    go_loopw [9] (fun i wr => ∃ k : Nat, A.length ≤ k ∧ k ≤ A.length + 4 ∧ i = .int .i64 k ∧ wr.rowIs w2.heap.size 9 (A.length + 4) (full2 A k) ∧ Below w2.heap.size w2 wr) (fun i _ => A.length + 4 - (intOf i).toNat)
    case atStart => exact ⟨A.length, Nat.le_refl _, by omega, rfl, hrow2, hbw⟩
    case round =>
    clear hrow2 hbw
    obtain ⟨k, hk1, hk2, rfl, hrow, hbw⟩ := hrel
    by_cases hlt : k < A.length + 4
    case pos =>
      have ho := hrow.cell hlt
      have hf := hrow.frozen k
      rw [full2_at hk1] at ho
      have R := full2_step hrow hk1
      have R1 : Hid (wr.setCell ⟨w2.heap.size, k, none⟩ (.string { data := #[0, 122, 122, 45, 114, 111, 111, 109] }) |>.rowIs w2.heap.size 9 (A.length + 4) (full2 A (k + 1))) := R
      have R2 : Hid (Below w2.heap.size w2 (wr.setCell ⟨w2.heap.size, k, none⟩ (.string { data := #[0, 122, 122, 45, 114, 111, 111, 109] }))) := hbw.setCell (Nat.le_refl _) _
      clear R
      have hlt' : (k : Int) < (A.length : Int) + 4 := by omega
      go_wp2_with fail
      go_roundw
      case rel => exact ⟨k + 1, by omega, by omega, by go_num, R1.out, R2.out⟩
      case measure => simp [intOf]; omega
    obtain rfl : k = A.length + 4 := by omega
    clear hlt hk1 hk2
    go_wp2_with fail
    have ssf : SS wr (some ⟨w2.heap.size, 0, none⟩) w2.heap.size 0 A := full2_ss hrow
    refine (carry_any A own (some ⟨w2.heap.size, 0, none⟩) ato w2.heap.size 0 (A.length + 4) bo 0 own.length _ ssf (sso.belowAll hbw) (fun h => by cases h) (by omega) (by omega) hA hO).mono ?_
    rintro e w4 ⟨v, rfl, htags⟩
    obtain ⟨tl, hT⟩ := tail_exists A own
    obtain ⟨b', off', cap', rfl, hcap, hcap2, ssr, hsame, hbel4⟩ := tags_form htags hT.eq
    have hrow4 := hrow.of_block (hbel4.block _ hrow.lt)
    have hrf : ∀ j, j < A.length + 4 → w4.cell? ⟨w2.heap.size, j, none⟩ = some (full2 A (A.length + 4) j) := fun j hj => hrow4.cell hj
    have bel2 := hbw.trans (hbel4.mono hbw.size)
    have ssa4 := ssa2.belowAll bel2
    have sso4 := sso.belowAll bel2
    have belE := bel.trans (bel2.mono bel.size)
    have hTl : tl.length ≤ 1024 := by have := carry_len A own; rw [hT.eq, List.length_append] at this; omega
    clear htags hrow hrow4 hbw hbel4 ssf bel2 bel ssa2 sso
    have HRF : Hid (∀ j, j < A.length + 4 → w4.cell? ⟨w2.heap.size, j, none⟩ = some (full2 A (A.length + 4) j)) := hrf
    clear hrf
    go_wp2_with fail
    -- loop 3: 'full' still begins with above
    go_loopw [12] (fun i wr => ∃ k n : Nat, k ≤ A.length ∧ i = .int .i64 k ∧ wr = w4.drewN n) (fun i _ => A.length - (intOf i).toNat)
    case atStart => exact ⟨0, 0, Nat.zero_le _, rfl, rfl⟩
    case round =>
    obtain ⟨k, n, hk, rfl, rfl⟩ := hrel
    by_cases hlt : k < A.length
    case pos =>
      have hc := ssa4.cell k hlt
      simp only [Nat.zero_add] at hc
      have ha := ssa4.addr (by omega)
      subst ha
      have ho := HRF.out k (by omega)
      rw [full2, if_pos hlt] at ho
      have hi1 : (k : Int) < (A.length : Int) := by omega
      have hi2 : (k : Int) < (A.length : Int) + 4 := by omega
      go_wp2_with fail
      go_quiet (fail)
      go_wp2_with fail
      go_roundw
      case rel => exact ⟨k + 1, _, by omega, by go_num, rfl⟩
      case measure => simp [intOf]; omega
    obtain rfl : k = A.length := by omega
    clear hlt hk
    go_wp2_with fail
    -- loop 4: the room behind it is untouched
    go_loopw [13] (fun i wr => ∃ (x : Int) (n : Nat), (A.length : Int) ≤ x ∧ x ≤ (A.length : Int) + 4 ∧ i = .int .i64 x ∧ wr = w4.drewN n) (fun i _ => A.length + 4 - (intOf i).toNat)
    case atStart => exact ⟨A.length, _, Int.le_refl _, by omega, rfl, rfl⟩
    case round =>
    obtain ⟨x, n, hk1, hk2, rfl, rfl⟩ := hrel
    by_cases hlt : x < (A.length : Int) + 4
    case pos =>
      have ho := HRF.out x.toNat (by omega)
      rw [full2, if_neg (by omega), if_pos (by omega)] at ho
      have hi0 : 0 ≤ x := by omega
      go_wp2_with fail
      go_roundw
      case rel => exact ⟨x + 1, _, by omega, by omega, rfl, rfl⟩
      case measure => simp [intOf]; omega
    obtain rfl : x = (A.length : Int) + 4 := by omega
    clear hlt hk1 hk2
    go_wp2_with fail
    -- loop 5: the result begins with above
    go_loopw [14] (fun i wr => ∃ k n : Nat, k ≤ A.length ∧ i = .int .i64 k ∧ wr = w4.drewN n) (fun i _ => A.length - (intOf i).toNat)
    case atStart => exact ⟨0, _, Nat.zero_le _, rfl, rfl⟩
    case round =>
    obtain ⟨k, n, hk, rfl, rfl⟩ := hrel
    by_cases hlt : k < A.length
    case pos =>
      have hc := ssa4.cell k hlt
      simp only [Nat.zero_add] at hc
      have ha := ssa4.addr (by omega)
      subst ha
      have ho := ssr.cell k (by simp; omega)
      rw [getD_left A tl k hlt] at ho
      have hi1 : (k : Int) < (A.length : Int) := by omega
      have hi2 : (k : Int) < (A.length : Int) + (tl.length : Int) := by omega
      go_wp2_with fail
      go_quiet (fail)
      go_wp2_with fail
      go_roundw
      case rel => exact ⟨k + 1, _, by omega, by go_num, rfl⟩
      case measure => simp [intOf]; omega
    obtain rfl : k = A.length := by omega
    clear hlt hk
    have sst := ss_tail ssr
    have hne : ¬ cap' = A.length := by omega
    go_wp2_with fail
    -- loop 6: each of the tail's tags is new, and of own, in own's order
    go_loopw [16] (fun i wr => ∃ k n : Nat, k ≤ tl.length ∧ i = .int .i64 k ∧ wr = w4.drewN n) (fun i _ => tl.length - (intOf i).toNat)
    case atStart => exact ⟨0, _, Nat.zero_le _, rfl, rfl⟩
    case round =>
    obtain ⟨k, n, hk, rfl, rfl⟩ := hrel
    by_cases hlt : k < tl.length
    case pos =>
      have hc := sst.cell k hlt
      rw [getD_of_lt tl k hlt] at hc
      have f1 : idx A tl[k] < 0 := (idx_neg_iff _ _).2 (hT.notA k hlt)
      have f2 : idx (tl.take k) tl[k] < 0 := (idx_neg_iff _ _).2 (hT.first k hlt)
      have f3 : 0 ≤ idx own tl[k] := Int.not_lt.1 (fun h => (idx_neg_iff _ _).1 h (hT.inOwn k hlt))
      have hi1 : (k : Int) < (tl.length : Int) := by omega
      have hi2 : (k : Int) ≤ (tl.length : Int) := by omega
      have hi3 : (k : Int) ≤ ((cap' - A.length : Nat) : Int) := by omega
      go_wp2_with fail
      refine (indexOf_n A tl[k] ata ba 0 A.length A.length _ (ssa4.drewN _) rfl (by omega)).mono ?_
      rintro e w' ⟨rfl, hw⟩
      obtain rfl := hw.symm
      go_wp2_with fail
      go_quiet ((go_at_call 39; (exact quiet_more (indexOf_n (tl.take k) tl[k] _ b' (off' + A.length) k _ _ ((sst.take k).drewN _) (by simp; omega) (by omega)))))
      go_wp2_with fail
      refine (indexOf_n own tl[k] ato bo 0 own.length own.length _ (sso4.drewN _) rfl (by omega)).mono ?_
      rintro e w' ⟨rfl, hw⟩
      obtain rfl := hw.symm
      go_wp2_with fail
      by_cases h0 : 0 < k
      case neg =>
        have hd : decide ((0 : Int) < (k : Int)) = false := decide_eq_false (by omega)
        have hd' : decide (0 < k) = false := decide_eq_false (by omega)
        clear h0
        go_quiet (fail)
        go_wp2_with fail
        go_roundw
        case rel => exact ⟨k + 1, _, by omega, by go_num, rfl⟩
        case measure => simp [intOf]; omega
      obtain ⟨p, hp⟩ : ∃ p, k = p + 1 := ⟨k - 1, by omega⟩
      have hpl : p < tl.length := by omega
      have f4 : idx own tl[p] < idx own tl[k] := by subst hp; exact hT.order p hlt
      have hc2 := sst.cell p hpl
      rw [getD_of_lt tl p hpl] at hc2
      have hd : decide ((0 : Int) < (k : Int)) = true := decide_eq_true (by omega)
      have hd' : decide (0 < k) = true := decide_eq_true (by omega)
      have hi5 : (p : Int) < (tl.length : Int) := by omega
      have hwr : IntKind.i64.wrap ((k : Int) - 1) = (p : Int) := by rw [wrapEq, IntWalk.wrap64_in _ ⟨by omega, by omega⟩]; omega
      clear hp
      go_quiet ((go_at_call 39; exact quiet_more (indexOf_n own _ ato bo 0 own.length own.length _ (sso4.drewN _) rfl (by omega))))
      go_wp2_with fail
      go_roundw
      case rel => exact ⟨k + 1, _, by omega, by go_num, rfl⟩
      case measure => simp [intOf]; omega
    obtain rfl : k = tl.length := by omega
    clear hlt hk
    go_wp2_with fail
    -- loop 7: every tag of own is there
    go_loopw [17] (fun i wr => ∃ k n : Nat, k ≤ own.length ∧ i = .int .i64 k ∧ wr = w4.drewN n) (fun i _ => own.length - (intOf i).toNat)
    case atStart => exact ⟨0, _, Nat.zero_le _, rfl, rfl⟩
    case round =>
    obtain ⟨k, n, hk, rfl, rfl⟩ := hrel
    by_cases hlt : k < own.length
    case pos =>
      have hc := sso4.cell k hlt
      simp only [Nat.zero_add] at hc
      rw [getD_of_lt own k hlt] at hc
      have ha := sso4.addr (by omega)
      subst ha
      have f1 : 0 ≤ idx (A ++ tl) own[k] := Int.not_lt.1 (fun h => (idx_neg_iff _ _).1 h (hT.all _ (List.getElem_mem hlt)))
      go_wp2_with fail
      refine (indexOf_n (A ++ tl) own[k] _ b' off' (A.length + tl.length) cap' _ (ssr.drewN _) List.length_append (by omega)).mono ?_
      rintro e w' ⟨rfl, hw⟩
      obtain rfl := hw.symm
      go_wp2_with fail
      go_roundw
      case rel => exact ⟨k + 1, _, by omega, by go_num, rfl⟩
      case measure => simp [intOf]; omega
    obtain rfl : k = own.length := by omega
    clear hlt hk
    by_cases htl : tl.length = 0
    · -- nothing was added
      have hz : ((tl.length : Int) == 0) = true := by simp [htl]
      obtain ⟨rfl, rfl⟩ := hsame.out htl
      clear hsame
      by_cases hAp : 0 < A.length
      · have hd : decide ((0 : Int) < (A.length : Int)) = true := decide_eq_true (by omega)
        have hd' : decide (0 < A.length) = true := decide_eq_true (by omega)
        have hi1 : (0 : Int) < (A.length : Int) + (tl.length : Int) := by omega
        have hi2 : (0 : Int) < (A.length : Int) := by omega
        have hnb : nb = false := by
          cases nb with
          | false => rfl
          | true => have := HNB.out rfl; rw [this] at hAp; simp at hAp
        subst hnb
        clear htl
        have q2 := neqSelf
        go_wp2_with fail
        go_quiet (fail)
        go_wp2_with fail
        go_ret
        exact ⟨rfl, bel_drewN (bel_drewN belE _) _⟩
      · have hd : decide ((0 : Int) < (A.length : Int)) = false := decide_eq_false (by omega)
        have hd' : decide (0 < A.length) = false := decide_eq_false (by omega)
        have hA0 : A = [] := List.eq_nil_of_length_eq_zero (by omega)
        have htl0 : tl = [] := List.eq_nil_of_length_eq_zero htl
        have HE : Hid (carry [] own = []) := by
          have := hT.eq
          rw [hA0, htl0] at this
          exact this
        clear htl hA0 htl0
        go_wp2_with fail
        go_quiet (fail)
        cases nb with
        | false =>
          go_wp2_with fail
          go_ret
          exact ⟨rfl, bel_drewN (bel_drewN belE _) _⟩
        | true =>
          go_wp2_with fail
          refine (carry_any [] own none ato 0 0 0 bo 0 own.length _ ⟨fun h => by simp at h, fun i hi => by simp at hi⟩ (sso4.drewN _) (fun _ => ⟨rfl, rfl⟩) (by simp) (by omega) (by simp) hO).mono ?_
          rintro e w5 ⟨v, rfl, htags⟩
          rw [HE.out] at htags
          obtain ⟨at', bx, ox, cx, rfl, _, _, _, _, hsm, hbel5⟩ := htags
          obtain ⟨rfl, rfl⟩ := hsm.out rfl
          have q3 := neqNil
          go_wp2_with fail
          go_ret
          exact ⟨rfl, (bel_drewN belE _).trans (hbel5.mono (by have := belE.size; simpa using this))⟩
    · -- something was added
      have hz : ((tl.length : Int) == 0) = false := by simp [htl]
      cases nb with
      | false =>
        go_wp2_with fail
        go_ret
        exact ⟨rfl, bel_drewN belE _⟩
      | true =>
        have HE : Hid (carry [] own = tl) := by
          have h1 := hT.eq
          rw [HNB.out rfl] at h1
          exact h1
        go_wp2_with fail
        refine (carry_any [] own none ato 0 0 0 bo 0 own.length _ ⟨fun h => by simp at h, fun i hi => by simp at hi⟩ (sso4.drewN _) (fun _ => ⟨rfl, rfl⟩) (by simp) (by omega) (by simp) hO).mono ?_
        rintro e w5 ⟨v, rfl, htags⟩
        rw [HE.out] at htags
        obtain ⟨at', bx, ox, cx, rfl, ssx, _, _, _, _, hbel5⟩ := htags
        have sst5 := (sst.drewN n).belowAll hbel5
        go_wp2_with fail
        refine (sameStrs_any tl tl at' _ bx ox cx b' (off' + A.length) (cap' - A.length) _ ssx sst5 (by omega) rfl).mono ?_
        rintro e w6 ⟨rfl, m, hw⟩
        rw [hw]
        go_wp2_with fail
        go_ret
        exact ⟨rfl, bel_drewN ((bel_drewN belE _).trans (hbel5.mono (by have := belE.size; simpa using this))) _⟩

end Car
end Go.Proofs.Qxb6001673a
