/- Contracts of the functions over []string that FnCarrySpec comes to. -/
import Derived.Test.Qxb6001673aRows
import Derived.Test.Qxb6001673aCarPlain
import Derived.WalkKit
import Derived.ProofKit
import Derived.WalkLawsBesides
import Derived.WalkSpells
import Derived.Lib.SlicesS
import Derived.Deep.OwnRows
import Derived.Deep.QuietTactic
import Derived.BigQuiet
namespace Go.Proofs.Qxb6001673a
open Go.ChangeShapes Go.WideShapes Go.ChangeAt Go.RowKit
set_option linter.unusedVariables false
set_option linter.unusedSimpArgs false

/-- The strings ss lie in w from ⟨b, off⟩ on, where the address at0 leads (of an empty slice nothing is known). -/
structure SS (w : World) (at0 : Option Addr) (b off : Nat) (ss : List ByteArray) : Prop where
  addr : 0 < ss.length → at0 = some ⟨b, off, none⟩
  cell : ∀ i, i < ss.length → w.cell? ⟨b, off + i, none⟩ = some (.string (ss.getD i ByteArray.empty))

theorem SS.below {B : Nat} {w w' : World} {at0 : Option Addr} {b off : Nat} {ss : List ByteArray} (h : SS w at0 b off ss) (hb : Below B w w') (hlt : 0 < ss.length → b < B) : SS w' at0 b off ss :=
  ⟨h.addr, fun i hi => (hb.cell (p := ⟨b, off + i, none⟩) (hlt (by omega))).trans (h.cell i hi)⟩

theorem SS.lt {w : World} {at0 : Option Addr} {b off : Nat} {ss : List ByteArray} (h : SS w at0 b off ss) (h0 : 0 < ss.length) : b < w.heap.size :=
  World.block_lt_of_cell? w _ (h.cell 0 h0)

theorem SS.belowAll {w w' : World} {at0 : Option Addr} {b off : Nat} {ss : List ByteArray} (h : SS w at0 b off ss) (hb : Below w.heap.size w w') : SS w' at0 b off ss := h.below hb h.lt

theorem SS.drewN {w : World} {at0 : Option Addr} {b off : Nat} {ss : List ByteArray} (h : SS w at0 b off ss) (n : Nat) : SS (w.drewN n) at0 b off ss := ⟨h.addr, h.cell⟩

theorem SS.take {w : World} {at0 : Option Addr} {b off : Nat} {ss : List ByteArray} (h : SS w at0 b off ss) (k : Nat) : SS w at0 b off (ss.take k) := by
  refine ⟨fun h0 => h.addr (by simp at h0; omega), fun i hi => ?_⟩
  simp at hi
  rw [h.cell i (by omega)]
  have h1 : i < ss.length := by omega
  simp [List.getD, hi, h1]

theorem ret_int {k : IntKind} {a b : Int} (h : a = b) : Ending.returned (.int k a) = .returned (.int k b) := by rw [h]
theorem ret_bool {a b : Bool} (h : a = b) : Ending.returned (.bool a) = .returned (.bool b) := by rw [h]

namespace Car

theorem getD_of_lt (ss : List ByteArray) (k : Nat) (h : k < ss.length) : ss.getD k ByteArray.empty = ss[k] := by simp [List.getD, h]

set_option maxHeartbeats 400000 in
theorem indexOf_any (ss : List ByteArray) (s : ByteArray) (at0 : Option Addr) (b off cap : Nat) (w : World) (h : SS w at0 b off ss) (hl : ss.length ≤ 1000000000) :
    Calls Try.prog 39 #[.slice at0 ss.length cap, .string s] w fun e w' => e = .returned (.int .i64 (idx ss s)) ∧ w' = w := by
  go_enter Try.func39, Try.ntmps39
  go_wp2
  go_loop [5] (fun i => ∃ k : Nat, k ≤ ss.length ∧ i = .int .i64 k ∧ Hid (∀ j, j < k → ss.getD j ByteArray.empty ≠ s)) (fun i => ss.length - (intOf i).toNat)
  case atStart => exact ⟨0, Nat.zero_le _, rfl, fun j hj => absurd hj (Nat.not_lt_zero _)⟩
  case round =>
    obtain ⟨k, hk, rfl, hne⟩ := hrel
    by_cases hlt : k < ss.length
    · have hc := h.cell k hlt
      have ha := h.addr (by omega)
      subst ha
      go_wp2
      · rename_i heq _
        have he : ss.getD k ByteArray.empty = s := by rw [getD_of_lt _ _ hlt]; exact (Lib.bytes_beq_iff _ _).1 heq
        go_ret
        exact ⟨ret_int (idx_hit s ss k hlt he hne.out).symm, rfl⟩
      · have heq : (ss[k].toList == s.toList) = false := by assumption
        have he : ss.getD k ByteArray.empty ≠ s := by rw [getD_of_lt _ _ hlt]; exact (Lib.bytes_beq_false_iff _ _).1 heq
        go_round
        case rel =>
          refine ⟨k + 1, by omega, by go_num, fun j hj => ?_⟩
          by_cases e : j = k
          · rw [e]; exact he
          · exact hne.out j (by omega)
        case measure => simp [intOf]; omega
    · go_wp2
      go_ret
      exact ⟨ret_int (idx_miss ss s (fun j hj => hne.out j (by omega))).symm, rfl⟩

set_option maxHeartbeats 400000 in
theorem index_any (ss : List ByteArray) (s : ByteArray) (at0 : Option Addr) (b off cap : Nat) (w : World) (h : SS w at0 b off ss) (hl : ss.length ≤ 1000000000) :
    Calls Try.prog 68 #[.slice at0 ss.length cap, .string s] w fun e w' => e = .returned (.int .i64 (idx ss s)) ∧ w' = w := by
  go_enter Try.func68, Try.ntmps68
  go_wp2
  go_loop [5, 8] (fun _ i => ∃ k : Nat, k ≤ ss.length ∧ i = .int .i64 k ∧ Hid (∀ j, j < k → ss.getD j ByteArray.empty ≠ s)) (fun _ i => ss.length - (intOf i).toNat)
  case atStart => exact ⟨0, Nat.zero_le _, rfl, fun j hj => absurd hj (Nat.not_lt_zero _)⟩
  case round =>
    obtain ⟨k, hk, rfl, hne⟩ := hrel
    by_cases hlt : k < ss.length
    · have hc := h.cell k hlt
      have ha := h.addr (by omega)
      subst ha
      go_wp2
      · have heq : (s.toList == ss[k].toList) = true := by assumption
        have he : ss.getD k ByteArray.empty = s := by rw [getD_of_lt _ _ hlt]; exact ((Lib.bytes_beq_iff _ _).1 heq).symm
        go_ret
        exact ⟨ret_int (idx_hit s ss k hlt he hne.out).symm, rfl⟩
      · have heq : (s.toList == ss[k].toList) = false := by assumption
        have he : ss.getD k ByteArray.empty ≠ s := by rw [getD_of_lt _ _ hlt]; exact ((Lib.bytes_beq_false_iff _ _).1 heq).symm
        go_round
        case rel =>
          refine ⟨k + 1, by omega, by go_num, fun j hj => ?_⟩
          by_cases e : j = k
          · rw [e]; exact he
          · exact hne.out j (by omega)
        case measure => simp [intOf]; omega
    · go_wp2
      go_ret
      exact ⟨ret_int (idx_miss ss s (fun j hj => hne.out j (by omega))).symm, rfl⟩

set_option maxHeartbeats 400000 in
theorem contains_any (ss : List ByteArray) (s : ByteArray) (at0 : Option Addr) (b off cap : Nat) (w : World) (h : SS w at0 b off ss) (hl : ss.length ≤ 1000000000) :
    Calls Try.prog 59 #[.slice at0 ss.length cap, .string s] w fun e w' => e = .returned (.bool (decide (0 ≤ idx ss s))) ∧ w' = w := by
  go_enter Try.func59, Try.ntmps59
  go_wp2_with (go_at_call 68; refine (index_any ss s at0 b off cap _ h hl).mono ?_; rintro e w' ⟨rfl, rfl⟩)
  go_ret
  exact ⟨rfl, rfl⟩

set_option maxHeartbeats 400000 in
theorem clip_any (at0 : Option Addr) (n cap : Nat) (hn : n ≤ cap) (h0 : at0 = none → cap = 0) (hc : cap ≤ maxLen) (w : World) :
    Calls Try.prog 60 #[.slice at0 n cap] w fun e w' => e = .returned (.slice at0 n n) ∧ w' = w := by
  unfold maxLen at hc
  go_enter Try.func60, Try.ntmps60
  go_wp2
  go_ret
  exact ⟨rfl, rfl⟩

set_option maxHeartbeats 400000 in
theorem strsBytes_any (ss : List ByteArray) (at0 : Option Addr) (b off cap : Nat) (w : World) (h : SS w at0 b off ss) (hl : ss.length ≤ 1024) (hs : ∀ s ∈ ss, s.size ≤ 1048576) :
    Calls Try.prog 36 #[.slice at0 ss.length cap] w fun e w' => e = .returned (.int .i64 (tot ss)) ∧ w' = w := by
  have hb : ∀ k, 0 ≤ tot (ss.take k) ∧ tot (ss.take k) ≤ 1100000000 := by
    intro k
    have h1 := tot_bd 1048576 (ss.take k) (fun s hm => hs s (List.mem_of_mem_take hm))
    have h2 : (ss.take k).length ≤ 1024 := by simp; omega
    have h3 : ((ss.take k).length : Int) * (16 + (1048576 : Nat)) ≤ 1024 * (16 + (1048576 : Nat)) := Int.mul_le_mul_of_nonneg_right (by omega) (by omega)
    omega
  have HB : Hid (∀ k, 0 ≤ tot (ss.take k) ∧ tot (ss.take k) ≤ 1100000000) := hb
  have HS : Hid (∀ s ∈ ss, s.size ≤ 1048576) := hs
  clear hb hs
  go_enter Try.func36, Try.ntmps36
  go_wp2
  go_loop [3, 4] (fun n i => ∃ k : Nat, k ≤ ss.length ∧ i = .int .i64 k ∧ n = .int .i64 (tot (ss.take k))) (fun _ i => ss.length - (intOf i).toNat)
  case atStart => exact ⟨0, Nat.zero_le _, rfl, rfl⟩
  case round =>
    obtain ⟨k, hk, rfl, rfl⟩ := hrel
    obtain ⟨hb1, hb2⟩ := HB.out k
    by_cases hlt : k < ss.length
    · have hc := h.cell k hlt
      have ha := h.addr (by omega)
      subst ha
      have hz : ss[k].size ≤ 1048576 := HS.out _ (List.getElem_mem hlt)
      have HT : Hid (tot (ss.take (k + 1)) = tot (ss.take k) + (16 + ss[k].size)) := by rw [take_snoc ss k hlt]; exact tot_snoc _ _
      go_wp2
      go_round
      case rel => exact ⟨k + 1, by omega, by go_num, by rw [HT.out]⟩
      case measure => simp [intOf]; omega
    · go_wp2
      go_ret
      exact ⟨ret_int (by rw [List.take_of_length_le (by omega)]), rfl⟩

set_option maxHeartbeats 400000 in
theorem sameStrs_any (xs ys : List ByteArray) (at0 at1 : Option Addr) (b0 o0 c0 b1 o1 c1 : Nat) (w : World) (h0 : SS w at0 b0 o0 xs) (h1 : SS w at1 b1 o1 ys) (hl : xs.length ≤ 1000000000) (hE : Hid (xs = ys)) :
    Calls Try.prog 40 #[.slice at0 xs.length c0, .slice at1 ys.length c1] w fun e w' => e = .returned (.bool true) ∧ ∃ n, w' = w.drewN n := by
  have hle : ys.length = xs.length := by rw [hE.out]
  have h1' : SS w at1 b1 o1 xs := by rw [hE.out]; exact h1
  rw [hle]
  clear h1 hle hE
  go_enter Try.func40, Try.ntmps40
  go_wp2
  go_loopw [5] (fun i wr => ∃ k : Nat, k ≤ xs.length ∧ i = .int .i64 k ∧ ∃ n, wr = w.drewN n) (fun i _ => xs.length - (intOf i).toNat)
  case atStart => exact ⟨0, Nat.zero_le _, rfl, 0, rfl⟩
  case round =>
    obtain ⟨k, hk, rfl, n, rfl⟩ := hrel
    by_cases hlt : k < xs.length
    · have hc0 := h0.cell k hlt
      have hc1 := h1'.cell k hlt
      have ha0 := h0.addr (by omega)
      have ha1 := h1'.addr (by omega)
      subst ha0
      subst ha1
      have hi : (k : Int) < (xs.length : Int) := by omega
      go_wp2
      go_quiet (fail)
      go_wp2
      go_roundw
      case rel => exact ⟨k + 1, by omega, by go_num, _, rfl⟩
      case measure => simp [intOf]; omega
    · go_wp2
      go_ret
      exact ⟨rfl, _, rfl⟩

theorem nil31 : ∀ (w : World) (a : Option Addr) (n c n' c' : Nat), (binOp .eql 31 (.slice a n c) (.slice none n' c')).run Try.prog w = .ok (.bool a.isNone) w := fun w a n c n' c' => Lib.run_eql_slice_nil w _ _ a n c n' c' Try.underlying31
theorem info9 : (Try.prog.info? 9).map (fun i => (i.zero, i.size, i.bytes)) = some (some (.string ByteArray.empty), 1, 16) := by kernel_rfl

set_option maxHeartbeats 400000 in
theorem cloneStrs_nil (w : World) : Calls Try.prog 37 #[.slice none 0 0] w fun e w' => e = .returned (.slice none 0 0) ∧ w' = w := by
  have q := nil31
  go_enter Try.func37, Try.ntmps37
  go_wp2
  go_ret
  exact ⟨rfl, rfl⟩

set_option maxHeartbeats 400000 in
theorem cloneStrs_any (ss : List ByteArray) (a : Addr) (b off cap : Nat) (w : World) (h : SS w (some a) b off ss) (hl : ss.length ≤ 1048576) :
    Calls Try.prog 37 #[.slice (some a) ss.length cap] w fun e w' => e = .returned (.slice (some ⟨w.heap.size, 0, none⟩) ss.length ss.length) ∧ SS w' (some ⟨w.heap.size, 0, none⟩) w.heap.size 0 ss ∧ Below w.heap.size w w' ∧ w.heap.size < w'.heap.size := by
  have q := nil31
  have hmk := run_make_row' (P := Try.prog) 31 9 (.string ByteArray.empty) 16 Try.underlying31 info9 rfl .i64 .i64 ss.length (by omega) (by omega)
  go_enter Try.func37, Try.ntmps37
  go_wp2
  go_loopw [4] (fun i wr => ∃ k : Nat, k ≤ ss.length ∧ i = .int .i64 k ∧ wr.rowIs w.heap.size 9 ss.length (fun j => if j < k then .string (ss.getD j ByteArray.empty) else .string ByteArray.empty) ∧ Below w.heap.size w wr) (fun i _ => ss.length - (intOf i).toNat)
  case atStart => exact ⟨0, Nat.zero_le _, rfl, (World.rowIs_made _ _ _ _).congr (fun i _ => by simp), (Below.refl _ _).alloc (Nat.le_refl _) _⟩
  case round =>
    obtain ⟨k, hk, rfl, hrow, hbel⟩ := hrel
    have hsz := hrow.lt
    by_cases hlt : k < ss.length
    · have hc := (h.belowAll hbel).cell k hlt
      have ha := h.addr (by omega)
      have ho := hrow.cell hlt
      have hf := hrow.frozen k
      simp only [Option.some.injEq] at ha
      subst ha
      simp only [Nat.lt_irrefl, if_false] at ho
      have R : Hid ((wr.setCell ⟨w.heap.size, k, none⟩ (.string (ss.getD k ByteArray.empty))).rowIs w.heap.size 9 ss.length (fun j => if j < k + 1 then .string (ss.getD j ByteArray.empty) else .string ByteArray.empty)) :=
        (hrow.set k _).congr (fun i _ => by
          by_cases e : i = k
          · subst e; simp
          · have e2 : i < k + 1 ↔ i < k := by omega
            simp only [e, if_false, e2])
      have R2 : Hid (Below w.heap.size w (wr.setCell ⟨w.heap.size, k, none⟩ (.string (ss.getD k ByteArray.empty)))) := hbel.setCell (Nat.le_refl _) _
      go_wp2
      go_roundw
      case rel => exact ⟨k + 1, by omega, by go_num, by simpa [List.getD, hlt] using R.out, by simpa [List.getD, hlt] using R2.out⟩
      case measure => simp [intOf]; omega
    · go_wp2
      go_ret
      refine ⟨rfl, ⟨fun _ => rfl, fun i hi => ?_⟩, hbel, hsz⟩
      have := hrow.cell hi
      simpa [show i < k by omega] using this

end Car
end Go.Proofs.Qxb6001673a
