/- []string in memory; cloneStrings; the bounds on length. -/
import Derived.Test.Qxb6001700aRows
import Derived.WalkKit
import Derived.ProofKit
import Derived.WalkLawsBesides
import Derived.WalkSpells
import Derived.Lib.SlicesS
import Derived.Deep.OwnRows
import Derived.Deep.QuietTactic
import Derived.BigQuiet
namespace Go.Proofs.Qxb6001700a
open Go.ChangeShapes Go.WideShapes Go.ChangeAt Go.RowKit
set_option linter.unusedVariables false
set_option linter.unusedSimpArgs false
/-- The strings ss lie in w from ⟨b, off⟩ on, where the address at0 leads (of an empty slice nothing is known). -/
structure SS (w : World) (at0 : Option Addr) (b off : Nat) (ss : List ByteArray) : Prop where
  addr : 0 < ss.length → at0 = some ⟨b, off, none⟩
  cell : ∀ i, i < ss.length → w.cell? ⟨b, off + i, none⟩ = some (.string (ss.getD i ByteArray.empty))

theorem SS.below {B : Nat} {w w' : World} {at0 : Option Addr} {b off : Nat} {ss : List ByteArray} (h : SS w at0 b off ss) (hb : Below B w w') (hlt : 0 < ss.length → b < B) : SS w' at0 b off ss :=
  ⟨h.addr, fun i hi => (hb.cell (p := ⟨b, off + i, none⟩) (hlt (by omega))).trans (h.cell i hi)⟩

theorem SS.lt {w : World} {at0 : Option Addr} {b off : Nat} {ss : List ByteArray} (h : SS w at0 b off ss) (h0 : 0 < ss.length) : b < w.heap.size :=
  World.block_lt_of_cell? w _ (h.cell 0 h0)

theorem SS.belowAll {w w' : World} {at0 : Option Addr} {b off : Nat} {ss : List ByteArray} (h : SS w at0 b off ss) (hb : Below w.heap.size w w') : SS w' at0 b off ss := h.below hb h.lt

theorem SS.drewN {w : World} {at0 : Option Addr} {b off : Nat} {ss : List ByteArray} (h : SS w at0 b off ss) (n : Nat) : SS (w.drewN n) at0 b off ss := ⟨h.addr, h.cell⟩

theorem SS.take {w : World} {at0 : Option Addr} {b off : Nat} {ss : List ByteArray} (h : SS w at0 b off ss) (k : Nat) : SS w at0 b off (ss.take k) := by
  refine ⟨fun h0 => h.addr (by simp at h0; omega), fun i hi => ?_⟩
  simp at hi
  rw [h.cell i (by omega)]
  have h1 : i < ss.length := by omega
  simp [List.getD, hi, h1]

theorem ret_int {k : IntKind} {a b : Int} (h : a = b) : Ending.returned (.int k a) = .returned (.int k b) := by rw [h]
theorem ret_bool {a b : Bool} (h : a = b) : Ending.returned (.bool a) = .returned (.bool b) := by rw [h]

namespace EL

theorem getD_of_lt (ss : List ByteArray) (k : Nat) (h : k < ss.length) : ss.getD k ByteArray.empty = ss[k] := by simp [List.getD, h]

theorem nil31 : ∀ (w : World) (a : Option Addr) (n c n' c' : Nat), (binOp .eql 31 (.slice a n c) (.slice none n' c')).run Try.prog w = .ok (.bool a.isNone) w := fun w a n c n' c' => Lib.run_eql_slice_nil w _ _ a n c n' c' Try.underlying31
theorem info9 : (Try.prog.info? 9).map (fun i => (i.zero, i.size, i.bytes)) = some (some (.string ByteArray.empty), 1, 16) := by kernel_rfl

set_option maxHeartbeats 400000 in
theorem cloneStrs_nil (w : World) : Calls Try.prog 21 #[.slice none 0 0] w fun e w' => e = .returned (.slice none 0 0) ∧ w' = w := by
  have q := nil31
  go_enter Try.func21, Try.ntmps21
  go_wp2
  go_ret
  exact ⟨rfl, rfl⟩

set_option maxHeartbeats 400000 in
theorem cloneStrs_any (ss : List ByteArray) (a : Addr) (b off cap : Nat) (w : World) (h : SS w (some a) b off ss) (hl : ss.length ≤ 1048576) :
    Calls Try.prog 21 #[.slice (some a) ss.length cap] w fun e w' => e = .returned (.slice (some ⟨w.heap.size, 0, none⟩) ss.length ss.length) ∧ SS w' (some ⟨w.heap.size, 0, none⟩) w.heap.size 0 ss ∧ Below w.heap.size w w' ∧ w.heap.size < w'.heap.size := by
  have q := nil31
  have hmk := run_make_row' (P := Try.prog) 31 9 (.string ByteArray.empty) 16 Try.underlying31 info9 rfl .i64 .i64 ss.length (by omega) (by omega)
  go_enter Try.func21, Try.ntmps21
  go_wp2
  go_loopw [4] (fun i wr => ∃ k : Nat, k ≤ ss.length ∧ i = .int .i64 k ∧ wr.rowIs w.heap.size 9 ss.length (fun j => if j < k then .string (ss.getD j ByteArray.empty) else .string ByteArray.empty) ∧ Below w.heap.size w wr) (fun i _ => ss.length - (intOf i).toNat)
  case atStart => exact ⟨0, Nat.zero_le _, rfl, (World.rowIs_made _ _ _ _).congr (fun i _ => by simp), (Below.refl _ _).alloc (Nat.le_refl _) _⟩
  case round =>
    obtain ⟨k, hk, rfl, hrow, hbel⟩ := hrel
    have hsz := hrow.lt
    by_cases hlt : k < ss.length
    · have hc := (h.belowAll hbel).cell k hlt
      have ha := h.addr (by omega)
      have ho := hrow.cell hlt
      have hf := hrow.frozen k
      simp only [Option.some.injEq] at ha
      subst ha
      simp only [Nat.lt_irrefl, if_false] at ho
      have R : Hid ((wr.setCell ⟨w.heap.size, k, none⟩ (.string (ss.getD k ByteArray.empty))).rowIs w.heap.size 9 ss.length (fun j => if j < k + 1 then .string (ss.getD j ByteArray.empty) else .string ByteArray.empty)) :=
        (hrow.set k _).congr (fun i _ => by
          by_cases e : i = k
          · subst e; simp
          · have e2 : i < k + 1 ↔ i < k := by omega
            simp only [e, if_false, e2])
      have R2 : Hid (Below w.heap.size w (wr.setCell ⟨w.heap.size, k, none⟩ (.string (ss.getD k ByteArray.empty)))) := hbel.setCell (Nat.le_refl _) _
      go_wp2
      go_roundw
      case rel => exact ⟨k + 1, by omega, by go_num, by simpa [List.getD, hlt] using R.out, by simpa [List.getD, hlt] using R2.out⟩
      case measure => simp [intOf]; omega
    · go_wp2
      go_ret
      refine ⟨rfl, ⟨fun _ => rfl, fun i hi => ?_⟩, hbel, hsz⟩
      have := hrow.cell hi
      simpa [show i < k by omega] using this


theorem small_of (ss : List ByteArray) (h : ∀ j, j < ss.length → (ss.getD j ByteArray.empty).size ≤ 1048576) : ∀ s ∈ ss, s.size ≤ 1048576 := by
  intro s hs
  obtain ⟨i, hi, rfl⟩ := List.getElem_of_mem hs
  have := h i hi
  rwa [getD_of_lt ss i hi] at this

/-- It answers some Bool, in the same world; true says P. -/
def Says (P : Prop) (w : World) (e : Ending) (w' : World) : Prop := ∃ r : Bool, e = .returned (.bool r) ∧ w' = w ∧ (r = true → P)

set_option maxHeartbeats 1000000 in
theorem zzBytes31 (xs : List ByteArray) (at0 : Option Addr) (b0 o0 c0 : Nat) (w : World) (h0 : SS w at0 b0 o0 xs) (hl0 : xs.length ≤ 9223372036854775807) :
    Calls Try.prog 31 #[.slice at0 xs.length c0] w (Says (∀ s ∈ xs, s.size ≤ 1048576) w) := by
  by_cases hx : xs.length ≤ 1048576
  · go_enter Try.func31, Try.ntmps31
    go_wp2
    go_loop [3, 4] (fun z i => ∃ k n : Nat, k ≤ xs.length ∧ i = .int .i64 k ∧ z = .int .i64 n ∧ n ≤ 1048576 ∧ Hid (∀ j, j < k → (xs.getD j ByteArray.empty).size ≤ 1048576)) (fun _ i => xs.length - (intOf i).toNat)
    case atStart => exact ⟨0, xs.length, Nat.zero_le _, rfl, rfl, hx, fun j hj => absurd hj (Nat.not_lt_zero _)⟩
    case round =>
      obtain ⟨k, n, hk, rfl, rfl, hn, hj⟩ := hrel
      by_cases hlt : k < xs.length
      · have hc := h0.cell k hlt
        have ha := h0.addr (by omega)
        subst ha
        by_cases hz : xs[k].size ≤ 1048576
        · by_cases hn2 : n + xs[k].size ≤ 1048576
          · go_wp2
            go_round
            case rel =>
              refine ⟨k + 1, n + xs[k].size, by omega, by go_num, by go_num, hn2, fun j hj2 => ?_⟩
              by_cases e : j = k
              · rw [e, getD_of_lt _ _ hlt]; exact hz
              · exact hj.out j (by omega)
            case measure => simp [intOf]; omega
          · go_wp2
            go_ret
            exact ⟨false, rfl, rfl, by simp⟩
        · go_wp2
          go_ret
          exact ⟨false, rfl, rfl, by simp⟩
      · go_wp2
        go_ret
        exact ⟨true, rfl, rfl, fun _ => small_of xs (fun j h => hj.out j (by omega))⟩
  · go_enter Try.func31, Try.ntmps31
    go_wp2
    go_ret
    exact ⟨false, rfl, rfl, by simp⟩

set_option maxHeartbeats 1000000 in
theorem zzBytes20 (xs : List ByteArray) (at0 : Option Addr) (b0 o0 c0 : Nat) (w : World) (h0 : SS w at0 b0 o0 xs) (hl0 : xs.length ≤ 9223372036854775807) :
    Calls Try.prog 20 #[.slice at0 xs.length c0] w (Says (∀ s ∈ xs, s.size ≤ 1048576) w) := by
  by_cases hx : xs.length ≤ 1048576
  · go_enter Try.func20, Try.ntmps20
    go_wp2
    go_loop [3, 4] (fun z i => ∃ k n : Nat, k ≤ xs.length ∧ i = .int .i64 k ∧ z = .int .i64 n ∧ n ≤ 1048576 ∧ Hid (∀ j, j < k → (xs.getD j ByteArray.empty).size ≤ 1048576)) (fun _ i => xs.length - (intOf i).toNat)
    case atStart => exact ⟨0, xs.length, Nat.zero_le _, rfl, rfl, hx, fun j hj => absurd hj (Nat.not_lt_zero _)⟩
    case round =>
      obtain ⟨k, n, hk, rfl, rfl, hn, hj⟩ := hrel
      by_cases hlt : k < xs.length
      · have hc := h0.cell k hlt
        have ha := h0.addr (by omega)
        subst ha
        by_cases hz : xs[k].size ≤ 1048576
        · by_cases hn2 : n + xs[k].size ≤ 1048576
          · go_wp2
            go_round
            case rel =>
              refine ⟨k + 1, n + xs[k].size, by omega, by go_num, by go_num, hn2, fun j hj2 => ?_⟩
              by_cases e : j = k
              · rw [e, getD_of_lt _ _ hlt]; exact hz
              · exact hj.out j (by omega)
            case measure => simp [intOf]; omega
          · go_wp2
            go_ret
            exact ⟨false, rfl, rfl, by simp⟩
        · go_wp2
          go_ret
          exact ⟨false, rfl, rfl, by simp⟩
      · go_wp2
        go_ret
        exact ⟨true, rfl, rfl, fun _ => small_of xs (fun j h => hj.out j (by omega))⟩
  · go_enter Try.func20, Try.ntmps20
    go_wp2
    go_ret
    exact ⟨false, rfl, rfl, by simp⟩

set_option maxHeartbeats 1000000 in
theorem zzBytes33 (xs : List ByteArray) (at0 : Option Addr) (b0 o0 c0 : Nat) (w : World) (h0 : SS w at0 b0 o0 xs) (hl0 : xs.length ≤ 9223372036854775807) :
    Calls Try.prog 33 #[.slice at0 xs.length c0] w (Says (∀ s ∈ xs, s.size ≤ 1048576) w) := by
  by_cases hx : xs.length ≤ 1048576
  · go_enter Try.func33, Try.ntmps33
    go_wp2
    go_loop [3, 4] (fun z i => ∃ k n : Nat, k ≤ xs.length ∧ i = .int .i64 k ∧ z = .int .i64 n ∧ n ≤ 1048576 ∧ Hid (∀ j, j < k → (xs.getD j ByteArray.empty).size ≤ 1048576)) (fun _ i => xs.length - (intOf i).toNat)
    case atStart => exact ⟨0, xs.length, Nat.zero_le _, rfl, rfl, hx, fun j hj => absurd hj (Nat.not_lt_zero _)⟩
    case round =>
      obtain ⟨k, n, hk, rfl, rfl, hn, hj⟩ := hrel
      by_cases hlt : k < xs.length
      · have hc := h0.cell k hlt
        have ha := h0.addr (by omega)
        subst ha
        by_cases hz : xs[k].size ≤ 1048576
        · by_cases hn2 : n + xs[k].size ≤ 1048576
          · go_wp2
            go_round
            case rel =>
              refine ⟨k + 1, n + xs[k].size, by omega, by go_num, by go_num, hn2, fun j hj2 => ?_⟩
              by_cases e : j = k
              · rw [e, getD_of_lt _ _ hlt]; exact hz
              · exact hj.out j (by omega)
            case measure => simp [intOf]; omega
          · go_wp2
            go_ret
            exact ⟨false, rfl, rfl, by simp⟩
        · go_wp2
          go_ret
          exact ⟨false, rfl, rfl, by simp⟩
      · go_wp2
        go_ret
        exact ⟨true, rfl, rfl, fun _ => small_of xs (fun j h => hj.out j (by omega))⟩
  · go_enter Try.func33, Try.ntmps33
    go_wp2
    go_ret
    exact ⟨false, rfl, rfl, by simp⟩
end EL
end Go.Proofs.Qxb6001700a
