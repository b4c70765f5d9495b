/- []int in memory; cloneInts; the bound on length. -/
import Derived.Test.Qxb6001700aStr
namespace Go.Proofs.Qxb6001700a
open Go.ChangeShapes Go.WideShapes Go.ChangeAt Go.RowKit
set_option linter.unusedVariables false
set_option linter.unusedSimpArgs false
namespace EL

/-- The ints ss lie in w from ⟨b, off⟩ on, where the address at0 leads (of an empty slice nothing is known). -/
structure IS (w : World) (at0 : Option Addr) (b off : Nat) (ss : List Int) : Prop where
  addr : 0 < ss.length → at0 = some ⟨b, off, none⟩
  cell : ∀ i, i < ss.length → w.cell? ⟨b, off + i, none⟩ = some (.int .i64 (ss.getD i 0))
theorem IS.below {B : Nat} {w w' : World} {at0 : Option Addr} {b off : Nat} {ss : List Int} (h : IS w at0 b off ss) (hb : Below B w w') (hlt : 0 < ss.length → b < B) : IS w' at0 b off ss :=
  ⟨h.addr, fun i hi => (hb.cell (p := ⟨b, off + i, none⟩) (hlt (by omega))).trans (h.cell i hi)⟩
theorem IS.lt {w : World} {at0 : Option Addr} {b off : Nat} {ss : List Int} (h : IS w at0 b off ss) (h0 : 0 < ss.length) : b < w.heap.size :=
  World.block_lt_of_cell? w _ (h.cell 0 h0)
theorem IS.belowAll {w w' : World} {at0 : Option Addr} {b off : Nat} {ss : List Int} (h : IS w at0 b off ss) (hb : Below w.heap.size w w') : IS w' at0 b off ss := h.below hb h.lt

theorem nil40 : ∀ (w : World) (a : Option Addr) (n c n' c' : Nat), (binOp .eql 40 (.slice a n c) (.slice none n' c')).run Try.prog w = .ok (.bool a.isNone) w := fun w a n c n' c' => Lib.run_eql_slice_nil w _ _ a n c n' c' Try.underlying40
theorem info3 : (Try.prog.info? 3).map (fun i => (i.zero, i.size, i.bytes)) = some (some (.int .i64 0), 1, 8) := by kernel_rfl

set_option maxHeartbeats 400000 in
theorem cloneInts_nil (w : World) : Calls Try.prog 28 #[.slice none 0 0] w fun e w' => e = .returned (.slice none 0 0) ∧ w' = w := by
  have q := nil40
  go_enter Try.func28, Try.ntmps28
  go_wp2
  go_ret
  exact ⟨rfl, rfl⟩

set_option maxHeartbeats 400000 in
theorem cloneInts_any (ss : List Int) (a : Addr) (b off cap : Nat) (w : World) (h : IS w (some a) b off ss) (hl : ss.length ≤ 1048576) :
    Calls Try.prog 28 #[.slice (some a) ss.length cap] w fun e w' => e = .returned (.slice (some ⟨w.heap.size, 0, none⟩) ss.length ss.length) ∧ IS w' (some ⟨w.heap.size, 0, none⟩) w.heap.size 0 ss ∧ Below w.heap.size w w' ∧ w.heap.size < w'.heap.size := by
  have q := nil40
  have hmk := run_make_row' (P := Try.prog) 40 3 (.int .i64 0) 8 Try.underlying40 info3 rfl .i64 .i64 ss.length (by omega) (by omega)
  go_enter Try.func28, Try.ntmps28
  go_wp2
  go_loopw [4] (fun i wr => ∃ k : Nat, k ≤ ss.length ∧ i = .int .i64 k ∧ wr.rowIs w.heap.size 3 ss.length (fun j => if j < k then .int .i64 (ss.getD j 0) else .int .i64 0) ∧ Below w.heap.size w wr) (fun i _ => ss.length - (intOf i).toNat)
  case atStart => exact ⟨0, Nat.zero_le _, rfl, (World.rowIs_made _ _ _ _).congr (fun i _ => by simp), (Below.refl _ _).alloc (Nat.le_refl _) _⟩
  case round =>
    obtain ⟨k, hk, rfl, hrow, hbel⟩ := hrel
    have hsz := hrow.lt
    by_cases hlt : k < ss.length
    · have hc := (h.belowAll hbel).cell k hlt
      have ha := h.addr (by omega)
      have ho := hrow.cell hlt
      have hf := hrow.frozen k
      simp only [Option.some.injEq] at ha
      subst ha
      simp only [Nat.lt_irrefl, if_false] at ho
      have R : Hid ((wr.setCell ⟨w.heap.size, k, none⟩ (.int .i64 (ss.getD k 0))).rowIs w.heap.size 3 ss.length (fun j => if j < k + 1 then .int .i64 (ss.getD j 0) else .int .i64 0)) :=
        (hrow.set k _).congr (fun i _ => by
          by_cases e : i = k
          · subst e; simp
          · have e2 : i < k + 1 ↔ i < k := by omega
            simp only [e, if_false, e2])
      have R2 : Hid (Below w.heap.size w (wr.setCell ⟨w.heap.size, k, none⟩ (.int .i64 (ss.getD k 0)))) := hbel.setCell (Nat.le_refl _) _
      go_wp2
      go_roundw
      case rel => exact ⟨k + 1, by omega, by go_num, by simpa [List.getD, hlt] using R.out, by simpa [List.getD, hlt] using R2.out⟩
      case measure => simp [intOf]; omega
    · go_wp2
      go_ret
      refine ⟨rfl, ⟨fun _ => rfl, fun i hi => ?_⟩, hbel, hsz⟩
      have := hrow.cell hi
      simpa [show i < k by omega] using this



def ClonedI (ss : List Int) (w : World) (e : Ending) (w' : World) : Prop :=
  ∃ (at' : Option Addr) (b' : Nat), e = .returned (.slice at' ss.length ss.length) ∧ IS w' at' b' 0 ss ∧ Below w.heap.size w w'

theorem clone28 (ss : List Int) (at0 : Option Addr) (b off cap : Nat) (w : World) (h : IS w at0 b off ss) (hl : ss.length ≤ 1048576) (hn : Hid (at0 = none → ss.length = 0 ∧ cap = 0)) :
    Calls Try.prog 28 #[.slice at0 ss.length cap] w (ClonedI ss w) := by
  cases at0 with
  | none =>
    obtain ⟨h1, rfl⟩ := hn.out rfl
    rw [h1]
    refine (cloneInts_nil w).mono ?_
    rintro e w' ⟨rfl, rfl⟩
    exact ⟨none, w'.heap.size, by rw [h1], ⟨fun h => by omega, fun i hi => by omega⟩, Below.refl _ _⟩
  | some a =>
    refine (cloneInts_any ss a b off cap w h hl).mono ?_
    rintro e w' ⟨rfl, hs, hb, _⟩
    exact ⟨_, _, rfl, hs, hb⟩

set_option maxHeartbeats 2000000 in
theorem zzBytes27 (xs : List ByteArray) (at0 at1 : Option Addr) (b0 o0 c0 n1 c1 : Nat) (hl1 : n1 ≤ 9223372036854775807) (w : World) (h0 : SS w at0 b0 o0 xs) (hl0 : xs.length ≤ 9223372036854775807) :
    Calls Try.prog 27 #[.slice at0 xs.length c0, .slice at1 n1 c1] w (Says ((∀ s ∈ xs, s.size ≤ 1048576) ∧ n1 ≤ 1048576) w) := by
  by_cases hx : xs.length ≤ 1048576
  · go_enter Try.func27, Try.ntmps27
    go_wp2
    go_loop [5, 6] (fun z i => ∃ k n : Nat, k ≤ xs.length ∧ i = .int .i64 k ∧ z = .int .i64 n ∧ n ≤ 1048576 ∧ Hid (∀ j, j < k → (xs.getD j ByteArray.empty).size ≤ 1048576)) (fun _ i => xs.length - (intOf i).toNat)
    case atStart => exact ⟨0, xs.length, Nat.zero_le _, rfl, rfl, hx, fun j hj => absurd hj (Nat.not_lt_zero _)⟩
    case round =>
      obtain ⟨k, n, hk, rfl, rfl, hn, hj⟩ := hrel
      by_cases hlt : k < xs.length
      · have hc := h0.cell k hlt
        have ha := h0.addr (by omega)
        subst ha
        by_cases hz : xs[k].size ≤ 1048576
        · by_cases hn2 : n + xs[k].size ≤ 1048576
          · go_wp2
            go_round
            case rel =>
              refine ⟨k + 1, n + xs[k].size, by omega, by go_num, by go_num, hn2, fun j hj2 => ?_⟩
              by_cases e : j = k
              · rw [e, getD_of_lt _ _ hlt]; exact hz
              · exact hj.out j (by omega)
            case measure => simp [intOf]; omega
          · go_wp2
            go_ret
            exact ⟨false, rfl, rfl, by simp⟩
        · go_wp2
          go_ret
          exact ⟨false, rfl, rfl, by simp⟩
      · by_cases h1 : n1 ≤ 1048576
        · by_cases h2 : n + n1 ≤ 1048576
          · go_wp2
            go_ret
            exact ⟨true, rfl, rfl, fun _ => by first | exact small_of xs (fun j h => hj.out j (by omega)) | exact ⟨small_of xs (fun j h => hj.out j (by omega)), h1⟩⟩
          · go_wp2
            go_ret
            exact ⟨false, rfl, rfl, by simp⟩
        · go_wp2
          go_ret
          exact ⟨false, rfl, rfl, by simp⟩
  · go_enter Try.func27, Try.ntmps27
    go_wp2
    go_ret
    exact ⟨false, rfl, rfl, by simp⟩

end EL
end Go.Proofs.Qxb6001700a
