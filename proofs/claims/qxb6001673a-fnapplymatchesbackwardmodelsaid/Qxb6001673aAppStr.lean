/- Contracts over []string and over one option, for FnApplyMatchesBackwardModel. -/
import Derived.Test.Qxb6001673aCarStr
import Derived.Test.Qxb6001673aAppPlain
namespace Go.Proofs.Qxb6001673a
open Go.ChangeShapes Go.WideShapes Go.ChangeAt Go.RowKit
set_option linter.unusedVariables false
set_option linter.unusedSimpArgs false
namespace App
open Car (nil31 info9)

set_option maxHeartbeats 400000 in
theorem eqStrings_any (xs : List ByteArray) (at0 at1 : Option Addr) (n0 n1 b0 o0 c0 b1 o1 c1 : Nat) (w : World) (h0 : SS w at0 b0 o0 xs) (h1 : SS w at1 b1 o1 xs) (hl : xs.length ≤ 1000000000) (hn0 : n0 = xs.length) (hn1 : n1 = xs.length) :
    Calls Try.prog 47 #[.slice at0 n0 c0, .slice at1 n1 c1] w fun e w' => e = .returned (.bool true) ∧ ∃ n, w' = w.drewN n := by
  subst hn0
  rw [hn1]
  clear hn1
  go_enter Try.func47, Try.ntmps47
  go_wp2
  go_loopw [5] (fun i wr => ∃ k : Nat, k ≤ xs.length ∧ i = .int .i64 k ∧ ∃ n, wr = w.drewN n) (fun i _ => xs.length - (intOf i).toNat)
  case atStart => exact ⟨0, Nat.zero_le _, rfl, 0, rfl⟩
  case round =>
    obtain ⟨k, hk, rfl, n, rfl⟩ := hrel
    by_cases hlt : k < xs.length
    · have hc0 := h0.cell k hlt
      have hc1 := h1.cell k hlt
      have ha0 := h0.addr (by omega)
      have ha1 := h1.addr (by omega)
      subst ha0
      subst ha1
      have hi : (k : Int) < (xs.length : Int) := by omega
      go_wp2
      go_quiet (fail)
      go_wp2
      go_roundw
      case rel => exact ⟨k + 1, by omega, by go_num, _, rfl⟩
      case measure => simp [intOf]; omega
    · go_wp2
      go_ret
      exact ⟨rfl, _, rfl⟩

set_option maxHeartbeats 400000 in
theorem cloneStrs_nil (w : World) : Calls Try.prog 61 #[.slice none 0 0] w fun e w' => e = .returned (.slice none 0 0) ∧ w' = w := by
  have q := nil31
  go_enter Try.func61, Try.ntmps61
  go_wp2
  go_ret
  exact ⟨rfl, rfl⟩

set_option maxHeartbeats 400000 in
theorem cloneStrs_any (ss : List ByteArray) (a : Addr) (b off cap : Nat) (w : World) (h : SS w (some a) b off ss) (hl : ss.length ≤ 1048576) :
    Calls Try.prog 61 #[.slice (some a) ss.length cap] w fun e w' => e = .returned (.slice (some ⟨w.heap.size, 0, none⟩) ss.length ss.length) ∧ SS w' (some ⟨w.heap.size, 0, none⟩) w.heap.size 0 ss ∧ Below w.heap.size w w' ∧ w.heap.size < w'.heap.size := by
  have q := nil31
  have hmk := run_make_row' (P := Try.prog) 31 9 (.string ByteArray.empty) 16 Try.underlying31 info9 rfl .i64 .i64 ss.length (by omega) (by omega)
  go_enter Try.func61, Try.ntmps61
  go_wp2
  go_loopw [4] (fun i wr => ∃ k : Nat, k ≤ ss.length ∧ i = .int .i64 k ∧ wr.rowIs w.heap.size 9 ss.length (fun j => if j < k then .string (ss.getD j ByteArray.empty) else .string ByteArray.empty) ∧ Below w.heap.size w wr) (fun i _ => ss.length - (intOf i).toNat)
  case atStart => exact ⟨0, Nat.zero_le _, rfl, (World.rowIs_made _ _ _ _).congr (fun i _ => by simp), (Below.refl _ _).alloc (Nat.le_refl _) _⟩
  case round =>
    obtain ⟨k, hk, rfl, hrow, hbel⟩ := hrel
    have hsz := hrow.lt
    by_cases hlt : k < ss.length
    · have hc := (h.belowAll hbel).cell k hlt
      have ha := h.addr (by omega)
      have ho := hrow.cell hlt
      have hf := hrow.frozen k
      simp only [Option.some.injEq] at ha
      subst ha
      simp only [Nat.lt_irrefl, if_false] at ho
      have R : Hid ((wr.setCell ⟨w.heap.size, k, none⟩ (.string (ss.getD k ByteArray.empty))).rowIs w.heap.size 9 ss.length (fun j => if j < k + 1 then .string (ss.getD j ByteArray.empty) else .string ByteArray.empty)) :=
        (hrow.set k _).congr (fun i _ => by
          by_cases e : i = k
          · subst e; simp
          · have e2 : i < k + 1 ↔ i < k := by omega
            simp only [e, if_false, e2])
      have R2 : Hid (Below w.heap.size w (wr.setCell ⟨w.heap.size, k, none⟩ (.string (ss.getD k ByteArray.empty)))) := hbel.setCell (Nat.le_refl _) _
      go_wp2
      go_roundw
      case rel => exact ⟨k + 1, by omega, by go_num, by simpa [List.getD, hlt] using R.out, by simpa [List.getD, hlt] using R2.out⟩
      case measure => simp [intOf]; omega
    · go_wp2
      go_ret
      refine ⟨rfl, ⟨fun _ => rfl, fun i hi => ?_⟩, hbel, hsz⟩
      have := hrow.cell hi
      simpa [show i < k by omega] using this

/-- What cloneStrings leaves: the same strings, in new memory. -/
def Cloned (ss : List ByteArray) (w : World) (e : Ending) (w' : World) : Prop :=
  ∃ (at' : Option Addr) (b' : Nat), e = .returned (.slice at' ss.length ss.length) ∧ SS w' at' b' 0 ss ∧ Hid (at' = none → ss.length = 0) ∧ (w.heap.size ≤ b' ∧ Below w.heap.size w w')

theorem cloneStrs_u (ss : List ByteArray) (at0 : Option Addr) (b off cap : Nat) (w : World) (h : SS w at0 b off ss) (hl : ss.length ≤ 1048576) (hn : Hid (at0 = none → ss.length = 0 ∧ cap = 0)) :
    Calls Try.prog 61 #[.slice at0 ss.length cap] w (Cloned ss w) := by
  cases at0 with
  | none =>
    obtain ⟨h1, rfl⟩ := hn.out rfl
    rw [h1]
    refine (cloneStrs_nil w).mono ?_
    rintro e w' ⟨rfl, rfl⟩
    exact ⟨none, w'.heap.size, by rw [h1], ⟨fun h => by omega, fun i hi => by omega⟩, fun _ => h1, Nat.le_refl _, Below.refl _ _⟩
  | some a =>
    refine (cloneStrs_any ss a b off cap w h hl).mono ?_
    rintro e w' ⟨rfl, hs, hb, _⟩
    exact ⟨_, _, rfl, hs, (fun h => by cases h), Nat.le_refl _, hb⟩

/-- An option's five cells, as a value. -/
def optV (a : Option Addr) (n c : Nat) (att win : Int) (grp : ByteArray) (grd : Bool) : Value := .agg #[.slice a n c, .int .i64 att, .int .i64 win, .string grp, .bool grd]

theorem bel_alloc (w : World) (o : Obj) : Below w.heap.size w (w.alloc o) := (Below.refl _ _).alloc (Nat.le_refl _) o
theorem bel_drewN {B : Nat} {w w' : World} (h : Below B w w') (n : Nat) : Below B w (w'.drewN n) := ⟨h.os, h.tape, h.output, h.size, h.block⟩

theorem makeOpt_any (att win : Int) (grp : ByteArray) (grd : Bool) (w : World) (a : Option Addr) (n c : Nat) :
    Calls Try.prog 62 #[.slice a n c, .int .i64 att, .int .i64 win, .string grp, .bool grd] w fun e w' => e = .returned (.agg #[.slice a n c, .int .i64 att, .int .i64 win, .string grp, .bool grd]) ∧ Below w.heap.size w w' := by
  go_enter Try.func62, Try.ntmps62
  go_wp2
  exact bodyPost_ret (v := .agg #[.slice a n c, .int .i64 att, .int .i64 win, .string grp, .bool grd]) (by simp [results, Try.results62, go_sem]) rfl ⟨rfl, bel_alloc _ _⟩

theorem tags_any (att win : Int) (grp : ByteArray) (grd : Bool) (w : World) (a : Option Addr) (n c : Nat) :
    Calls Try.prog 48 #[.agg #[.slice a n c, .int .i64 att, .int .i64 win, .string grp, .bool grd]] w fun e w' => e = .returned (.slice a n c) ∧ Below w.heap.size w w' := by
  go_enter Try.func48, Try.ntmps48
  go_wp2
  go_ret
  exact ⟨rfl, bel_alloc _ _⟩

set_option maxHeartbeats 400000 in
theorem flaky_any (att win : Int) (grp : ByteArray) (grd : Bool) (w : World) (a : Option Addr) (n c : Nat) :
    Calls Try.prog 49 #[.agg #[.slice a n c, .int .i64 att, .int .i64 win, .string grp, .bool grd]] w fun e w' => e = .returned (.tuple #[.int .i64 att, .int .i64 win]) ∧ Below w.heap.size w w' := by
  go_enter Try.func49, Try.ntmps49
  go_wp2
  go_quiet (fail)
  go_wp2
  go_ret2
  exact ⟨rfl, bel_drewN (bel_alloc _ _) _⟩

set_option maxHeartbeats 400000 in
theorem group_any (att win : Int) (grp : ByteArray) (grd : Bool) (w : World) (a : Option Addr) (n c : Nat) :
    Calls Try.prog 50 #[.agg #[.slice a n c, .int .i64 att, .int .i64 win, .string grp, .bool grd]] w fun e w' => e = .returned (.tuple #[.string grp, .bool grd]) ∧ Below w.heap.size w w' := by
  go_enter Try.func50, Try.ntmps50
  go_wp2
  go_quiet (fail)
  go_wp2
  go_ret2
  exact ⟨rfl, bel_drewN (bel_alloc _ _) _⟩

/-- An option lies in w at ⟨b, off⟩: its five cells; its tags from a block numbered at least B on. -/
structure OptAt (w : World) (b off : Nat) (B : Nat) (o : O) : Prop where
  tags : ∃ (ta : Option Addr) (tb to tc : Nat), w.cell? ⟨b, off, none⟩ = some (.slice ta o.tags.length tc) ∧ SS w ta tb to o.tags ∧ Hid (ta = none → o.tags.length = 0 ∧ tc = 0) ∧ (0 < o.tags.length → B ≤ tb)
  att : w.cell? ⟨b, off + 1, none⟩ = some (.int .i64 o.att)
  win : w.cell? ⟨b, off + 2, none⟩ = some (.int .i64 o.win)
  grp : w.cell? ⟨b, off + 3, none⟩ = some (.string o.grp)
  grd : w.cell? ⟨b, off + 4, none⟩ = some (.bool o.grd)

theorem OptAt.below {B' : Nat} {w w' : World} {b off B : Nat} {o : O} (h : OptAt w b off B o) (hb : Below B' w w') (h1 : b < B') (h2 : w.heap.size ≤ B') : OptAt w' b off B o := by
  obtain ⟨⟨ta, tb, to, tc, c0, ss, hn, hB⟩, c1, c2, c3, c4⟩ := h
  exact ⟨⟨ta, tb, to, tc, (hb.cell (p := ⟨b, off, none⟩) h1).trans c0, ss.below hb (fun h => Nat.lt_of_lt_of_le (ss.lt h) h2), hn, hB⟩, (hb.cell (p := ⟨b, off + 1, none⟩) h1).trans c1, (hb.cell (p := ⟨b, off + 2, none⟩) h1).trans c2, (hb.cell (p := ⟨b, off + 3, none⟩) h1).trans c3, (hb.cell (p := ⟨b, off + 4, none⟩) h1).trans c4⟩

theorem OptAt.lt {w : World} {b off B : Nat} {o : O} (h : OptAt w b off B o) : b < w.heap.size := World.block_lt_of_cell? w _ h.att

theorem OptAt.belowAll {w w' : World} {b off B : Nat} {o : O} (h : OptAt w b off B o) (hb : Below w.heap.size w w') : OptAt w' b off B o := h.below hb h.lt (Nat.le_refl _)

/-- A []ZOpt or a []Option in w. -/
structure OS (w : World) (at0 : Option Addr) (b off B : Nat) (os : List O) : Prop where
  addr : 0 < os.length → at0 = some ⟨b, off, none⟩
  cell : ∀ i (h : i < os.length), OptAt w b (off + i * 5) B os[i]

theorem OS.belowAll {w w' : World} {at0 : Option Addr} {b off B : Nat} {os : List O} (h : OS w at0 b off B os) (hb : Below w.heap.size w w') : OS w' at0 b off B os :=
  ⟨h.addr, fun i hi => (h.cell i hi).belowAll hb⟩

end App
end Go.Proofs.Qxb6001673a
