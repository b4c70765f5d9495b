/- Rows of options in memory; cloneOpts. -/
import Derived.Test.Qxb6001673aAppStr
import Derived.Deep.MidRow
namespace Go.Proofs.Qxb6001673a
open Go.ChangeShapes Go.WideShapes Go.ChangeAt Go.RowKit
set_option linter.unusedVariables false
set_option linter.unusedSimpArgs false
namespace App
open Car (nil31 info9)
theorem nil72 : ∀ (w : World) (a : Option Addr) (n c n' c' : Nat), (binOp .eql 72 (.slice a n c) (.slice none n' c')).run Try.prog w = .ok (.bool a.isNone) w := fun w a n c n' c' => Lib.run_eql_slice_nil w _ _ a n c n' c' Try.underlying72
theorem info85 : (Try.prog.info? 85).map (fun i => (i.zero, i.size, i.bytes)) = some (some (.agg #[.slice none 0 0, .int .i64 0, .int .i64 0, .string ByteArray.empty, .bool false]), 5, 64) := by kernel_rfl
theorem info82 : (Try.prog.info? 82).map (fun i => (i.zero, i.size, i.bytes)) = some (some (.agg #[.slice none 0 0, .int .i64 0, .int .i64 0, .string ByteArray.empty, .bool false]), 5, 64) := by kernel_rfl
/-- Block C is a row of n cells of type t, none frozen. -/
def Blk (w : World) (C : Nat) (t : TypeId) (n : Nat) : Prop := ∃ cur : Array Value, w.heap[C]? = some (.cells cur t (0, 0)) ∧ cur.size = n

theorem Blk.cell {w : World} {C t n : Nat} (h : Blk w C t n) {q : Nat} (hq : q < n) : ∃ v, w.cell? ⟨C, q, none⟩ = some v := by
  obtain ⟨cur, hc, hn⟩ := h
  exact ⟨cur[q], by simp [World.cell?, hc, hn, hq]⟩
theorem Blk.frozen {w : World} {C t n : Nat} (h : Blk w C t n) (q : Nat) : w.frozen? ⟨C, q, none⟩ = false := by
  obtain ⟨cur, hc, hn⟩ := h
  simp [World.frozen?, hc]
theorem Blk.lt {w : World} {C t n : Nat} (h : Blk w C t n) : C < w.heap.size := by
  obtain ⟨cur, hc, hn⟩ := h
  exact (Array.getElem?_eq_some_iff.1 hc).1
theorem Blk.set {w : World} {C t n : Nat} (h : Blk w C t n) (C' q : Nat) (v : Value) : Blk (w.setCell ⟨C', q, none⟩ v) C t n := by
  obtain ⟨cur, hc, hn⟩ := h
  by_cases e : C = C'
  · subst e
    exact ⟨cur.setIfInBounds q v, by simp [World.setCell, Array.getElem?_modify, hc], by simpa using hn⟩
  · exact ⟨cur, by rw [Below.heap_setCell _ _ _ _ e]; exact hc, hn⟩
theorem Blk.below {w w' : World} {C t n : Nat} (h : Blk w C t n) (hb : Below w.heap.size w w') : Blk w' C t n := by
  have := h.lt
  obtain ⟨cur, hc, hn⟩ := h
  exact ⟨cur, by rw [hb.block C this]; exact hc, hn⟩

theorem OptAt.range {w : World} {b off B : Nat} {o : O} (h : OptAt w b off B o) : ∃ (ta : Option Addr) (tb to tc : Nat),
    w.rangeAt b off [.slice ta o.tags.length tc, .int .i64 o.att, .int .i64 o.win, .string o.grp, .bool o.grd] ∧ SS w ta tb to o.tags ∧ Hid (ta = none → o.tags.length = 0 ∧ tc = 0) ∧ (0 < o.tags.length → B ≤ tb) := by
  obtain ⟨⟨ta, tb, to, tc, c0, ss, hn, hB⟩, c1, c2, c3, c4⟩ := h
  refine ⟨ta, tb, to, tc, fun j v hv => ?_, ss, hn, hB⟩
  match j, hv with
  | 0, hv => simp at hv; subst hv; exact c0
  | 1, hv => simp at hv; subst hv; exact c1
  | 2, hv => simp at hv; subst hv; exact c2
  | 3, hv => simp at hv; subst hv; exact c3
  | 4, hv => simp at hv; subst hv; exact c4

theorem OptAt.of_range {w : World} {b off B : Nat} {o : O} (ta : Option Addr) (tb to tc : Nat) (h : w.rangeAt b off [.slice ta o.tags.length tc, .int .i64 o.att, .int .i64 o.win, .string o.grp, .bool o.grd])
    (hss : SS w ta tb to o.tags) (hn : Hid (ta = none → o.tags.length = 0 ∧ tc = 0)) (hB : 0 < o.tags.length → B ≤ tb) : OptAt w b off B o :=
  ⟨⟨ta, tb, to, tc, h 0 _ rfl, hss, hn, hB⟩, h 1 _ rfl, h 2 _ rfl, h 3 _ rfl, h 4 _ rfl⟩

theorem one5 (a : Option Addr) (n c : Nat) (x y : Int) (g : ByteArray) (d : Bool) : (#[Value.slice a n c, .int .i64 x, .int .i64 y, .string g, .bool d] : Array Value).all (·.oneCell') = true := by simp [Value.oneCell']
theorem size85 : (Try.prog.info? 85).map (·.size) = some 5 := by kernel_rfl
theorem size82 : (Try.prog.info? 82).map (·.size) = some 5 := by kernel_rfl

theorem Blk.there {w : World} {C t n : Nat} (h : Blk w C t n) {q m : Nat} (hq : q + m ≤ n) : w.there C q m := fun j hj => by
  obtain ⟨v, hv⟩ := h.cell (q := q + j) (by omega)
  exact ⟨by rw [hv]; rfl, h.frozen _⟩
theorem Blk.sets {w : World} {C t n : Nat} (h : Blk w C t n) (C' q : Nat) (vs : List Value) : Blk (w.setCells C' q vs) C t n := by
  induction vs generalizing w q with
  | nil => exact h
  | cons v vs ih => exact ih (h.set C' q v) (q + 1)

theorem _root_.Go.Proofs.Qxb6001673a.SS.setCells {w : World} {at0 : Option Addr} {b off : Nat} {ss : List ByteArray} (h : SS w at0 b off ss) (C q : Nat) (vs : List Value) (hne : 0 < ss.length → b ≠ C) : SS (w.setCells C q vs) at0 b off ss :=
  ⟨h.addr, fun i hi => by rw [World.cell?_setCells_out _ _ _ _ _ (fun e => absurd e (hne (by omega)))]; exact h.cell i hi⟩

theorem OptAt.setCells {w : World} {b off B : Nat} {o : O} (h : OptAt w b off B o) (C q : Nat) (vs : List Value) (hap : b ≠ C ∨ off + 5 ≤ q ∨ q + vs.length ≤ off) (hB : C < B) : OptAt (w.setCells C q vs) b off B o := by
  obtain ⟨ta, tb, to, tc, hr, hss, hn, hb⟩ := h.range
  exact OptAt.of_range ta tb to tc (World.rangeAt_setCells_apart hr C q vs (by simpa using hap)) (hss.setCells C q vs (fun h0 => by have := hb h0; omega)) hn hb

theorem OptAt.setCell {w : World} {b off B : Nat} {o : O} (h : OptAt w b off B o) (C q : Nat) (v : Value) (hap : b ≠ C ∨ off + 5 ≤ q ∨ q + 1 ≤ off) (hB : C < B) : OptAt (w.setCell ⟨C, q, none⟩ v) b off B o :=
  h.setCells C q [v] (by simpa using hap) hB

theorem setCells_size (C : Nat) : ∀ (vs : List Value) (q : Nat) (w : World), (w.setCells C q vs).heap.size = w.heap.size
  | [], _, _ => rfl
  | v :: vs, q, w => by
    show ((w.setCell ⟨C, q, none⟩ v).setCells C (q + 1) vs).heap.size = _
    rw [setCells_size C vs (q + 1)]; simp [World.setCell]

theorem below_setCells {B C : Nat} (hC : B ≤ C) {w0 : World} : ∀ (vs : List Value) (q : Nat) (w : World), Below B w0 w → Below B w0 (w.setCells C q vs)
  | [], _, _, h => h
  | v :: vs, q, w, h => below_setCells hC vs (q + 1) _ (h.setCell (p := ⟨C, q, none⟩) hC v)

theorem rangeAt_below {w w' : World} {b off : Nat} {cs : List Value} (h : w.rangeAt b off cs) (hb : Below w.heap.size w w') : w'.rangeAt b off cs := fun j v hv =>
  (hb.cell (p := ⟨b, off + j, none⟩) (World.block_lt_of_cell? w _ (h j v hv))).trans (h j v hv)

/-- What a round of cloneOpts does to the row. -/
theorem clone_step {os : List O} {k C : Nat} (hlt : k < os.length) {wr W2 w3 : World} {ta at' : Option Addr} {tc b' : Nat}
    (hW2 : wr.setCells C (k * 5) (#[Value.slice ta os[k].tags.length tc, .int .i64 os[k].att, .int .i64 os[k].win, .string os[k].grp, .bool os[k].grd] : Array Value).toList = W2)
    (hth : wr.there C (k * 5) 5) (hC : C < wr.heap.size) (hold : ∀ j (h : j < os.length), j < k → OptAt wr C (j * 5) (C + 1) os[j])
    (bel3 : Below W2.heap.size W2 w3) (ss3 : SS w3 at' b' 0 os[k].tags) (hn3 : Hid (at' = none → os[k].tags.length = 0)) (hb3 : W2.heap.size ≤ b') :
    ∀ j (h : j < os.length), j < k + 1 → OptAt (w3.setCell ⟨C, k * 5, none⟩ (.slice at' os[k].tags.length os[k].tags.length)) C (j * 5) (C + 1) os[j] := by
  intro j hj hjk
  have hsz : W2.heap.size = wr.heap.size := by rw [← hW2, setCells_size]
  by_cases e : j = k
  · subst e
    have hr2 : W2.rangeAt C (j * 5) [.slice ta os[j].tags.length tc, .int .i64 os[j].att, .int .i64 os[j].win, .string os[j].grp, .bool os[j].grd] := by
      rw [← hW2]; exact World.rangeAt_setCells_same wr C (j * 5) _ hth
    have hr3 := rangeAt_below hr2 bel3
    have hss4 : SS (w3.setCell ⟨C, j * 5, none⟩ (.slice at' os[j].tags.length os[j].tags.length)) at' b' 0 os[j].tags :=
      ss3.setCells C (j * 5) [.slice at' os[j].tags.length os[j].tags.length] (fun _ => by omega)
    have hfar : ∀ t v, 0 < t → w3.cell? ⟨C, j * 5 + t, none⟩ = some v → (w3.setCell ⟨C, j * 5, none⟩ (.slice at' os[j].tags.length os[j].tags.length)).cell? ⟨C, j * 5 + t, none⟩ = some v := by
      intro t v ht hv
      have := World.cell?_setCells_out C [.slice at' os[j].tags.length os[j].tags.length] (j * 5) w3 ⟨C, j * 5 + t, none⟩ (fun _ _ => by simp; omega)
      exact this.trans hv
    refine OptAt.mk ⟨at', b', 0, os[j].tags.length, ?_, hss4, (fun h => ⟨hn3.out h, hn3.out h⟩), fun _ => by omega⟩ (hfar 1 _ (by omega) (hr3 1 _ rfl)) (hfar 2 _ (by omega) (hr3 2 _ rfl)) (hfar 3 _ (by omega) (hr3 3 _ rfl)) (hfar 4 _ (by omega) (hr3 4 _ rfl))
    have hth3 : w3.there C (j * 5) 1 := fun t ht => by
      have : t = 0 := by omega
      subst this
      refine ⟨by rw [hr3 0 _ rfl]; rfl, ?_⟩
      rw [bel3.frozen (p := ⟨C, j * 5 + 0, none⟩) (by simp only; omega), ← hW2]
      exact (World.there_setCells hth C (j * 5) _ 0 (by omega)).2
    exact (World.rangeAt_setCells_same w3 C (j * 5) [.slice at' os[j].tags.length os[j].tags.length] hth3) 0 _ rfl
  · have h1 := (hold j hj (by omega)).setCells C (k * 5) (#[Value.slice ta os[k].tags.length tc, .int .i64 os[k].att, .int .i64 os[k].win, .string os[k].grp, .bool os[k].grd] : Array Value).toList (by simp; omega) (by omega)
    rw [hW2] at h1
    exact (h1.belowAll bel3).setCell C (k * 5) _ (by omega) (by omega)

set_option maxHeartbeats 400000 in
theorem cloneOpts_any (os : List O) (a : Addr) (b off cap B : Nat) (w : World) (h : OS w (some a) b off B os) (hl : os.length ≤ 1048576) (htl : ∀ o ∈ os, o.tags.length ≤ 1048576) :
    Calls Try.prog 44 #[.slice (some a) os.length cap] w fun e w' => e = .returned (.slice (some ⟨w.heap.size, 0, none⟩) os.length os.length) ∧ OS w' (some ⟨w.heap.size, 0, none⟩) w.heap.size 0 (w.heap.size + 1) os ∧ Below w.heap.size w w' := by
  have q := nil72
  obtain ⟨i0, hi, hz0, hz1, hz2⟩ := info_parts info85
  have HTL : Hid (∀ o ∈ os, o.tags.length ≤ 1048576) := htl
  clear htl
  go_enter Try.func44, Try.ntmps44
  go_wp2_with (at_make; refine wpList_make_full _ rfl _ _ 72 rfl w.heap.size 85 i0 _ 5 Try.underlying72 hi hz0 hz1 _ _ _ _ os.length rfl rfl (by omega) (by omega) ?b2 ?b3 ?b4 ?_)
  case b2 => rw [hz2]; omega
  case b3 => unfold maxLen; omega
  case b4 => exact Nat.le_refl _
  intro w1 hown hgrow
  have hblk : Blk w1 w.heap.size 85 (os.length * 5) := by
    rcases hown.2 with ⟨h, _⟩ | ⟨g, cp, cur, hv, _, hh, _, _, hcs, _⟩
    · cases h
    · simp only [Value.slice.injEq, Option.some.injEq, Addr.mk.injEq] at hv
      obtain ⟨⟨rfl, _⟩, _, rfl⟩ := hv
      exact ⟨cur, hh, hcs⟩
  have hb1 : Below w.heap.size w w1 := (Below.refl _ _).grown hgrow (Nat.le_refl _) (by simp)
  clear hown hgrow hi hz0 hz1 hz2 i0
  go_wp2
  go_loopw [4] (fun i wr => ∃ k : Nat, k ≤ os.length ∧ i = .int .i64 k ∧ Blk wr w.heap.size 85 (os.length * 5) ∧ Hid (∀ j (h : j < os.length), j < k → OptAt wr w.heap.size (j * 5) (w.heap.size + 1) os[j]) ∧ Below w.heap.size w wr) (fun i _ => os.length - (intOf i).toNat)
  case atStart => exact ⟨0, Nat.zero_le _, rfl, hblk, (fun j _ hj => absurd hj (Nat.not_lt_zero _)), hb1⟩
  case round =>
    obtain ⟨k, hk, rfl, hbl, hold, hbel⟩ := hrel
    by_cases hlt : k < os.length
    · have ha := h.addr (by omega)
      simp only [Option.some.injEq] at ha
      subst ha
      have hth : wr.there w.heap.size (k * 5) 5 := hbl.there (by omega)
      have hb : b < w.heap.size := (h.cell k hlt).lt
      obtain ⟨ta, tb, to, tc, hr0, hss0, hn, hB⟩ := (h.cell k hlt).range
      have hr := rangeAt_below hr0 hbel
      have hss := hss0.belowAll hbel
      have hot : os[k].tags.length ≤ 1048576 := HTL.out _ (List.getElem_mem hlt)
      have STEP := fun W2 w3 at' b' => clone_step (os := os) (k := k) (C := w.heap.size) hlt (wr := wr) (W2 := W2) (w3 := w3) (ta := ta) (at' := at') (tc := tc) (b' := b')
      generalize os[k] = o at *
      obtain ⟨W2, hW2⟩ : ∃ W2, wr.setCells w.heap.size (k * 5) (#[Value.slice ta o.tags.length tc, .int .i64 o.att, .int .i64 o.win, .string o.grp, .bool o.grd] : Array Value).toList = W2 := ⟨_, rfl⟩
      have hc2 : W2.cell? ⟨b, off + k * 5, none⟩ = some (.slice ta o.tags.length tc) := by
        rw [← hW2, World.cell?_setCells_out _ _ _ _ _ (fun e => by simp only at e; omega)]; exact hr 0 _ rfl
      have hss2 : SS W2 ta tb to o.tags := by rw [← hW2]; exact hss.setCells _ _ _ (fun h0 => by have := hss0.lt h0; omega)
      have hbl2 : Blk W2 w.heap.size 85 (os.length * 5) := by rw [← hW2]; exact hbl.sets _ _ _
      have hbel2 : Below w.heap.size w W2 := by rw [← hW2]; exact below_setCells (Nat.le_refl _) _ _ _ hbel
      have ST : Hid (∀ w3 at' b', Below W2.heap.size W2 w3 → SS w3 at' b' 0 o.tags → Hid (at' = none → o.tags.length = 0) → W2.heap.size ≤ b' →
          ∀ j (h : j < os.length), j < k + 1 → OptAt (w3.setCell ⟨w.heap.size, k * 5, none⟩ (.slice at' o.tags.length o.tags.length)) w.heap.size (j * 5) (w.heap.size + 1) os[j]) :=
        fun w3 at' b' => STEP W2 w3 at' b' hW2 hth hbl.lt hold.out
      clear STEP hold
      go_wp2_with (first | (refine wpList_load_mid (by rfl) 85 (.tmp 20) (by rfl) _ _ (by rfl) [.slice ta o.tags.length tc, .int .i64 o.att, .int .i64 o.win, .string o.grp, .bool o.grd] _ hr Try.underlying85 rfl size85 ?_) | ((refine wpList_store_mid (by rfl) 85 (.tmp 22) (.tmp 21) (by rfl) w.heap.size (k * 5) #[.slice ta o.tags.length tc, .int .i64 o.att, .int .i64 o.win, .string o.grp, .bool o.grd] (by rfl) (by rfl) hth size85 (one5 _ _ _ _ _ _ _) ?_; rw [hW2])))
      refine (cloneStrs_u o.tags ta tb to tc _ hss2 hot hn).mono ?_
      rintro e w3 ⟨at', b', rfl, ss3, hn3, hb3, bel3⟩
      have hbl3 := hbl2.below bel3
      obtain ⟨v0, e0⟩ := hbl3.cell (q := k * 5) (by omega)
      have f0 := hbl3.frozen (k * 5)
      go_wp2_with fail
      go_roundw
      case rel => exact ⟨k + 1, by omega, by go_num, hbl3.set _ _ _, ST.out w3 at' b' bel3 ss3 hn3 hb3, (hbel2.trans (bel3.mono (by have := hbl2.lt; omega))).setCell (Nat.le_refl _) _⟩
      case measure => simp [intOf]; omega
    · go_wp2
      go_ret
      exact ⟨rfl, ⟨fun _ => rfl, fun i hi => by rw [Nat.zero_add]; exact hold.out i hi (by omega)⟩, hbel⟩
end App
end Go.Proofs.Qxb6001673a
