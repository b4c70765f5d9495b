/- toOptions. -/
import Derived.Test.Qxb6001673aAppRows
import Derived.Deep.RegionHeld3
namespace Go.Proofs.Qxb6001673a
open Go.ChangeShapes Go.WideShapes Go.ChangeAt Go.RowKit
set_option linter.unusedVariables false
set_option linter.unusedSimpArgs false
namespace App
open Car (nil31 info9)

theorem ss_drew {w : World} {at0 : Option Addr} {b off : Nat} {ss : List ByteArray} (h : SS w at0 b off ss) : SS w.drew at0 b off ss := ⟨h.addr, h.cell⟩

abbrev Five (b off : Nat) (ta : Option Addr) (o : O) (tc : Nat) (w' : World) : Prop :=
  w'.cell? ⟨b, off, none⟩ = some (.slice ta o.tags.length tc) ∧ w'.cell? ⟨b, off + 1, none⟩ = some (.int .i64 o.att) ∧ w'.cell? ⟨b, off + 2, none⟩ = some (.int .i64 o.win) ∧ w'.cell? ⟨b, off + 3, none⟩ = some (.string o.grp) ∧ w'.cell? ⟨b, off + 4, none⟩ = some (.bool o.grd)
theorem Five.keep {b off : Nat} {ta : Option Addr} {o : O} {tc : Nat} {w w' : World} (h : Five b off ta o tc w) (hb : Below w.heap.size w w') (hl : b < w.heap.size) : Five b off ta o tc w' :=
  ⟨(hb.cell (p := ⟨b, off, none⟩) hl).trans h.1, (hb.cell (p := ⟨b, off + 1, none⟩) hl).trans h.2.1, (hb.cell (p := ⟨b, off + 2, none⟩) hl).trans h.2.2.1, (hb.cell (p := ⟨b, off + 3, none⟩) hl).trans h.2.2.2.1, (hb.cell (p := ⟨b, off + 4, none⟩) hl).trans h.2.2.2.2⟩

theorem Five.set {b off : Nat} {ta : Option Addr} {o : O} {tc : Nat} {w : World} (h : Five b off ta o tc w) {G : Nat} (hne : b ≠ G) (q : Nat) (v : Value) : Five b off ta o tc (w.setCell ⟨G, q, none⟩ v) := by
  have e : ∀ t, (w.setCell ⟨G, q, none⟩ v).cell? ⟨b, t, none⟩ = w.cell? ⟨b, t, none⟩ := fun t => World.cell?_setCells_out G [v] q w ⟨b, t, none⟩ (fun e => absurd e hne)
  exact ⟨(e _).trans h.1, (e _).trans h.2.1, (e _).trans h.2.2.1, (e _).trans h.2.2.2.1, (e _).trans h.2.2.2.2⟩

theorem OptAt.drew {w : World} {b off B : Nat} {o : O} (h : OptAt w b off B o) : OptAt w.drew b off B o := by
  obtain ⟨⟨ta, tb, to, tc, c0, ss, hn, hB⟩, c1, c2, c3, c4⟩ := h
  exact ⟨⟨ta, tb, to, tc, c0, ss_drew ss, hn, hB⟩, c1, c2, c3, c4⟩

/-- What a round of toOptions does to the row. -/
theorem to_step {os : List O} {k C : Nat} (hlt : k < os.length) {wr w3 w4 : World} {at' : Option Addr} {b' : Nat} (hC : C < wr.heap.size) (hold : ∀ j (h : j < os.length), j < k → OptAt wr C (j * 5) (C + 1) os[j])
    (bel3 : Below wr.drew.heap.size wr.drew w3) (bel4 : Below w3.heap.size w3 w4) (ss3 : SS w3 at' b' 0 os[k].tags) (hn3 : Hid (at' = none → os[k].tags.length = 0)) (hb3 : wr.drew.heap.size ≤ b') (hbl : Blk w4 C 82 (os.length * 5)) :
    ∀ j (h : j < os.length), j < k + 1 → OptAt (w4.setCells C (k * 5) [.slice at' os[k].tags.length os[k].tags.length, .int .i64 os[k].att, .int .i64 os[k].win, .string os[k].grp, .bool os[k].grd]) C (j * 5) (C + 1) os[j] := by
  intro j hj hjk
  have hb3' : wr.heap.size ≤ b' := hb3
  by_cases e : j = k
  · subst e
    exact OptAt.of_range at' b' 0 os[j].tags.length (World.rangeAt_setCells_same w4 C (j * 5) _ (hbl.there (by simp; omega))) ((ss3.belowAll bel4).setCells C (j * 5) _ (fun _ => by omega)) (fun h => ⟨hn3.out h, hn3.out h⟩) (fun _ => by omega)
  · exact (((hold j hj (by omega)).drew.belowAll bel3).belowAll bel4).setCells C (k * 5) _ (by simp; omega) (by omega)

set_option maxHeartbeats 1000000 in
theorem toOptions_any (os : List O) (a : Addr) (b off cap B : Nat) (w : World) (h : OS w (some a) b off B os) (hl : os.length ≤ 1048576) (htl : ∀ o ∈ os, o.tags.length ≤ 1048576) :
    Calls Try.prog 45 #[.slice (some a) os.length cap] w fun e w' => e = .returned (.slice (some ⟨w.heap.size, 0, none⟩) os.length os.length) ∧ OS w' (some ⟨w.heap.size, 0, none⟩) w.heap.size 0 (w.heap.size + 1) os ∧ Below w.heap.size w w' := by
  have q := nil72
  obtain ⟨i0, hi, hz0, hz1, hz2⟩ := info_parts info82
  have HTL : Hid (∀ o ∈ os, o.tags.length ≤ 1048576) := htl
  clear htl
  go_enter Try.func45, Try.ntmps45
  go_wp2_with (at_make; refine wpList_make_full _ rfl _ _ 76 rfl w.heap.size 82 i0 _ 5 Try.underlying76 hi hz0 hz1 _ _ _ _ os.length rfl rfl (by omega) (by omega) ?b2 ?b3 ?b4 ?_)
  case b2 => rw [hz2]; omega
  case b3 => unfold maxLen; omega
  case b4 => exact Nat.le_refl _
  intro w1 hown hgrow
  have hblk : Blk w1 w.heap.size 82 (os.length * 5) := by
    rcases hown.2 with ⟨h, _⟩ | ⟨g, cp, cur, hv, _, hh, _, _, hcs, _⟩
    · cases h
    · simp only [Value.slice.injEq, Option.some.injEq, Addr.mk.injEq] at hv
      obtain ⟨⟨rfl, _⟩, _, rfl⟩ := hv
      exact ⟨cur, hh, hcs⟩
  have hb1 : Below w.heap.size w w1 := (Below.refl _ _).grown hgrow (Nat.le_refl _) (by simp)
  clear hown hgrow hi hz0 hz1 hz2 i0
  go_wp2
  go_loopw [4] (fun i wr => ∃ k : Nat, k ≤ os.length ∧ i = .int .i64 k ∧ Blk wr w.heap.size 82 (os.length * 5) ∧ Hid (∀ j (h : j < os.length), j < k → OptAt wr w.heap.size (j * 5) (w.heap.size + 1) os[j]) ∧ Below w.heap.size w wr) (fun i _ => os.length - (intOf i).toNat)
  case atStart => exact ⟨0, Nat.zero_le _, rfl, hblk, (fun j _ hj => absurd hj (Nat.not_lt_zero _)), hb1⟩
  case round =>
    obtain ⟨k, hk, rfl, hbl, hold, hbel⟩ := hrel
    by_cases hlt : k < os.length
    · have ha := h.addr (by omega)
      simp only [Option.some.injEq] at ha
      subst ha
      have hth : wr.there w.heap.size (k * 5) 5 := hbl.there (by omega)
      have hb : b < w.heap.size := (h.cell k hlt).lt
      obtain ⟨ta, tb, to, tc, hr0, hss0, hn, hB⟩ := (h.cell k hlt).range
      have hr := rangeAt_below hr0 hbel
      have hss := hss0.belowAll hbel
      have hot : os[k].tags.length ≤ 1048576 := HTL.out _ (List.getElem_mem hlt)
      have STEP := fun w3 w4 at' b' => to_step (os := os) (k := k) (C := w.heap.size) hlt (wr := wr) (w3 := w3) (w4 := w4) (at' := at') (b' := b') hbl.lt hold.out
      generalize os[k] = o at *
      have ST : Hid (∀ w3 w4 at' b', Below wr.drew.heap.size wr.drew w3 → Below w3.heap.size w3 w4 → SS w3 at' b' 0 o.tags → Hid (at' = none → o.tags.length = 0) → wr.drew.heap.size ≤ b' → Blk w4 w.heap.size 82 (os.length * 5) →
          ∀ j (h : j < os.length), j < k + 1 → OptAt (w4.setCells w.heap.size (k * 5) [.slice at' o.tags.length o.tags.length, .int .i64 o.att, .int .i64 o.win, .string o.grp, .bool o.grd]) w.heap.size (j * 5) (w.heap.size + 1) os[j]) := STEP
      have BL : Hid (∀ w3 w4, Below wr.drew.heap.size wr.drew w3 → Below w3.heap.size w3 w4 → ∀ vs, Below w.heap.size w (w4.setCells w.heap.size (k * 5) vs)) :=
        fun w3 w4 h3 h4 vs => below_setCells (Nat.le_refl _) _ _ _ ((hbel.drew.trans (h3.mono hbel.size)).trans (h4.mono (Nat.le_trans hbel.size h3.size)))
      clear STEP
      have c0 : wr.cell? ⟨b, off + k * 5, none⟩ = some (.slice ta o.tags.length tc) := hr 0 _ rfl
      have c1 : wr.cell? ⟨b, off + k * 5 + 1, none⟩ = some (.int .i64 o.att) := hr 1 _ rfl
      have c2 : wr.cell? ⟨b, off + k * 5 + 2, none⟩ = some (.int .i64 o.win) := hr 2 _ rfl
      have c3 : wr.cell? ⟨b, off + k * 5 + 3, none⟩ = some (.string o.grp) := hr 3 _ rfl
      have c4 : wr.cell? ⟨b, off + k * 5 + 4, none⟩ = some (.bool o.grd) := hr 4 _ rfl
      have hi1 : (k : Int) < (os.length : Int) := by omega
      have hi0 : (0 : Int) ≤ (k : Int) := by omega
      have hbr : b < wr.heap.size := by have := hbel.size; omega
      clear hold h hr0 hss0 hr hB
      go_wp2
      have hbG : b ≠ w.heap.size := by omega
      have S0 : Five b (off + k * 5) ta o tc wr.drew := ⟨c0, c1, c2, c3, c4⟩
      have hblD : Blk wr.drew w.heap.size 82 (os.length * 5) := hbl
      go_region_held3 (fun w' => w'.cell? ⟨b, off + k * 5, none⟩ = some (.slice ta o.tags.length tc) ∧ w'.cell? ⟨b, off + k * 5 + 1, none⟩ = some (.int .i64 o.att) ∧ w'.cell? ⟨b, off + k * 5 + 2, none⟩ = some (.int .i64 o.win) ∧ w'.cell? ⟨b, off + k * 5 + 3, none⟩ = some (.string o.grp) ∧ w'.cell? ⟨b, off + k * 5 + 4, none⟩ = some (.bool o.grd))
        (first | with_reducible exact S0 | with_reducible exact S3 | with_reducible exact S4 | with_reducible exact ((((S4.set hbG _ _).set hbG _ _).set hbG _ _).set hbG _ _).set hbG _ _)
        (first | (go_at_call 61; refine (cloneStrs_u o.tags ta tb to tc _ (ss_drew hss) hot hn).mono ?_; rintro e w3 ⟨at', b', rfl, ss3, hn3, hb3, bel3⟩; have S3 := S0.keep bel3 hbr; have hbl3 := hblD.below bel3; have hb3' : b < w3.heap.size := Nat.lt_of_lt_of_le hbr bel3.size) | (go_at_call 62; refine (makeOpt_any _ _ _ _ _ _ _ _).mono ?_; rintro e w4 ⟨rfl, bel4⟩; have S4 := S3.keep bel4 hb3'; have hbl4 := hbl3.below bel4; obtain ⟨v0, e0⟩ := hbl4.cell (q := k * 5) (by omega); obtain ⟨v1, e1⟩ := hbl4.cell (q := k * 5 + 1) (by omega); obtain ⟨v2, e2⟩ := hbl4.cell (q := k * 5 + 2) (by omega); obtain ⟨v3, e3⟩ := hbl4.cell (q := k * 5 + 3) (by omega); obtain ⟨v4, e4⟩ := hbl4.cell (q := k * 5 + 4) (by omega); have f0 := hbl4.frozen (k * 5); have f1 := hbl4.frozen (k * 5 + 1); have f2 := hbl4.frozen (k * 5 + 2); have f3 := hbl4.frozen (k * 5 + 3); have f4 := hbl4.frozen (k * 5 + 4)))
      go_wp2_with fail
      go_roundw
      case rel => exact ⟨k + 1, by omega, by go_num, ((((hbl4.set _ _ _).set _ _ _).set _ _ _).set _ _ _).set _ _ _, ST.out w3 w4 at' b' bel3 bel4 ss3 hn3 hb3 hbl4, BL.out w3 w4 bel3 bel4 [.slice at' o.tags.length o.tags.length, .int .i64 o.att, .int .i64 o.win, .string o.grp, .bool o.grd]⟩
      case measure => simp [intOf]; omega
    · go_wp2
      go_ret
      exact ⟨rfl, ⟨fun _ => rfl, fun i hi => by rw [Nat.zero_add]; exact hold.out i hi (by omega)⟩, hbel⟩
end App
end Go.Proofs.Qxb6001673a
