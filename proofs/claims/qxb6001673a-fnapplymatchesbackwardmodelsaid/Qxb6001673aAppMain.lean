/- The walk of FnApplyMatchesBackwardModel. -/
import Derived.Test.Qxb6001673aAppAp
import Derived.Test.Qxb6001673aAppOpt
import Derived.Deep.DeepCutAuto
import Derived.Deep.CutBlock
namespace Go.Proofs.Qxb6001673a
open Go.ChangeShapes Go.WideShapes Go.ChangeAt Go.RowKit
set_option linter.unusedVariables false
set_option linter.unusedSimpArgs false
namespace App
open Car (nil31 info9 Says)

set_option maxHeartbeats 400000 in
theorem cloneOpts_nil (w : World) : Calls Try.prog 44 #[.slice none 0 0] w fun e w' => e = .returned (.slice none 0 0) ∧ w' = w := by
  have q := nil72
  go_enter Try.func44, Try.ntmps44
  go_wp2
  go_ret
  exact ⟨rfl, rfl⟩
set_option maxHeartbeats 400000 in
theorem toOptions_nil (w : World) : Calls Try.prog 45 #[.slice none 0 0] w fun e w' => e = .returned (.slice none 0 0) ∧ w' = w := by
  have q := nil72
  go_enter Try.func45, Try.ntmps45
  go_wp2
  go_ret
  exact ⟨rfl, rfl⟩

/-- A copy of the options in new memory. -/
def Copied (os : List O) (w : World) (e : Ending) (w' : World) : Prop :=
  ∃ (at' : Option Addr) (b' : Nat), e = .returned (.slice at' os.length os.length) ∧ OS w' at' b' 0 0 os ∧ Hid (at' = none → os.length = 0 ∧ os.length = 0) ∧ Below w.heap.size w w'

theorem OptAt.weak {w : World} {b off B : Nat} {o : O} (h : OptAt w b off B o) : OptAt w b off 0 o := by
  obtain ⟨⟨ta, tb, tz, tc, c0, ss, hn, hB⟩, c1, c2, c3, c4⟩ := h
  exact ⟨⟨ta, tb, tz, tc, c0, ss, hn, fun _ => Nat.zero_le _⟩, c1, c2, c3, c4⟩
theorem OS.weak {w : World} {at0 : Option Addr} {b off B : Nat} {os : List O} (h : OS w at0 b off B os) : OS w at0 b off 0 os := ⟨h.addr, fun i hi => (h.cell i hi).weak⟩

theorem cloneOpts_u (os : List O) (at0 : Option Addr) (b off cap B : Nat) (w : World) (h : OS w at0 b off B os) (hl : os.length ≤ 1048576) (htl : ∀ o ∈ os, o.tags.length ≤ 1048576) (hn : Hid (at0 = none → os.length = 0 ∧ cap = 0)) :
    Calls Try.prog 44 #[.slice at0 os.length cap] w (Copied os w) := by
  cases at0 with
  | none =>
    obtain ⟨h1, rfl⟩ := hn.out rfl
    rw [h1]
    refine (cloneOpts_nil w).mono ?_
    rintro e w' ⟨rfl, rfl⟩
    exact ⟨none, 0, by rw [h1], ⟨fun h => by omega, fun i hi => by omega⟩, fun _ => ⟨h1, h1⟩, Below.refl _ _⟩
  | some a =>
    refine (cloneOpts_any os a b off cap B w h hl htl).mono ?_
    rintro e w' ⟨rfl, hs, hb⟩
    exact ⟨_, _, rfl, hs.weak, (fun h => by cases h), hb⟩
theorem toOptions_u (os : List O) (at0 : Option Addr) (b off cap B : Nat) (w : World) (h : OS w at0 b off B os) (hl : os.length ≤ 1048576) (htl : ∀ o ∈ os, o.tags.length ≤ 1048576) (hn : Hid (at0 = none → os.length = 0 ∧ cap = 0)) :
    Calls Try.prog 45 #[.slice at0 os.length cap] w (Copied os w) := by
  cases at0 with
  | none =>
    obtain ⟨h1, rfl⟩ := hn.out rfl
    rw [h1]
    refine (toOptions_nil w).mono ?_
    rintro e w' ⟨rfl, rfl⟩
    exact ⟨none, 0, by rw [h1], ⟨fun h => by omega, fun i hi => by omega⟩, fun _ => ⟨h1, h1⟩, Below.refl _ _⟩
  | some a =>
    refine (toOptions_any os a b off cap B w h hl htl).mono ?_
    rintro e w' ⟨rfl, hs, hb⟩
    exact ⟨_, _, rfl, hs.weak, (fun h => by cases h), hb⟩

theorem Small.each {os : List O} (hs : Small os) : ∀ o ∈ os, o.tags.length ≤ 1048576 := fun o ho => by
  obtain ⟨i, hi, rfl⟩ := List.getElem_of_mem ho
  have h1 := tagCount_take_succ os i hi
  have h2 := tagCount_take_le os (i + 1)
  have := hs.tags
  omega

theorem OS.drewN {w : World} {at0 : Option Addr} {b off B : Nat} {os : List O} (h : OS w at0 b off B os) (n : Nat) : OS (w.drewN n) at0 b off B os := h.belowAll (bel_drewN (Below.refl _ _) n)

theorem five_alloc (w : World) (ao : Option Addr) (g : O) (cp : Nat) : (w.alloc (.cells #[.slice ao g.tags.length cp, .int .i64 g.att, .int .i64 g.win, .string g.grp, .bool g.grd] 82)).rangeAt w.heap.size 0 [.slice ao g.tags.length cp, .int .i64 g.att, .int .i64 g.win, .string g.grp, .bool g.grd] := by
  intro j u hu
  have hc : ∀ t, (w.alloc (.cells #[.slice ao g.tags.length cp, .int .i64 g.att, .int .i64 g.win, .string g.grp, .bool g.grd] 82)).cell? ⟨w.heap.size, t, none⟩ = (#[Value.slice ao g.tags.length cp, .int .i64 g.att, .int .i64 g.win, .string g.grp, .bool g.grd] : Array Value)[t]? := fun t => World.cell?_alloc_at _ _ _ _ rfl
  rw [hc]
  match j, hu with
  | 0, hu => simp at hu; subst hu; rfl
  | 1, hu => simp at hu; subst hu; rfl
  | 2, hu => simp at hu; subst hu; rfl
  | 3, hu => simp at hu; subst hu; rfl
  | 4, hu => simp at hu; subst hu; rfl

theorem ss_of_owns {w : World} {base : Nat} {ao : Option Addr} {n cp : Nat} {T : List ByteArray} (h : w.ownsRow base 9 1 (.slice ao n cp) T.length (T.map Value.string)) : ∃ b, SS w ao b 0 T := by
  rcases h.2 with ⟨hv, hn⟩ | ⟨g, cap, cur, hv, hg, hh, hn, hm, hcs, htk⟩
  · exact ⟨0, fun h => by omega, fun i hi => by omega⟩
  · simp only [Value.slice.injEq] at hv
    obtain ⟨rfl, rfl, rfl⟩ := hv
    refine ⟨g, fun _ => rfl, fun i hi => ?_⟩
    have hc : w.cell? ⟨g, 0 + i, none⟩ = cur[i]? := by simp [World.cell?, hh]
    rw [hc]
    have e : cur[i]? = (cur.toList.take (T.length * 1))[i]? := by
      rw [List.getElem?_take, if_pos (by omega)]; simp
    rw [e, htk, List.getElem?_map, List.getElem?_eq_getElem hi]
    simp only [Option.map_some, List.getD, List.getElem?_eq_getElem hi, Option.getD_some]

theorem ownsRow_below {w w' : World} {base : Nat} {e : TypeId} {size : Nat} {v : Value} {n : Nat} {xs : List Value} (h : w.ownsRow base e size v n xs) (hb : Below w.heap.size w w') : w'.ownsRow base e size v n xs := by
  have hl := h.lt
  refine ⟨h.1, ?_⟩
  rcases h.2 with h0 | ⟨g, cap, cur, rfl, hg, hh, r⟩
  · exact .inl h0
  · exact .inr ⟨g, cap, cur, rfl, hg, by rw [hb.block g (hl g rfl).2]; exact hh, r⟩

theorem owns_some {w : World} {base : Nat} {e : TypeId} {size : Nat} {ao : Option Addr} {n cp : Nat} {xs : List Value} (h : w.ownsRow base e size (.slice ao n cp) n xs) (hn : 0 < n) : ∃ g, ao = some ⟨g, 0, none⟩ ∧ base ≤ g := by
  rcases h.2 with ⟨_, h0⟩ | ⟨g, cap, cur, hv, hg, _⟩
  · omega
  · simp only [Value.slice.injEq] at hv
    exact ⟨g, hv.1, hg⟩

theorem getD_set_ne (T : List ByteArray) (k j : Nat) (x : ByteArray) (h : k ≠ j) : (T.set k x).getD j ByteArray.empty = T.getD j ByteArray.empty := by
  simp [List.getD, List.getElem?_set, h]

theorem OS.below3 {w w' : World} {at0 : Option Addr} {b off B : Nat} {os : List O} (h : OS w at0 b off B os) (hb : Below w.heap.size w w') : OS w' at0 b off B os := h.belowAll hb

abbrev Six (bc oc : Nat) (ta : Option Addr) (tc : Nat) (bg og : Nat) (ga : Option Addr) (o : O) (gc : Nat) (w' : World) : Prop :=
  w'.cell? ⟨bc, oc, none⟩ = some (.slice ta o.tags.length tc) ∧ w'.cell? ⟨bg, og, none⟩ = some (.slice ga o.tags.length gc) ∧ w'.cell? ⟨bg, og + 1, none⟩ = some (.int .i64 o.att) ∧ w'.cell? ⟨bg, og + 2, none⟩ = some (.int .i64 o.win) ∧ w'.cell? ⟨bg, og + 3, none⟩ = some (.string o.grp) ∧ w'.cell? ⟨bg, og + 4, none⟩ = some (.bool o.grd)
theorem Six.keep {bc oc : Nat} {ta : Option Addr} {tc : Nat} {bg og : Nat} {ga : Option Addr} {o : O} {gc : Nat} {w w' : World} (h : Six bc oc ta tc bg og ga o gc w) (hb : Below w.heap.size w w') (hl : bc < w.heap.size) (hg : bg < w.heap.size) : Six bc oc ta tc bg og ga o gc w' :=
  ⟨(hb.cell (p := ⟨bc, oc, none⟩) hl).trans h.1, (hb.cell (p := ⟨bg, og, none⟩) hg).trans h.2.1, (hb.cell (p := ⟨bg, og + 1, none⟩) hg).trans h.2.2.1, (hb.cell (p := ⟨bg, og + 2, none⟩) hg).trans h.2.2.2.1, (hb.cell (p := ⟨bg, og + 3, none⟩) hg).trans h.2.2.2.2.1, (hb.cell (p := ⟨bg, og + 4, none⟩) hg).trans h.2.2.2.2.2⟩

set_option maxRecDepth 100000 in
set_option maxHeartbeats 4000000 in
theorem main_walk (os : List O) (at0 : Option Addr) (b off cap : Nat) (w : World) (h : OS w at0 b off 0 os) (hn : Hid (at0 = none → os.length = 0 ∧ cap = 0)) (hl : os.length ≤ 9223372036854775807)
    (htl : ∀ o ∈ os, o.tags.length ≤ 9223372036854775807 ∧ (∀ s ∈ o.tags, s.size ≤ 9223372036854775807) ∧ o.grp.size ≤ 9223372036854775807) :
    Calls Try.prog 11 #[.slice at0 os.length cap] w fun e w' => e = .returned (.bool true) ∧ Below w.heap.size w w' := by
  obtain ⟨i0, hi, hz0, hz1, hz2⟩ := info_parts info9
  have HTL : Hid (∀ o ∈ os, o.tags.length ≤ 9223372036854775807 ∧ (∀ s ∈ o.tags, s.size ≤ 9223372036854775807) ∧ o.grp.size ≤ 9223372036854775807) := htl
  clear htl
  go_enter Try.func11, Try.ntmps11
  go_wp2_with fail
  refine (zzBytes_any os at0 b off cap 0 _ h hl HTL.out).mono ?_
  rintro e w' ⟨r, rfl, hw, hr⟩
  obtain rfl := hw.symm
  cases r with
  | false =>
    go_wp2_with fail
    go_ret
    exact ⟨rfl, Below.refl _ _⟩
  | true =>
  have hsm := hr rfl
  have hlen := hsm.len
  clear hr
  go_wp2_with fail
  refine (optsBytes_any os at0 b off cap 0 _ h hsm (fun o ho => (HTL.out o ho).2.2)).mono ?_
  rintro e w' ⟨x, nd, rfl, rfl⟩
  by_cases hx : x ≤ 1048576
  case neg =>
    go_wp2_with fail
    go_ret
    exact ⟨rfl, bel_drewN (Below.refl _ _) _⟩
  go_wp2_with fail
  refine (cloneOpts_u os at0 b off cap 0 _ (h.drewN nd) hlen hsm.each hn).mono ?_
  rintro e w2 ⟨atc, bc, rfl, hosc, hnc, bel2⟩
  go_wp2_with fail
  refine (toOptions_u os atc bc 0 os.length 0 _ hosc hlen hsm.each hnc).mono ?_
  rintro e w3 ⟨atg, bg, rfl, hosg, hng, bel3⟩
  go_wp2_with fail
  refine (zzApply_any os atg bg 0 os.length 0 _ hosg hlen hsm.tags).mono ?_
  rintro e w4 ⟨ao, cp, rfl, hown, bel4⟩
  have hosc3 := hosc.belowAll bel3
  have bel : Below w.heap.size w w3 := (bel_drewN (Below.refl _ w) nd).trans (bel2.trans (bel3.mono bel2.size))
  clear bel2 bel3 hosc h
  obtain ⟨g, hg⟩ : ∃ g, gather os = g := ⟨_, rfl⟩
  have HG : Hid (gather os = g) := hg
  rw [hg] at hown
  simp only [hg]
  clear hg
  go_wp2_with fail
  have hD0 := five_alloc w4 ao g cp
  have hown5 := hown.alloc (.cells #[.slice ao g.tags.length cp, .int .i64 g.att, .int .i64 g.win, .string g.grp, .bool g.grd] 82)
  have bel5 : Below w3.heap.size w3 (w4.alloc (.cells #[.slice ao g.tags.length cp, .int .i64 g.att, .int .i64 g.win, .string g.grp, .bool g.grd] 82)) := bel4.alloc bel4.size _
  have hDlt : w4.heap.size < (w4.alloc (.cells #[.slice ao g.tags.length cp, .int .i64 g.att, .int .i64 g.win, .string g.grp, .bool g.grd] 82)).heap.size := by simp
  generalize w4.alloc (.cells #[.slice ao g.tags.length cp, .int .i64 g.att, .int .i64 g.win, .string g.grp, .bool g.grd] 82) = W5 at *
  have osc5 := hosc3.belowAll bel5
  have hosc3k := hosc3
  have osg5 := hosg.belowAll bel5
  obtain ⟨D, hDe⟩ : ∃ D, w4.heap.size = D := ⟨_, rfl⟩
  rw [hDe] at hD0 hDlt ⊢
  clear hDe hown hosc3 bel4 hx
  have htc := hsm.tags
  -- loop 1: the sum of the numbers of tags
  go_loop [5, 6] (fun t i => ∃ k : Nat, k ≤ os.length ∧ i = .int .i64 k ∧ t = .int .i64 (tagCount (os.take k))) (fun _ i => os.length - (intOf i).toNat)
  case atStart => exact ⟨0, Nat.zero_le _, rfl, rfl⟩
  case round =>
  obtain ⟨k, hk, rfl, rfl⟩ := hrel
  by_cases hlt : k < os.length
  case pos =>
    have ha := osc5.addr (by omega)
    subst ha
    obtain ⟨⟨ta, tb, tz, tc, c0, hss, hna, hB⟩, c1, c2, c3, c4⟩ := osc5.cell k hlt
    simp only [Nat.zero_add] at c0
    have HTC : Hid (tagCount (os.take (k + 1)) = tagCount (os.take k) + os[k].tags.length) := tagCount_take_succ os k hlt
    have hb1 := tagCount_take_le os k
    have hb2 := hsm.each _ (List.getElem_mem hlt)
    go_wp2_with fail
    go_round
    case rel => exact ⟨k + 1, by omega, by go_num, by rw [HTC.out]; go_num⟩
    case measure => simp [intOf]; omega
  obtain rfl : k = os.length := by omega
  clear hlt hk
  rw [List.take_length]
  go_wp2_with (at_make; refine wpList_make_own _ rfl _ _ 31 rfl W5.heap.size 9 i0 (.string ByteArray.empty) 1 Try.underlying31 hi hz0 hz1 _ _ _ (tagCount os) rfl rfl (by omega) (by rw [hz2]; omega) (by unfold maxLen; omega) (Nat.le_refl _) ?_)
  intro w6 hown6 hgrow6
  have bel6 : Below W5.heap.size W5 w6 := (Below.refl _ _).grown hgrow6 (Nat.le_refl _) (by simp)
  clear hgrow6
  go_wp2_with fail
  -- loops 2 and 3: all tags, in order
  go_loopw [7, 8, 9] (fun v i _ wr => ∃ k : Nat, k ≤ os.length ∧ i = .int .i64 k ∧ wr.ownsRow W5.heap.size 9 1 v (allTags os k).length ((allTags os k).map Value.string) ∧ Below W5.heap.size W5 wr) (fun _ i _ _ => os.length - (intOf i).toNat)
  case atStart => exact ⟨0, Nat.zero_le _, rfl, hown6, bel6⟩
  case round =>
  clear hown6 bel6
  obtain ⟨k, hk, rfl, hown6, bel6⟩ := hrel
  by_cases hlt : k < os.length
  case pos =>
    have ha := osc5.addr (by omega)
    subst ha
    have HAT : Hid (allTags os (k + 1) = allTags os k ++ os[k].tags) := allTags_succ os k hlt
    have hal : (allTags os k).length + os[k].tags.length ≤ 1048576 := by
      rw [allTags_len, ← tagCount_take_succ os k hlt]; exact Nat.le_trans (tagCount_take_le _ _) htc
    have hopt := osc5.cell k hlt
    rw [Nat.zero_add] at hopt
    generalize os[k] = o at *
    generalize allTags os k = A0 at *
    go_wp2_with fail
    go_loopw [7, 9] (fun v i wr => ∃ m : Nat, m ≤ o.tags.length ∧ i = .int .i64 m ∧ wr.ownsRow W5.heap.size 9 1 v (A0 ++ o.tags.take m).length ((A0 ++ o.tags.take m).map Value.string) ∧ Below W5.heap.size W5 wr) (fun _ i _ => o.tags.length - (intOf i).toNat)
    case atStart => exact ⟨0, Nat.zero_le _, rfl, by simpa using hown6, bel6⟩
    case round =>
    clear hown6 bel6
    obtain ⟨m, hm, rfl, hown6, bel6⟩ := hrel
    obtain ⟨⟨ta, tb, tz, tc, c0, hss, hna, hB⟩, c1, c2, c3, c4⟩ := hopt.belowAll bel6
    by_cases hmt : m < o.tags.length
    case pos =>
      have hc := hss.cell m hmt
      have hat := hss.addr (by omega)
      subst hat
      have hmm : (A0 ++ o.tags.take m).length ≤ 1048576 := by simp; omega
      have HT1 : Hid (A0 ++ o.tags.take (m + 1) = (A0 ++ o.tags.take m) ++ [o.tags[m]]) := by
        show _ = _
        rw [List.append_assoc, ← List.take_succ_eq_append_getElem hmt]
      generalize A0 ++ o.tags.take m = T at *
      rw [Car.getD_of_lt _ _ hmt] at hc
      go_wp2_with (at_builtin; refine wpList_append_own _ rfl (.tmp 67) (.tmp 76) 31 rfl W5.heap.size 9 i0 (.string ByteArray.empty) 1 16 Try.underlying31 hi hz0 hz1 hz2 rfl (by decide) _ T.length (T.map Value.string) (by rfl) (hown6.alloc _) ⟨wr.heap.size, 0, none⟩ 1 1 [.string o.tags[m]] (by rfl) rfl ?d1 ?d2 ?d3 ?d4 ?d5 ?_)
      case d1 =>
        intro j u hj
        match j, hj with
        | 0, hj => simp at hj; subst hj; simp [Addr.add]
      case d2 => intro u hu; simp at hu; subst hu; rfl
      case d3 => unfold maxLen; omega
      case d4 => omega
      case d5 => have := bel6.size; simp; omega
      · intro v' w7 hown7 hgrow7 _
        have bel7 : Below W5.heap.size W5 w7 := (bel6.alloc bel6.size _).grown hgrow7 (by have := bel6.size; simp; omega) (fun b e => (hown6.lt b e).1)
        clear hown6 bel6 hgrow7
        go_wp2_with fail
        go_roundw
        case rel => exact ⟨m + 1, by omega, by go_num, by rw [HT1.out]; simpa using hown7, bel7⟩
        case measure => simp [intOf]; omega
    rw [List.take_of_length_le (by omega), ← HAT.out] at hown6
    go_wp2_with fail
    go_roundw
    case rel => exact ⟨k + 1, by omega, by go_num, hown6, bel6⟩
    case measure => simp [intOf]; omega
  obtain rfl : k = os.length := by omega
  clear hlt hk
  have hgt : allTags os os.length = g.tags := by rw [← HG.out, gather_tags]; simp [allTags]
  rw [hgt] at hown6
  clear hgt
  obtain ⟨bgt, sst5⟩ := ss_of_owns hown5
  obtain ⟨aw, cw, hv7⟩ := ownsRow_form hown6
  subst hv7
  obtain ⟨bw, ssw6⟩ := ss_of_owns hown6
  have hgl : g.tags.length ≤ 1048576 := by rw [← HG.out, gather_tags, tagCount_len]; exact htc
  have hDr := rangeAt_below hD0 bel6
  have tok1 : True := trivial
  go_wp2_with (have _t := tok1; refine wpList_load_mid (by rfl) 82 (.tmp 4) (by rfl) D 0 (by rfl) [.slice ao g.tags.length cp, .int .i64 g.att, .int .i64 g.win, .string g.grp, .bool g.grd] _ hDr Try.underlying82 rfl size82 ?_; clear tok1)
  refine (tags_any g.att g.win g.grp g.grd _ ao g.tags.length cp).mono ?_
  rintro e w7 ⟨rfl, bel7⟩
  have bel57 := bel6.trans (bel7.mono bel6.size)
  go_wp2_with fail
  refine (eqStrings_any g.tags ao aw g.tags.length g.tags.length bgt 0 cp bw 0 cw _ (sst5.belowAll bel57) (ssw6.belowAll bel7) (by omega) rfl rfl).mono ?_
  rintro e w8 ⟨rfl, nq8, rfl⟩
  have bel58 := bel_drewN bel57 nq8
  generalize w7.drewN nq8 = w8 at *
  clear hown6 ssw6 bel6 bel7 bel57 hDr
  go_upto_block 6 with fail
  go_cut [10, 11, 12] from 86 to 113 (fun a c i wx => a = .int .i64 g.att ∧ c = .int .i64 g.win ∧ (∃ z, i = .int .i64 z) ∧ ∃ n, wx = w8.drewN n)
  case first =>
    have osc8 := osc5.belowAll bel58
    go_wp2_with fail
    go_loopw [10, 11, 12] (fun a c i wr => ∃ (z : Int) (n : Nat), -1 ≤ z ∧ z < os.length ∧ i = .int .i64 z ∧ a = .int .i64 0 ∧ c = .int .i64 0 ∧ Hid ((gather (os.take (z + 1).toNat)).att = g.att ∧ (gather (os.take (z + 1).toNat)).win = g.win) ∧ wr = w8.drewN n) (fun _ _ i _ => (intOf i + 1).toNat)
    case atStart => exact ⟨_, 0, by omega, by omega, rfl, rfl, rfl, (by show _ ∧ _; rw [show ((os.length : Int) - 1 + 1).toNat = os.length by omega, List.take_length, HG.out]; exact ⟨rfl, rfl⟩), rfl⟩
    case round =>
    obtain ⟨z, nz, hz1', hz2', rfl, rfl, rfl, hfl, rfl⟩ := hrel
    by_cases hz : 0 ≤ z
    case neg =>
      obtain rfl : z = -1 := by omega
      have e1 : g.att = 0 := hfl.out.1.symm
      have e2 : g.win = 0 := hfl.out.2.symm
      have E1 : Hid (g.att = 0) := e1
      have E2 : Hid (g.win = 0) := e2
      clear e1 e2
      go_wp2_with fail
      go_meet
      exact ⟨by rw [E1.out], by rw [E2.out], ⟨_, rfl⟩, _, rfl⟩
    obtain ⟨p, rfl⟩ : ∃ p : Nat, z = p := ⟨z.toNat, by omega⟩
    have hlt : p < os.length := by omega
    have ha := osc8.addr (by omega)
    subst ha
    obtain ⟨_, c1, c2, c3, c4⟩ := osc8.cell p hlt
    simp only [Nat.zero_add] at c1 c2
    have hfl' : (gather (os.take (p + 1))).att = g.att ∧ (gather (os.take (p + 1))).win = g.win := hfl.out
    rw [gather_take_succ os p hlt] at hfl'
    have HFL : Hid ((step (gather (os.take p)) os[p]).att = g.att ∧ (step (gather (os.take p)) os[p]).win = g.win) := hfl'
    have HPP : Hid (((p : Int) - 1 + 1).toNat = p) := by show _ = _; omega
    clear hfl hfl'
    generalize os[p] = o at *
    have hi1 : (p : Int) < (os.length : Int) := by omega
    by_cases hatt : o.att = 0
    · have q1 : (o.att != 0) = false := by simp [hatt]
      by_cases hwin : o.win = 0
      · have q2 : (o.win != 0) = false := by simp [hwin]
        have HN : Hid ((gather (os.take p)).att = g.att ∧ (gather (os.take p)).win = g.win) := by
          have := HFL.out
          simp only [step, O.set, hatt, hwin] at this
          exact this
        clear hatt hwin
        go_wp2_with fail
        go_roundw
        case rel => exact ⟨_, _, by omega, by omega, rfl, rfl, rfl, (by show _ ∧ _; rw [HPP.out]; exact HN.out), rfl⟩
        case measure => simp [intOf]
      · have q2 : (o.win != 0) = true := by simp [hwin]
        have HN : Hid (o.att = g.att ∧ o.win = g.win) := by
          have hset : o.set = true := by simp [O.set, hwin]
          have := HFL.out
          simp only [step, hset, if_true] at this
          exact this
        clear hatt hwin
        go_wp2_with fail
        go_quiet (fail)
        go_wp2_with fail
        go_meet
        exact ⟨by rw [HN.out.1], by rw [HN.out.2], ⟨_, rfl⟩, _, World.drewN_drewN _ _ _⟩
    · have q1 : (o.att != 0) = true := by simp [hatt]
      have HN : Hid (o.att = g.att ∧ o.win = g.win) := by
        have hset : o.set = true := by simp [O.set, hatt]
        have := HFL.out
        simp only [step, hset, if_true] at this
        exact this
      clear hatt
      go_wp2_with fail
      go_quiet (fail)
      go_wp2_with fail
      go_meet
      exact ⟨by rw [HN.out.1], by rw [HN.out.2], ⟨_, rfl⟩, _, World.drewN_drewN _ _ _⟩
  case rest =>
  obtain ⟨rfl, rfl, ⟨z1, rfl⟩, n9, rfl⟩ := hcut
  have bel59 := bel_drewN bel58 n9
  generalize w8.drewN n9 = w9 at *
  clear bel58
  have hDr := rangeAt_below hD0 bel59
  have tok1 : True := trivial
  go_wp2_with (have _t := tok1; refine wpList_load_mid (by rfl) 82 (.tmp 4) (by rfl) D 0 (by rfl) [.slice ao g.tags.length cp, .int .i64 g.att, .int .i64 g.win, .string g.grp, .bool g.grd] _ hDr Try.underlying82 rfl size82 ?_; clear tok1)
  refine (flaky_any g.att g.win g.grp g.grd _ ao g.tags.length cp).mono ?_
  rintro e w10 ⟨rfl, bel10⟩
  have bel510 := bel59.trans (bel10.mono bel59.size)
  clear bel59 bel10 hDr
  go_upto_block 8 with fail
  go_cut [15, 16, 17] from 130 to 143 (fun a c i wx => a = .string g.grp ∧ c = .bool g.grd ∧ (∃ z, i = .int .i64 z) ∧ w10 = wx)
  case first =>
    have osc8 := osc5.belowAll bel510
    go_wp2_with fail
    go_loopw [15, 16, 17] (fun a c i wr => ∃ (z : Int), -1 ≤ z ∧ z < os.length ∧ i = .int .i64 z ∧ a = .string { data := #[] } ∧ c = .bool false ∧ Hid ((gather (os.take (z + 1).toNat)).grp = g.grp ∧ (gather (os.take (z + 1).toNat)).grd = g.grd) ∧ w10 = wr) (fun _ _ i _ => (intOf i + 1).toNat)
    case atStart => exact ⟨_, by omega, by omega, rfl, rfl, rfl, (by show _ ∧ _; rw [show ((os.length : Int) - 1 + 1).toNat = os.length by omega, List.take_length, HG.out]; exact ⟨rfl, rfl⟩), rfl⟩
    case round =>
    obtain ⟨z, hz1', hz2', rfl, rfl, rfl, hfl, rfl⟩ := hrel
    by_cases hz : 0 ≤ z
    case neg =>
      obtain rfl : z = -1 := by omega
      have E1 : Hid (g.grp = { data := #[] }) := hfl.out.1.symm
      have E2 : Hid (g.grd = false) := hfl.out.2.symm
      go_wp2_with fail
      go_meet
      exact ⟨by rw [E1.out], by rw [E2.out], ⟨_, rfl⟩, rfl⟩
    obtain ⟨p, rfl⟩ : ∃ p : Nat, z = p := ⟨z.toNat, by omega⟩
    have hlt : p < os.length := by omega
    have ha := osc8.addr (by omega)
    subst ha
    obtain ⟨_, c1, c2, c3, c4⟩ := osc8.cell p hlt
    simp only [Nat.zero_add] at c3 c4
    have hfl' : (gather (os.take (p + 1))).grp = g.grp ∧ (gather (os.take (p + 1))).grd = g.grd := hfl.out
    rw [gather_take_succ os p hlt] at hfl'
    have HFL : Hid ((step (gather (os.take p)) os[p]).grp = g.grp ∧ (step (gather (os.take p)) os[p]).grd = g.grd) := hfl'
    have HPP : Hid (((p : Int) - 1 + 1).toNat = p) := by show _ = _; omega
    clear hfl hfl' c1 c2
    generalize os[p] = o at *
    have hi1 : (p : Int) < (os.length : Int) := by omega
    obtain ⟨gs, hgs⟩ : ∃ gs, o.grd = gs := ⟨_, rfl⟩
    cases gs with
    | false =>
      have HN : Hid ((gather (os.take p)).grp = g.grp ∧ (gather (os.take p)).grd = g.grd) := by
        have := HFL.out
        simp only [step, hgs] at this
        exact this
      rw [hgs] at c4
      clear hgs
      go_wp2_with fail
      go_roundw
      case rel => exact ⟨_, by omega, by omega, rfl, rfl, rfl, (by show _ ∧ _; rw [HPP.out]; exact HN.out), (by first | rfl | trivial)⟩
      case measure => simp [intOf]
    | true =>
      have HN : Hid (o.grp = g.grp ∧ true = g.grd) := by
        have := HFL.out
        simp only [step, hgs, if_true] at this
        exact this
      rw [hgs] at c4
      clear hgs
      go_wp2_with fail
      go_meet
      exact ⟨by rw [HN.out.1], by rw [← HN.out.2], ⟨_, rfl⟩, rfl⟩
  case rest =>
  obtain ⟨rfl, rfl, ⟨z2, rfl⟩, rfl⟩ := hcut
  have hDr := rangeAt_below hD0 bel510
  have tok1 : True := trivial
  go_wp2_with (have _t := tok1; refine wpList_load_mid (by rfl) 82 (.tmp 4) (by rfl) D 0 (by rfl) [.slice ao g.tags.length cp, .int .i64 g.att, .int .i64 g.win, .string g.grp, .bool g.grd] _ hDr Try.underlying82 rfl size82 ?_; clear tok1)
  refine (group_any g.att g.win g.grp g.grd _ ao g.tags.length cp).mono ?_
  rintro e w11 ⟨rfl, bel11⟩
  have bel511 := bel510.trans (bel11.mono bel510.size)
  clear bel510 bel11 hDr
  have hDr := rangeAt_below hD0 bel511
  have tok1 : True := trivial
  go_wp2_with (have _t := tok1; refine wpList_load_mid (by rfl) 82 (.tmp 4) (by rfl) D 0 (by rfl) [.slice ao g.tags.length cp, .int .i64 g.att, .int .i64 g.win, .string g.grp, .bool g.grd] _ hDr Try.underlying82 rfl size82 ?_; clear tok1)
  refine (tags_any g.att g.win g.grp g.grd _ ao g.tags.length cp).mono ?_
  rintro e w12 ⟨rfl, bel12⟩
  have bel512 := bel511.trans (bel12.mono bel511.size)
  clear bel511 bel12 hDr
  go_wp2_with fail
  have hown12 := ownsRow_below hown5 bel512
  have bel312 : Below w3.heap.size w3 w12 := bel5.trans (bel512.mono bel5.size)
  have hst0 : Hid (∀ j, j < g.tags.length → (g.tags.getD j ByteArray.empty).size ≤ 1048576) := fun j hj => by
    rw [Car.getD_of_lt _ _ hj]
    have hm : g.tags[j] ∈ os.flatMap O.tags := by
      have := List.getElem_mem hj
      have e : g.tags = os.flatMap O.tags := by rw [← HG.out, gather_tags]
      rwa [← e]
    obtain ⟨o, ho, hs⟩ := List.mem_flatMap.1 hm
    exact hsm.strs o ho _ hs
  have hosc3r := hosc3k
  clear hown5 bel512 hD0 sst5 osc5 osg5 hosc3k
  -- loop 6: its own list is written
  go_loopw [21] (fun i wr => ∃ (k : Nat) (T : List ByteArray), k ≤ g.tags.length ∧ i = .int .i64 k ∧ T.length = g.tags.length ∧ Hid (∀ j, k ≤ j → j < g.tags.length → (T.getD j ByteArray.empty).size ≤ 1048576) ∧ wr.ownsRow (w3.heap.size + 2) 9 1 (.slice ao g.tags.length cp) g.tags.length (T.map Value.string) ∧ Below w3.heap.size w3 wr) (fun i _ => g.tags.length - (intOf i).toNat)
  case atStart => exact ⟨0, g.tags, Nat.zero_le _, rfl, rfl, (fun j _ hj => hst0.out j hj), hown12, bel312⟩
  case round =>
  clear hown12 bel312 hst0
  obtain ⟨k, T, hk, rfl, hTl, hsz, hownr, belr⟩ := hrel
  by_cases hlt : k < g.tags.length
  case pos =>
    obtain ⟨gb, rfl, hgb⟩ := owns_some hownr (by omega)
    have hkT : k < T.length := by omega
    have hc : wr.cell? ⟨gb, k, none⟩ = some (.string T[k]) := by rw [hownr.cellAt k (by omega)]; simp [hkT]
    have hf := hownr.frozenAt k
    have hs1 := hsz.out k (Nat.le_refl _) hlt
    rw [Car.getD_of_lt _ _ hkT] at hs1
    obtain ⟨NX, hNX⟩ : ∃ NX : ByteArray, T[k] ++ ({ data := #[124] } : ByteArray) = NX := ⟨_, rfl⟩
    obtain ⟨hown2, hgr2⟩ := hownr.stored k (.string NX)
    clear hgr2 hownr
    go_wp2_with fail
    go_roundw
    case rel =>
      refine ⟨k + 1, T.set k NX, by omega, by go_num, by simpa using hTl, (fun j hj hjl => ?_), by simpa [List.map_set] using hown2, belr.setCell (by simp only; omega) _⟩
      have := hsz.out j (by omega) hjl
      rwa [getD_set_ne T k j NX (by omega)]
    case measure => simp [intOf]; omega
  clear hownr hsz hTl
  have osc12 := hosc3r.below3 belr
  have osg12 := hosg.below3 belr
  go_wp2_with fail
  clear hlt hk
  generalize wr = V7 at *
  -- loop 7: no option's tags have turned
  go_loopw [22] (fun i wx => ∃ k : Nat, k ≤ os.length ∧ i = .int .i64 k ∧ Below V7.heap.size V7 wx) (fun i _ => os.length - (intOf i).toNat)
  case atStart => exact ⟨0, Nat.zero_le _, rfl, Below.refl _ _⟩
  case round =>
  obtain ⟨k7, hk7, rfl, belx⟩ := hrel
  by_cases hlt : k7 < os.length
  case neg =>
    go_wp2_with fail
    go_ret
    exact ⟨rfl, (bel.trans (belr.mono bel.size)).trans (belx.mono (Nat.le_trans bel.size belr.size))⟩
  have ha := osc12.addr (by omega)
  have hag := osg12.addr (by omega)
  subst ha
  subst hag
  have hi1 : (k7 : Int) < (os.length : Int) := by omega
  have hi0 : (0 : Int) ≤ (k7 : Int) := by omega
  obtain ⟨⟨ta, tb, tz, tc, c0, hss, hna, hB⟩, _, _, _, _⟩ := (osc12.cell k7 hlt).belowAll belx
  obtain ⟨⟨ga, gtb, gz, gc, g0, gss, gna, gB⟩, g1, g2, g3, g4⟩ := (osg12.cell k7 hlt).belowAll belx
  have hot := hsm.each _ (List.getElem_mem hlt)
  have hbc : bc < wr.heap.size := World.block_lt_of_cell? wr _ c0
  have hbg : bg < wr.heap.size := World.block_lt_of_cell? wr _ g0
  simp only [Nat.zero_add] at c0 g0 g1 g2 g3 g4
  generalize os[k7] = o at *
  have S0 : Six bc (k7 * 5) ta tc bg (k7 * 5) ga o gc wr.drew := ⟨c0, g0, g1, g2, g3, g4⟩
  have hssD : SS wr.drew ta tb tz o.tags := ss_drew hss
  have gssD : SS wr.drew ga gtb gz o.tags := ss_drew gss
  clear osc12 osg12 hosc3r hosg hss gss
  go_wp2_with fail
  go_region_held3 (fun w' => w'.cell? ⟨bc, k7 * 5, none⟩ = some (.slice ta o.tags.length tc) ∧ w'.cell? ⟨bg, k7 * 5, none⟩ = some (.slice ga o.tags.length gc) ∧ w'.cell? ⟨bg, k7 * 5 + 1, none⟩ = some (.int .i64 o.att) ∧ w'.cell? ⟨bg, k7 * 5 + 2, none⟩ = some (.int .i64 o.win) ∧ w'.cell? ⟨bg, k7 * 5 + 3, none⟩ = some (.string o.grp) ∧ w'.cell? ⟨bg, k7 * 5 + 4, none⟩ = some (.bool o.grd))
    (first | with_reducible exact S0 | with_reducible exact S3 | with_reducible exact S4)
    (first | (go_at_call 48; refine (tags_any _ _ _ _ _ _ _ _).mono ?_; rintro e w13 ⟨rfl, bel13⟩; have S3 := S0.keep bel13 hbc hbg) | (go_at_call 47; refine (eqStrings_any o.tags ga ta o.tags.length o.tags.length gtb gz gc tb tz tc _ (gssD.belowAll bel13) (hssD.belowAll bel13) (by omega) rfl rfl).mono ?_; rintro e w14 ⟨rfl, nq14, rfl⟩; have S4 : Six bc (k7 * 5) ta tc bg (k7 * 5) ga o gc (w13.drewN nq14) := S3))
  go_wp2_with fail
  go_roundw
  case rel => exact ⟨k7 + 1, by omega, by go_num, bel_drewN (belx.drew.trans (bel13.mono belx.size)) _⟩
  case measure => simp [intOf]; omega
end App
end Go.Proofs.Qxb6001673a
