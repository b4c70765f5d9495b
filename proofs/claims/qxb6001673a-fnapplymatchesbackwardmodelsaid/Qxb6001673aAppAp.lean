/- apply and ZZApply. -/
import Derived.Test.Qxb6001673aAppTo
import Derived.Laws.AppendOwnNone
namespace Go.Proofs.Qxb6001673a
open Go.ChangeShapes Go.WideShapes Go.ChangeAt Go.RowKit
set_option linter.unusedVariables false
set_option linter.unusedSimpArgs false
namespace App
open Car (nil31 info9)

/-- The variable 'all' of apply, and what it owns. -/
structure All (w wr : World) (B : Nat) (v : Value) (o : O) : Prop where
  range : wr.rangeAt B 0 [v, .int .i64 o.att, .int .i64 o.win, .string o.grp, .bool o.grd]
  blk : Blk wr B 82 5
  own : wr.ownsRow (B + 1) 9 1 v o.tags.length (o.tags.map Value.string)
  bel : Below w.heap.size w wr

theorem grown_range {w w' : World} {row : Option Nat} {b off : Nat} {cs : List Value} (h : w.rangeAt b off cs) (hg : w.grownBy w' row) (hne : some b ≠ row) : w'.rangeAt b off cs := fun j v hv => hg.cell (h j v hv) hne
theorem Blk.grown {w w' : World} {row : Option Nat} {C t n : Nat} (h : Blk w C t n) (hg : w.grownBy w' row) (hne : some C ≠ row) : Blk w' C t n := by
  have := h.lt
  obtain ⟨cur, hc, hn⟩ := h
  exact ⟨cur, by rw [hg.block C this hne]; exact hc, hn⟩
theorem Blk.alloc {w : World} {C t n : Nat} (h : Blk w C t n) (o : Obj) : Blk (w.alloc o) C t n := h.below (bel_alloc w o)

/-- What is known behind the append, in its world w2: the variable all's cells (its tags still the old slice v), the new tags v', the variable opt's cells. -/
structure Mid (w w2 : World) (A D : Nat) (v v' : Value) (g o : O) : Prop where
  ra : w2.rangeAt A 0 [v, .int .i64 g.att, .int .i64 g.win, .string g.grp, .bool g.grd]
  ro : w2.rangeAt D 1 [.int .i64 o.att, .int .i64 o.win, .string o.grp, .bool o.grd]
  ba : Blk w2 A 82 5
  br : Blk w2 w.heap.size 82 5
  own : w2.ownsRow (A + 1) 9 1 v' (g.tags ++ o.tags).length ((g.tags ++ o.tags).map Value.string)
  form : ∃ ao n cp, v' = .slice ao n cp
  bel : Below w.heap.size w w2
  lt : A < D ∧ D < w2.heap.size

theorem ownsRow_form {w : World} {base : Nat} {e : TypeId} {size : Nat} {v : Value} {n : Nat} {xs : List Value} (h : w.ownsRow base e size v n xs) : ∃ ao cp, v = .slice ao n cp := by
  rcases h.2 with ⟨rfl, rfl⟩ | ⟨g, cap, cur, rfl, _⟩
  · exact ⟨_, _, rfl⟩
  · exact ⟨_, _, rfl⟩

/-- Behind an append that laid the new tags. -/
theorem mid_of {w wr w2 : World} {v v' : Value} {g o : O} {ta : Option Addr} {tc : Nat} (hA : All w wr (w.heap.size + 1) v g) (hR : Blk wr w.heap.size 82 5)
    (hg : (wr.alloc (.cells #[.slice ta o.tags.length tc, .int .i64 o.att, .int .i64 o.win, .string o.grp, .bool o.grd] 82)).grownBy w2 v.ownBlock)
    (hown : w2.ownsRow (w.heap.size + 1 + 1) 9 1 v' (g.tags.length + o.tags.length) (g.tags.map Value.string ++ o.tags.map Value.string)) : Mid w w2 (w.heap.size + 1) wr.heap.size v v' g o := by
  have hlt := hA.blk.lt
  have hob : ∀ b, b ≤ w.heap.size + 1 ∨ wr.heap.size ≤ b → some b ≠ v.ownBlock := by
    intro b hb e
    have := hA.own.lt b e.symm
    omega
  refine ⟨grown_range (rangeAt_below hA.range (bel_alloc _ _)) hg (hob _ (by omega)), ?_, (hA.blk.alloc _).grown hg (hob _ (by omega)), (hR.alloc _).grown hg (hob _ (by omega)), ?_, ?_, ?_, hlt, ?_⟩
  · refine grown_range ?_ hg (hob _ (by omega))
    intro j u hu
    have hc : ∀ t, (wr.alloc (.cells #[.slice ta o.tags.length tc, .int .i64 o.att, .int .i64 o.win, .string o.grp, .bool o.grd] 82)).cell? ⟨wr.heap.size, t, none⟩ = (#[Value.slice ta o.tags.length tc, .int .i64 o.att, .int .i64 o.win, .string o.grp, .bool o.grd] : Array Value)[t]? := fun t => World.cell?_alloc_at _ _ _ _ rfl
    rw [hc]
    match j, hu with
    | 0, hu => simp at hu; subst hu; rfl
    | 1, hu => simp at hu; subst hu; rfl
    | 2, hu => simp at hu; subst hu; rfl
    | 3, hu => simp at hu; subst hu; rfl
  · simpa using hown
  · obtain ⟨ao, cp, e⟩ := ownsRow_form hown
    exact ⟨ao, _, cp, e⟩
  · have hs := hA.bel.size
    refine (hA.bel.alloc (by omega) _).grown hg (by simp; omega) (fun b e => ?_)
    have := hA.own.lt b e
    omega
  · have := hg.size
    simp at this
    omega

/-- The state of 'all' while the round writes it. -/
def St (w W : World) (A : Nat) (v' : Value) (tags : List ByteArray) (cs : List Value) : Prop :=
  W.rangeAt A 0 cs ∧ Blk W A 82 5 ∧ Blk W w.heap.size 82 5 ∧ W.ownsRow (A + 1) 9 1 v' tags.length (tags.map Value.string) ∧ Below w.heap.size w W

theorem St.put {w W : World} {A : Nat} {v' : Value} {tags : List ByteArray} {cs : List Value} (h : St w W A v' tags cs) (hA : w.heap.size ≤ A) (hl : cs.length ≤ 5) (j : Nat) (x : Value) : St w (W.setCell ⟨A, j, none⟩ x) A v' tags (cs.set j x) := by
  obtain ⟨h1, h2, h3, h4, h5⟩ := h
  refine ⟨fun t u hu => ?_, h2.set _ _ _, h3.set _ _ _, ownsRow_setCell_below h4 (by simp only; omega) x, h5.setCell hA x⟩
  rw [List.getElem?_set] at hu
  by_cases e : j = t
  · subst e
    rw [if_pos rfl] at hu
    split at hu
    · rename_i hjl
      obtain rfl := Option.some.inj hu
      have hth : W.there A j [x].length := fun t' ht' => by
        have : t' = 0 := by simpa using ht'
        subst this
        obtain ⟨u, hu⟩ := h2.cell (q := j + 0) (by omega)
        exact ⟨by rw [hu]; rfl, h2.frozen _⟩
      have := World.rangeAt_setCells_same W A j [x] hth 0 x rfl
      rw [Nat.zero_add]
      exact this
    · cases hu
  · rw [if_neg e] at hu
    have := World.cell?_setCells_out A [x] j W ⟨A, 0 + t, none⟩ (fun _ _ => by simp; omega)
    exact this.trans (h1 t u hu)

theorem Mid.st {w w2 : World} {A D : Nat} {v v' : Value} {g o : O} (h : Mid w w2 A D v v' g o) : St w w2 A v' (g.tags ++ o.tags) [v, .int .i64 g.att, .int .i64 g.win, .string g.grp, .bool g.grd] :=
  ⟨h.ra, h.ba, h.br, h.own, h.bel⟩

theorem all_of_st {w W : World} {A : Nat} {v' : Value} {g : O} (h : St w W A v' g.tags [v', .int .i64 g.att, .int .i64 g.win, .string g.grp, .bool g.grd]) : All w W A v' g ∧ Blk W w.heap.size 82 5 :=
  ⟨⟨h.1, h.2.1, h.2.2.2.1, h.2.2.2.2⟩, h.2.2.1⟩

/-- What apply leaves. -/
def Applied (os : List O) (w : World) (e : Ending) (w' : World) : Prop :=
  ∃ ao cp, e = .returned (.agg #[.slice ao (gather os).tags.length cp, .int .i64 (gather os).att, .int .i64 (gather os).win, .string (gather os).grp, .bool (gather os).grd]) ∧
    w'.ownsRow (w.heap.size + 2) 9 1 (.slice ao (gather os).tags.length cp) (gather os).tags.length ((gather os).tags.map Value.string) ∧ Below w.heap.size w w'

theorem apply_start (w : World) : All w ((w.alloc (.cells #[.slice none 0 0, .int .i64 0, .int .i64 0, .string { data := #[] }, .bool false] 82)).alloc (.cells #[.slice none 0 0, .int .i64 0, .int .i64 0, .string { data := #[] }, .bool false] 82)) (w.heap.size + 1) (.slice none 0 0) (gather []) ∧
    Blk ((w.alloc (.cells #[.slice none 0 0, .int .i64 0, .int .i64 0, .string { data := #[] }, .bool false] 82)).alloc (.cells #[.slice none 0 0, .int .i64 0, .int .i64 0, .string { data := #[] }, .bool false] 82)) w.heap.size 82 5 := by
  have hb : ∀ (w : World) (c : Array Value), Blk (w.alloc (.cells c 82)) w.heap.size 82 c.size := fun w c => ⟨c, heap_alloc_new w _, rfl⟩
  have h1 := hb w #[.slice none 0 0, .int .i64 0, .int .i64 0, .string { data := #[] }, .bool false]
  have h2 := hb (w.alloc (.cells #[.slice none 0 0, .int .i64 0, .int .i64 0, .string { data := #[] }, .bool false] 82)) #[.slice none 0 0, .int .i64 0, .int .i64 0, .string { data := #[] }, .bool false]
  have hs : (w.alloc (.cells #[.slice none 0 0, .int .i64 0, .int .i64 0, .string { data := #[] }, .bool false] 82)).heap.size = w.heap.size + 1 := by simp
  rw [hs] at h2
  refine ⟨⟨fun j u hu => ?_, h2, World.ownsRow_nil _ _ _ _, ((Below.refl _ _).alloc (Nat.le_refl _) _).alloc (by rw [hs]; omega) _⟩, h1.alloc _⟩
  have hc := fun t => World.cell?_alloc_at (w := w.alloc (.cells #[.slice none 0 0, .int .i64 0, .int .i64 0, .string { data := #[] }, .bool false] 82)) #[.slice none 0 0, .int .i64 0, .int .i64 0, .string { data := #[] }, .bool false] 82 (w.heap.size + 1) t hs.symm
  rw [hc]
  match j, hu with
  | 0, hu => simp at hu; subst hu; rfl
  | 1, hu => simp at hu; subst hu; rfl
  | 2, hu => simp at hu; subst hu; rfl
  | 3, hu => simp at hu; subst hu; rfl
  | 4, hu => simp at hu; subst hu; rfl

/-- 'out = append(out, src...)', out nil or the call's own, src whatever (nil too). -/
theorem wpList_append_own_any {P : Program} (w : World) {ops : Array Oper} {rest : List Oper} {o : Oper} {a : Act} {Q : Exit → Act → World → Prop} (hgd : o.guard = none) (s x : Operand) (t : TypeId)
    (ho : o.op = .call { callee := .builtin .append, args := #[s, x], argTypes := #[t, t] })
    (base : Nat) (e : TypeId) (i : TypeInfo) (z : Value) (size bytes : Nat) (ht : P.underlying t = some (.slice e)) (hi : P.info? e = some i) (hz : i.zero = some z)
    (hsize : i.size = size) (hby : i.bytes = bytes) (hzs : z.cells.size = size) (hsz : 0 < size)
    (v : Value) (n : Nat) (xs : List Value) (hs : a.eval s = v) (hown : w.ownsRow base e size v n xs)
    (ao : Option Addr) (m c : Nat) (news : List Value) (hx : a.eval x = .slice ao m c) (hnone : ao = none → m = 0 ∧ c = 0) (hl : news.length = m * size) (hnews : ∀ ad, ao = some ad → ∀ j u, news[j]? = some u → w.cell? (ad.add j) = some u) (h1 : ∀ u ∈ news, u.oneCell' = true)
    (h63 : n + m ≤ maxLen) (hbytes : (n + m) * bytes ≤ 140737488355328) (hbase : base ≤ w.heap.size)
    (h : ∀ v' w', w'.ownsRow base e size v' (n + m) (xs ++ news) → w.grownBy w' v.ownBlock → wpList P ops Q rest (a.put o.dst v') w') : wpList P ops Q (o :: rest) a w := by
  cases ao with
  | some ad => exact wpList_append_own w hgd s x t ho base e i z size bytes ht hi hz hsize hby hzs hsz v n xs hs hown ad m c news hx hl (hnews ad rfl) h1 h63 hbytes hbase (fun v' w' a b _ => h v' w' a b)
  | none =>
    obtain ⟨rfl, rfl⟩ := hnone rfl
    obtain rfl : news = [] := List.eq_nil_of_length_eq_zero (by simpa using hl)
    exact wpList_append_own_none hgd s x t ho base e i size ht hi v n xs hs hown hx (h v w (by simpa using hown) (World.grownBy.refl _ _))

theorem ownsRow_setCells_below {base : Nat} {e : TypeId} {size : Nat} {v : Value} {n : Nat} {xs : List Value} {C : Nat} {w : World} (h : w.ownsRow base e size v n xs) (hC : C < base) (q : Nat) (vs : List Value) : (w.setCells C q vs).ownsRow base e size v n xs := by
  induction vs generalizing w q with
  | nil => exact h
  | cons x vs ih => exact ih (ownsRow_setCell_below h (a := ⟨C, q, none⟩) hC x) (q + 1)

set_option maxRecDepth 100000 in
set_option maxHeartbeats 4000000 in
theorem apply_any (os : List O) (at0 : Option Addr) (b off cap B : Nat) (w : World) (h : OS w at0 b off B os) (hl : os.length ≤ 1048576) (htl : tagCount os ≤ 1048576) :
    Calls Try.prog 63 #[.slice at0 os.length cap] w (Applied os w) := by
  obtain ⟨i0, hi, hz0, hz1, hz2⟩ := info_parts info9
  go_enter Try.func63, Try.ntmps63
  go_wp2
  go_loopw [5, 8] (fun _ i wr => ∃ (k : Nat) (v : Value), k ≤ os.length ∧ i = .int .i64 k ∧ All w wr (w.heap.size + 1) v (gather (os.take k)) ∧ Blk wr w.heap.size 82 5) (fun _ i _ => os.length - (intOf i).toNat)
  case atStart => exact ⟨0, _, Nat.zero_le _, rfl, apply_start w⟩
  case round =>
    obtain ⟨k, v, hk, rfl, hAll, hR⟩ := hrel
    by_cases hlt : k < os.length
    · have ha := h.addr (by omega)
      subst ha
      obtain ⟨ta, tb, to, tc, hr0, hss0, hn, hB⟩ := (h.cell k hlt).range
      have hr := rangeAt_below hr0 hAll.bel
      have hss := hss0.belowAll hAll.bel
      have hgl : (gather (os.take k)).tags.length + os[k].tags.length ≤ 1048576 := by
        rw [gather_tags, tagCount_len, ← tagCount_take_succ os k hlt]; exact Nat.le_trans (tagCount_take_le _ _) htl
      have HG : Hid (gather (os.take (k + 1)) = step (gather (os.take k)) os[k]) := gather_take_succ os k hlt
      generalize hgo : os[k] = o at *
      clear hgo
      generalize hgg : gather (os.take k) = g at *
      clear hgg
      have a0 : wr.cell? ⟨w.heap.size + 1, 0, none⟩ = some v := hAll.range 0 _ rfl
      have hA1 : w.heap.size + 1 < wr.heap.size := hAll.blk.lt
      have tok1 : True := trivial
      go_wp2_with (first | (have _t := tok1; refine wpList_load_mid (by rfl) 82 (.tmp 10) (by rfl) b (off + k * 5) (by rfl) [.slice ta o.tags.length tc, .int .i64 o.att, .int .i64 o.win, .string o.grp, .bool o.grd] _ hr Try.underlying82 rfl size82 ?_; clear tok1) | (at_builtin; (refine wpList_append_own_any _ rfl (.tmp 13) (.tmp 15) 31 rfl (w.heap.size + 1 + 1) 9 i0 (.string ByteArray.empty) 1 16 Try.underlying31 hi hz0 hz1 hz2 rfl (by decide) v g.tags.length (g.tags.map Value.string) (by rfl) (hAll.own.alloc _) ta o.tags.length tc (o.tags.map Value.string) (by rfl) hn.out ?c0 ?c1 ?c2 ?c3 ?c4 ?c5 ?_)))
      case c0 => simp
      case c1 =>
        intro ad had j u hu
        obtain ⟨hj, hu2⟩ := List.getElem?_eq_some_iff.1 hu
        simp at hj hu2
        have ha := hss.addr (by omega)
        rw [had] at ha
        obtain rfl := Option.some.inj ha
        rw [Addr.add_lit, (bel_alloc wr _).cell (p := ⟨tb, to + j, none⟩) (hss.lt (by omega)), hss.cell j hj, ← hu2, Car.getD_of_lt _ j hj]
      case c2 => intro u hu; obtain ⟨_, _, rfl⟩ := List.mem_map.1 hu; rfl
      case c3 => unfold maxLen; omega
      case c4 => omega
      case c5 => simp; omega
      · intro v' w2 hown' hgrow
        have M := mid_of hAll hR hgrow hown'
        clear hown' hgrow
        have d1 : w2.cell? ⟨wr.heap.size, 1, none⟩ = some (.int .i64 o.att) := M.ro 0 _ rfl
        have d2 : w2.cell? ⟨wr.heap.size, 2, none⟩ = some (.int .i64 o.win) := M.ro 1 _ rfl
        have d3 : w2.cell? ⟨wr.heap.size, 3, none⟩ = some (.string o.grp) := M.ro 2 _ rfl
        have d4 : w2.cell? ⟨wr.heap.size, 4, none⟩ = some (.bool o.grd) := M.ro 3 _ rfl
        have b0 : w2.cell? ⟨w.heap.size + 1, 0, none⟩ = some v := M.ra 0 _ rfl
        have b1 : w2.cell? ⟨w.heap.size + 1, 1, none⟩ = some (.int .i64 g.att) := M.ra 1 _ rfl
        have b2 : w2.cell? ⟨w.heap.size + 1, 2, none⟩ = some (.int .i64 g.win) := M.ra 2 _ rfl
        have b3 : w2.cell? ⟨w.heap.size + 1, 3, none⟩ = some (.string g.grp) := M.ra 3 _ rfl
        have b4 : w2.cell? ⟨w.heap.size + 1, 4, none⟩ = some (.bool g.grd) := M.ra 4 _ rfl
        have f0 := M.ba.frozen 0
        have f1 := M.ba.frozen 1
        have f2 := M.ba.frozen 2
        have f3 := M.ba.frozen 3
        have f4 := M.ba.frozen 4
        have hAD : ¬ wr.heap.size = w.heap.size + 1 := by omega
        have ST := M.st
        obtain ⟨ao', n', cp', hv'⟩ := M.form
        subst hv'
        clear M a0 hr hss hss0 hr0 hn hB h hAll hR
        have hAA : w.heap.size ≤ w.heap.size + 1 := by omega
        have P0 := ST.put hAA (by simp) 0 (.slice ao' n' cp')
        obtain ⟨gs, hgs⟩ : ∃ gs, o.grd = gs := ⟨_, rfl⟩
        by_cases hatt : o.att = 0
        · have q1 : (o.att == 0) = true := by simp [hatt]
          by_cases hwin : o.win = 0
          · have q2 : (o.win == 0) = true := by simp [hwin]
            have hset : o.set = false := by simp [O.set, hatt, hwin]
            cases gs with
            | false =>
              have HS : Hid (step g o = { tags := g.tags ++ o.tags, att := g.att, win := g.win, grp := g.grp, grd := g.grd }) := by unfold step; rw [hset, hgs]; rfl
              clear hset hatt hwin
              rw [hgs] at d4
              clear hgs
              go_wp2_with fail
              go_roundw
              case rel => exact ⟨k + 1, _, by omega, by go_num, by rw [HG.out, HS.out]; exact all_of_st P0⟩
              case measure => simp [intOf]; omega
            | true =>
              have HS : Hid (step g o = { tags := g.tags ++ o.tags, att := g.att, win := g.win, grp := o.grp, grd := true }) := by unfold step; rw [hset, hgs]; rfl
              clear hset hatt hwin
              rw [hgs] at d4
              clear hgs
              go_wp2_with fail
              go_roundw
              case rel => exact ⟨k + 1, _, by omega, by go_num, by rw [HG.out, HS.out]; exact all_of_st ((P0.put hAA (by simp) 3 (.string o.grp)).put hAA (by simp) 4 (.bool true))⟩
              case measure => simp [intOf]; omega
          · have q2 : (o.win == 0) = false := by simp [hwin]
            have hset : o.set = true := by simp [O.set, hwin]
            cases gs with
            | false =>
              have HS : Hid (step g o = { tags := g.tags ++ o.tags, att := o.att, win := o.win, grp := g.grp, grd := g.grd }) := by unfold step; rw [hset, hgs]; rfl
              clear hset hatt hwin
              rw [hgs] at d4
              clear hgs
              go_wp2_with fail
              go_roundw
              case rel => exact ⟨k + 1, _, by omega, by go_num, by rw [HG.out, HS.out]; exact all_of_st ((P0.put hAA (by simp) 1 (.int .i64 o.att)).put hAA (by simp) 2 (.int .i64 o.win))⟩
              case measure => simp [intOf]; omega
            | true =>
              have HS : Hid (step g o = { tags := g.tags ++ o.tags, att := o.att, win := o.win, grp := o.grp, grd := true }) := by unfold step; rw [hset, hgs]; rfl
              clear hset hatt hwin
              rw [hgs] at d4
              clear hgs
              go_wp2_with fail
              go_roundw
              case rel => exact ⟨k + 1, _, by omega, by go_num, by rw [HG.out, HS.out]; exact all_of_st ((((P0.put hAA (by simp) 1 (.int .i64 o.att)).put hAA (by simp) 2 (.int .i64 o.win)).put hAA (by simp) 3 (.string o.grp)).put hAA (by simp) 4 (.bool true))⟩
              case measure => simp [intOf]; omega
        · have q1 : (o.att == 0) = false := by simp [hatt]
          have hset : o.set = true := by simp [O.set, hatt]
          cases gs with
          | false =>
            have HS : Hid (step g o = { tags := g.tags ++ o.tags, att := o.att, win := o.win, grp := g.grp, grd := g.grd }) := by unfold step; rw [hset, hgs]; rfl
            clear hset hatt
            rw [hgs] at d4
            clear hgs
            go_wp2_with fail
            go_roundw
            case rel => exact ⟨k + 1, _, by omega, by go_num, by rw [HG.out, HS.out]; exact all_of_st ((P0.put hAA (by simp) 1 (.int .i64 o.att)).put hAA (by simp) 2 (.int .i64 o.win))⟩
            case measure => simp [intOf]; omega
          | true =>
            have HS : Hid (step g o = { tags := g.tags ++ o.tags, att := o.att, win := o.win, grp := o.grp, grd := true }) := by unfold step; rw [hset, hgs]; rfl
            clear hset hatt
            rw [hgs] at d4
            clear hgs
            go_wp2_with fail
            go_roundw
            case rel => exact ⟨k + 1, _, by omega, by go_num, by rw [HG.out, HS.out]; exact all_of_st ((((P0.put hAA (by simp) 1 (.int .i64 o.att)).put hAA (by simp) 2 (.int .i64 o.win)).put hAA (by simp) 3 (.string o.grp)).put hAA (by simp) 4 (.bool true))⟩
            case measure => simp [intOf]; omega
    · rw [List.take_of_length_le (by omega)] at hAll
      obtain ⟨ao, cp, rfl⟩ := ownsRow_form hAll.own
      have hth : wr.there w.heap.size 0 5 := hR.there (by omega)
      have hown := hAll.own
      have hbel := hAll.bel
      have hr := hAll.range
      obtain ⟨g, hg⟩ : ∃ g, gather os = g := ⟨_, rfl⟩
      have HGG : Hid (gather os = g) := hg
      rw [hg] at hAll hown hr
      clear hg
      obtain ⟨W2, hW2⟩ : ∃ W2, wr.setCells w.heap.size 0 (#[Value.slice ao g.tags.length cp, .int .i64 g.att, .int .i64 g.win, .string g.grp, .bool g.grd] : Array Value).toList = W2 := ⟨_, rfl⟩
      have hrr : W2.rangeAt w.heap.size 0 [.slice ao g.tags.length cp, .int .i64 g.att, .int .i64 g.win, .string g.grp, .bool g.grd] := by rw [← hW2]; exact World.rangeAt_setCells_same wr _ 0 _ hth
      have r0 : W2.cell? ⟨w.heap.size, 0, none⟩ = some (.slice ao g.tags.length cp) := hrr 0 _ rfl
      have r1 : W2.cell? ⟨w.heap.size, 1, none⟩ = some (.int .i64 g.att) := hrr 1 _ rfl
      have r2 : W2.cell? ⟨w.heap.size, 2, none⟩ = some (.int .i64 g.win) := hrr 2 _ rfl
      have r3 : W2.cell? ⟨w.heap.size, 3, none⟩ = some (.string g.grp) := hrr 3 _ rfl
      have r4 : W2.cell? ⟨w.heap.size, 4, none⟩ = some (.bool g.grd) := hrr 4 _ rfl
      have hown2 : W2.ownsRow (w.heap.size + 2) 9 1 (.slice ao g.tags.length cp) g.tags.length (g.tags.map Value.string) := by rw [← hW2]; exact ownsRow_setCells_below hown (by omega) _ _
      have hbel2 : Below w.heap.size w W2 := by rw [← hW2]; exact below_setCells (Nat.le_refl _) _ _ _ hbel
      clear hAll hR
      have tok1 : True := trivial
      have tok2 : True := trivial
      go_wp2_with (first | (have _t := tok1; refine wpList_load_mid (by rfl) 82 (.tmp 3) (by rfl) (w.heap.size + 1) 0 (by rfl) [.slice ao g.tags.length cp, .int .i64 g.att, .int .i64 g.win, .string g.grp, .bool g.grd] _ hr Try.underlying82 rfl size82 ?_; clear tok1) | (have _t := tok2; refine wpList_store_mid (by rfl) 82 (.tmp 2) (.tmp 32) (by rfl) w.heap.size 0 #[.slice ao g.tags.length cp, .int .i64 g.att, .int .i64 g.win, .string g.grp, .bool g.grd] (by rfl) (by rfl) hth size82 (one5 _ _ _ _ _ _ _) ?_; rw [hW2]; clear tok2))
      exact bodyPost_ret (v := .agg #[.slice ao g.tags.length cp, .int .i64 g.att, .int .i64 g.win, .string g.grp, .bool g.grd]) (by simp [results, Try.results63, go_sem, r0, r1, r2, r3, r4]) rfl (by unfold Applied; rw [HGG.out]; exact ⟨ao, cp, rfl, hown2, hbel2⟩)

theorem ownsRow_mono {w : World} {base base' : Nat} {e : TypeId} {size : Nat} {v : Value} {n : Nat} {xs : List Value} (h : w.ownsRow base e size v n xs) (hb : base' ≤ base) : w.ownsRow base' e size v n xs := by
  refine ⟨h.1, ?_⟩
  rcases h.2 with h0 | ⟨g, cap, cur, hv, hg, r⟩
  · exact .inl h0
  · exact .inr ⟨g, cap, cur, hv, Nat.le_trans hb hg, r⟩

set_option maxHeartbeats 400000 in
theorem zzApply_any (os : List O) (at0 : Option Addr) (b off cap B : Nat) (w : World) (h : OS w at0 b off B os) (hl : os.length ≤ 1048576) (htl : tagCount os ≤ 1048576) :
    Calls Try.prog 46 #[.slice at0 os.length cap] w (Applied os w) := by
  go_enter Try.func46, Try.ntmps46
  go_wp2_with fail
  refine (apply_any os at0 b off cap B _ (h.belowAll (bel_alloc _ _)) hl htl).mono ?_
  rintro e w1 ⟨ao, cp, rfl, hown, hbel⟩
  have hR0 : Blk (w.alloc (.cells #[.slice none 0 0, .int .i64 0, .int .i64 0, .string { data := #[] }, .bool false] 82)) w.heap.size 82 5 := ⟨_, heap_alloc_new w _, rfl⟩
  have hR := hR0.below hbel
  have hbl := (bel_alloc w _).trans (hbel.mono (by simp))
  have hw1 : (w.alloc (.cells #[.slice none 0 0, .int .i64 0, .int .i64 0, .string { data := #[] }, .bool false] 82)).heap.size = w.heap.size + 1 := by simp
  rw [hw1] at hown
  clear hbel hR0 hw1
  obtain ⟨g, hg⟩ : ∃ g, gather os = g := ⟨_, rfl⟩
  have HGG : Hid (gather os = g) := hg
  rw [hg] at hown
  simp only [hg]
  clear hg
  have hth : w1.there w.heap.size 0 5 := hR.there (by omega)
  obtain ⟨W2, hW2⟩ : ∃ W2, w1.setCells w.heap.size 0 (#[Value.slice ao g.tags.length cp, .int .i64 g.att, .int .i64 g.win, .string g.grp, .bool g.grd] : Array Value).toList = W2 := ⟨_, rfl⟩
  have hrr : W2.rangeAt w.heap.size 0 [.slice ao g.tags.length cp, .int .i64 g.att, .int .i64 g.win, .string g.grp, .bool g.grd] := by rw [← hW2]; exact World.rangeAt_setCells_same w1 _ 0 _ hth
  have r0 : W2.cell? ⟨w.heap.size, 0, none⟩ = some (.slice ao g.tags.length cp) := hrr 0 _ rfl
  have r1 : W2.cell? ⟨w.heap.size, 1, none⟩ = some (.int .i64 g.att) := hrr 1 _ rfl
  have r2 : W2.cell? ⟨w.heap.size, 2, none⟩ = some (.int .i64 g.win) := hrr 2 _ rfl
  have r3 : W2.cell? ⟨w.heap.size, 3, none⟩ = some (.string g.grp) := hrr 3 _ rfl
  have r4 : W2.cell? ⟨w.heap.size, 4, none⟩ = some (.bool g.grd) := hrr 4 _ rfl
  have hown2 : W2.ownsRow (w.heap.size + 2) 9 1 (.slice ao g.tags.length cp) g.tags.length (g.tags.map Value.string) := by rw [← hW2]; exact ownsRow_mono (ownsRow_setCells_below hown (by omega) _ _) (by omega)
  have hbel2 : Below w.heap.size w W2 := by rw [← hW2]; exact below_setCells (Nat.le_refl _) _ _ _ hbl
  clear hown hbl hR
  have tok2 : True := trivial
  go_wp2_with (have _t := tok2; refine wpList_store_mid (by rfl) 82 (.tmp 2) (.tmp 4) (by rfl) w.heap.size 0 #[.slice ao g.tags.length cp, .int .i64 g.att, .int .i64 g.win, .string g.grp, .bool g.grd] (by rfl) (by rfl) hth size82 (one5 _ _ _ _ _ _ _) ?_; rw [hW2]; clear tok2)
  exact bodyPost_ret (v := .agg #[.slice ao g.tags.length cp, .int .i64 g.att, .int .i64 g.win, .string g.grp, .bool g.grd]) (by simp [results, Try.results46, go_sem, r0, r1, r2, r3, r4]) rfl (by unfold Applied; rw [HGG.out]; exact ⟨ao, cp, rfl, hown2, hbel2⟩)
end App
end Go.Proofs.Qxb6001673a
