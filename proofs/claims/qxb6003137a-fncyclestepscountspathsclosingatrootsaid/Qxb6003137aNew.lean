/- ZZNewStepBound: five makes and two calls in whatever order. -/
import Derived.Test.Qxb6003137aBound
import Derived.Test.Qxb6003137aMask
import Derived.Deep.RegionWith
namespace Go.Proofs.Qxb6003137a
open Go.ChangeShapes Go.WideShapes Go.ChangeAt Go.RowKit
set_option linter.unusedVariables false
set_option linter.unusedSimpArgs false
namespace CY

theorem info3 : (Try.prog.info? 3).map (fun i => (i.zero, i.size, i.bytes)) = some (some (.int .i64 0), 1, 8) := by kernel_rfl

/-- x is a new row of n zeros, the tag's own. -/
def Has (w0 w : World) (own : Nat → Nat) (tag : Nat) (x : Value) (e n : Nat) (z : Value) : Prop := ∃ g, x = .slice (some ⟨g, 0, none⟩) n n ∧ w0.heap.size ≤ g ∧ own g = tag ∧ w.rowIs g e n (fun _ => z)
/-- x is a copy of the rows G. -/
def HasG (w0 w : World) (own : Nat → Nat) (x : Value) (G : List (List Int)) : Prop := ∃ lo hi, x = .slice (some ⟨lo, 0, none⟩) G.length G.length ∧ w0.heap.size ≤ lo ∧ GR w lo hi (some ⟨lo, 0, none⟩) lo 0 G ∧ ∀ g, lo ≤ g → g < hi → own g = 1

theorem Has.more {w0 w w' : World} {own : Nat → Nat} {tag : Nat} {x : Value} {e n : Nat} {z : Value} (h : Has w0 w own tag x e n z) (hb : Below w.heap.size w w') (t : Nat) : Has w0 w' (ext own w.heap.size t) tag x e n z := by
  obtain ⟨g, h1, h2, h3, h4⟩ := h
  exact ⟨g, h1, h2, by rw [ext_old own t h4.lt]; exact h3, rowIs_of_heap h4 (hb.block _ h4.lt)⟩
theorem HasG.more {w0 w w' : World} {own : Nat → Nat} {x : Value} {G : List (List Int)} (h : HasG w0 w own x G) (hb : Below w.heap.size w w') (t : Nat) : HasG w0 w' (ext own w.heap.size t) x G := by
  obtain ⟨lo, hi, h1, h2, h3, h4⟩ := h
  exact ⟨lo, hi, h1, h2, h3.belowAll hb, fun g g1 g2 => by rw [ext_old own t (Nat.lt_of_lt_of_le g2 h3.top)]; exact h4 g g1 g2⟩
theorem Has.made (w0 w : World) (own : Nat → Nat) (tag e n : Nat) (z : Value) (hb : Below w0.heap.size w0 w) : Has w0 (w.alloc (.cells (madeCells #[z] n) e)) (ext own w.heap.size tag) tag (.slice (some ⟨w.heap.size, 0, none⟩) n n) e n z :=
  ⟨_, rfl, hb.size, ext_new own tag (Nat.le_refl _), World.rowIs_made _ _ _ _⟩

theorem Has.form {w0 w : World} {own : Nat → Nat} {tag : Nat} {x : Value} {e n : Nat} {z : Value} (h : Has w0 w own tag x e n z) : ∃ a, x = .slice a n n := by
  obtain ⟨g, h1, _⟩ := h
  exact ⟨_, h1⟩
theorem HasG.form {w0 w : World} {own : Nat → Nat} {x : Value} {G : List (List Int)} (h : HasG w0 w own x G) : ∃ a, x = .slice a G.length G.length := by
  obtain ⟨lo, hi, h1, _⟩ := h
  exact ⟨_, h1⟩
/-- What has been made so far. -/
def CC (w0 w : World) (own : Nat → Nat) (G : List (List Int)) (b1 b3 b6 b8 b10 b12 b14 : Bool) (x11 x13 x16 x18 x20 x22 x24 : Value) : Prop :=
  Below w0.heap.size w0 w ∧ (b1 = true → HasG w0 w own x11 G) ∧ (b3 = true → x13 = .slice none 0 0) ∧ (b6 = true → Has w0 w own 6 x16 21 G.length (.int .i32 0)) ∧ (b8 = true → Has w0 w own 8 x18 3 G.length (.int .i64 0)) ∧ (b10 = true → Has w0 w own 10 x20 3 G.length (.int .i64 0)) ∧ (b12 = true → Has w0 w own 12 x22 3 G.length (.int .i64 0)) ∧ (b14 = true → Has w0 w own 14 x24 3 G.length (.int .i64 0))

def frame12 (s0 : Value) (lim n : Int) (x11 x13 x16 x18 x20 x22 x24 : Value) : Act :=
  { tmps := #[s0, .slice none 0 0, .int .i64 lim, undef, undef, undef, .pointer none, .int .i64 n, s0, .int .i64 n, s0, x11, .slice none 0 0, x13, .int .i64 lim, .int .i64 n, x16, .int .i64 n, x18, .int .i64 n, x20, .int .i64 n, x22, .int .i64 n, x24, undef, undef], defers := [] }

def JJ (w0 : World) (s0 : Value) (lim : Int) (G : List (List Int)) (b1 b3 b6 b8 b10 b12 b14 : Bool) (a : Act) (w : World) : Prop :=
  ∃ own x11 x13 x16 x18 x20 x22 x24, a = frame12 s0 lim G.length x11 x13 x16 x18 x20 x22 x24 ∧ CC w0 w own G b1 b3 b6 b8 b10 b12 b14 x11 x13 x16 x18 x20 x22 x24

/-- A new bound over G. -/
def New (w : World) (G : List (List Int)) (lim : Int) (e : Ending) (w' : World) : Prop := ∃ own p gl gp gn lo hi f, e = .returned (.pointer (some ⟨p, 0, none⟩)) ∧ BD w' own w.heap.size p gl gp gn lo hi f G (fun _ => 0) (fun _ => 0) (fun _ => 0) [] [] ∧ f 2 = .int .i64 lim ∧ f 4 = .int .i64 0 ∧ Below w.heap.size w w'

/-- The fields, as they are built. -/
def fields (x11 x13 : Value) (lim : Int) (x16 x18 x20 x22 x24 : Value) : Array Value := #[x11, x13, .int .i64 lim, .slice none 0 0, .int .i64 0, x16, .slice none 0 0, .slice none 0 0, x18, x20, .slice none 0 0, x22, x24, .int .i64 0]

theorem CC.done {w0 w : World} {own : Nat → Nat} {G : List (List Int)} {lim : Int} {x11 x13 x16 x18 x20 x22 x24 : Value} (h : CC w0 w own G true true true true true true true x11 x13 x16 x18 x20 x22 x24) : New w0 G lim (.returned (.pointer (some ⟨w.heap.size, 0, none⟩))) (w.alloc (.cells (fields x11 x13 lim x16 x18 x20 x22 x24) 48)) := by
  obtain ⟨hb, h1, h3, h6, h8, h10, h12, h14⟩ := h
  have ha : Below w.heap.size w (w.alloc (.cells (fields x11 x13 lim x16 x18 x20 x22 x24) 48)) := (Below.refl _ _).alloc (Nat.le_refl _) _
  obtain ⟨lo, hi, rfl, hlo, hgr, hte⟩ := (h1 rfl).more ha 30
  obtain ⟨gl, rfl, hl1, hl2, hl3⟩ := (h6 rfl).more ha 30
  obtain ⟨gp, rfl, hp1, hp2, hp3⟩ := (h8 rfl).more ha 30
  obtain ⟨gn, rfl, hn1, hn2, hn3⟩ := (h10 rfl).more ha 30
  refine ⟨ext own w.heap.size 30, w.heap.size, gl, gp, gn, lo, hi, fun k => (fields (.slice (some ⟨lo, 0, none⟩) G.length G.length) x13 lim (.slice (some ⟨gl, 0, none⟩) G.length G.length) (.slice (some ⟨gp, 0, none⟩) G.length G.length) (.slice (some ⟨gn, 0, none⟩) G.length G.length) x22 x24).getD k undef, rfl, ⟨⟨ext_new own 30 (Nat.le_refl _), hl2, hp2, hn2, hte, hb.size, hl1, hp1, hn1⟩, World.rowIs_alloc w _ 48 _ (fun i hi => by rw [Array.getD, dif_pos hi, Array.getElem?_eq_getElem hi]; rfl), hgr, hl3, hp3, hn3, World.ownsRow_nil _ _ _ _, World.ownsRow_nil _ _ _ _, rfl, rfl, rfl, rfl, (fun g hg => by cases hg), (fun g hg => by cases hg)⟩, rfl, rfl, hb.trans (ha.mono hb.size)⟩

set_option maxHeartbeats 4000000 in
set_option maxRecDepth 100000 in
theorem new12 (G : List (List Int)) (b lo hi c0 : Nat) (lim : Int) (w : World) (h : GR w lo hi (some ⟨b, 0, none⟩) b 0 G) (hl : G.length ≤ 4096) (hs : Short G) :
    Calls Try.prog 12 #[.slice (some ⟨b, 0, none⟩) G.length c0, .slice none 0 0, .int .i64 lim] w (New w G lim) := by
  have HS : Hid (Short G) := hs
  have HG : Hid (GR w lo hi (some ⟨b, 0, none⟩) b 0 G) := h
  clear hs h
  go_enter Try.func12, Try.ntmps12
  go_wp2_with fail
  refine wp_region_any (by kernel_rfl) ?_
  change wpAny _ _ _ _ _ _ _ (World.drew _)
  refine wpAny_take (i := 0) (v := ?_) rfl (by kernel_rfl) (by kernel_rfl) (by kernel_rfl) (fun _ _ _ h => h) (Or.inl ⟨by rfl, by intro w; go_simp; try with_reducible rfl⟩) ?_
  refine wpAny_take (i := 2) (v := ?_) rfl (by kernel_rfl) (by kernel_rfl) (by kernel_rfl) (fun _ _ _ h => h) (Or.inl ⟨by rfl, by intro w; go_simp; try with_reducible rfl⟩) ?_
  refine wpAny_take (i := 4) (v := ?_) rfl (by kernel_rfl) (by kernel_rfl) (by kernel_rfl) (fun _ _ _ h => h) (Or.inl ⟨by rfl, by intro w; go_simp; try with_reducible rfl⟩) ?_
  refine wpAny_take (i := 5) (v := ?_) rfl (by kernel_rfl) (by kernel_rfl) (by kernel_rfl) (fun _ _ _ h => h) (Or.inl ⟨by rfl, by intro w; go_simp; try with_reducible rfl⟩) ?_
  refine wpAny_take (i := 7) (v := ?_) rfl (by kernel_rfl) (by kernel_rfl) (by kernel_rfl) (fun _ _ _ h => h) (Or.inl ⟨by rfl, by intro w; go_simp; try with_reducible rfl⟩) ?_
  refine wpAny_take (i := 9) (v := ?_) rfl (by kernel_rfl) (by kernel_rfl) (by kernel_rfl) (fun _ _ _ h => h) (Or.inl ⟨by rfl, by intro w; go_simp; try with_reducible rfl⟩) ?_
  refine wpAny_take (i := 11) (v := ?_) rfl (by kernel_rfl) (by kernel_rfl) (by kernel_rfl) (fun _ _ _ h => h) (Or.inl ⟨by rfl, by intro w; go_simp; try with_reducible rfl⟩) ?_
  refine wpAny_take (i := 13) (v := ?_) rfl (by kernel_rfl) (by kernel_rfl) (by kernel_rfl) (fun _ _ _ h => h) (Or.inl ⟨by rfl, by intro w; go_simp; try with_reducible rfl⟩) ?_
  obtain ⟨w0, hw0⟩ : ∃ w0 : World, w0 = w := ⟨_, rfl⟩
  have hb0 : Below w0.heap.size w0 w.drew := by rw [hw0]; exact ⟨rfl, rfl, rfl, Nat.le_refl _, fun _ _ => rfl⟩
  have hG0 : GR w0 lo hi (some ⟨b, 0, none⟩) b 0 G := by rw [hw0]; exact HG.out
  have HG0 : Hid (GR w0 lo hi (some ⟨b, 0, none⟩) b 0 G) := hG0
  refine wpAny_masks (JJ w0 (.slice (some ⟨b, 0, none⟩) G.length c0) lim G) ?_ ?_ ?_ ?_ ?_ ?_ ?_ ?_ ?_ 7 false false false false false false false _ _ rfl ⟨fun _ => 0, undef, undef, undef, undef, undef, undef, undef, rfl, hb0, by simp, by simp, by simp, by simp, by simp, by simp, by simp⟩
  · intro b1 b3 b6 b8 b10 b12 b14
    cases b1 <;> cases b3 <;> cases b6 <;> cases b8 <;> cases b10 <;> cases b12 <;> cases b14 <;> kernel_rfl
  · intro b3 b6 b8 b10 b12 b14 a w hJ
    obtain ⟨own, x11, x13, x16, x18, x20, x22, x24, rfl, hb, h1, h3, h6, h8, h10, h12, h14⟩ := hJ
    have HC : Hid (Calls Try.prog 24 #[.slice (some ⟨b, 0, none⟩) G.length c0] w fun e w' => ∃ x, e = .returned x ∧ JJ w0 (.slice (some ⟨b, 0, none⟩) G.length c0) lim G true b3 b6 b8 b10 b12 b14 (frame12 (.slice (some ⟨b, 0, none⟩) G.length c0) lim G.length x x13 x16 x18 x20 x22 x24) w') := by
      refine (verts24 G b 0 lo hi c0 w (HG0.out.belowAll hb) hl HS.out).mono fun e w' ⟨he, hg, hbl⟩ => ?_
      exact ⟨_, he, ext own w.heap.size 1, _, _, _, _, _, _, _, rfl, hb.trans (hbl.mono hb.size), fun _ => ⟨_, _, rfl, hb.size, hg, fun g g1 _ => ext_new own 1 g1⟩, h3, fun h => (h6 h).more hbl 1, fun h => (h8 h).more hbl 1, fun h => (h10 h).more hbl 1, fun h => (h12 h).more hbl 1, fun h => (h14 h).more hbl 1⟩
    clear h1 h3 h6 h8 h10 h12 h14
    unfold frame12
    refine wpOp_step rfl (fun K hK => ?_)
    go_simp
    refine HC.out.mono ?_
    rintro e w' ⟨x, rfl, hX⟩
    have HX : Hid (JJ w0 (.slice (some ⟨b, 0, none⟩) G.length c0) lim G true b3 b6 b8 b10 b12 b14 (frame12 (.slice (some ⟨b, 0, none⟩) G.length c0) lim G.length x x13 x16 x18 x20 x22 x24) w') := hX
    clear hX HC
    go_simp
    refine hK _ _ ?_
    exact HX.out
  · intro b6 b8 b10 b12 b14 a w hJ
    obtain ⟨own, x11, x13, x16, x18, x20, x22, x24, rfl, hb, h1, h3, h6, h8, h10, h12, h14⟩ := hJ
    have HX : Hid (JJ w0 (.slice (some ⟨b, 0, none⟩) G.length c0) lim G true true b6 b8 b10 b12 b14 (frame12 (.slice (some ⟨b, 0, none⟩) G.length c0) lim G.length x11 (.slice none 0 0) x16 x18 x20 x22 x24) w) :=
      ⟨own, _, _, _, _, _, _, _, rfl, hb, h1, fun _ => rfl, h6, h8, h10, h12, h14⟩
    clear h1 h3 h6 h8 h10 h12 h14
    unfold frame12
    refine wpOp_step rfl (fun K hK => ?_)
    go_simp
    refine (vertsNil w).mono ?_
    rintro e w' ⟨rfl, hw⟩
    obtain rfl := hw.symm
    clear hw
    go_simp
    refine hK _ _ ?_
    exact HX.out
  · intro b1 b3 b8 b10 b12 b14 a w hJ
    obtain ⟨own, x11, x13, x16, x18, x20, x22, x24, rfl, hb, h1, h3, h6, h8, h10, h12, h14⟩ := hJ
    have ha : Below w.heap.size w (w.alloc (.cells (madeCells #[.int .i32 0] G.length) 21)) := (Below.refl _ _).alloc (Nat.le_refl _) _
    have HX : Hid (JJ w0 (.slice (some ⟨b, 0, none⟩) G.length c0) lim G b1 b3 true b8 b10 b12 b14 (frame12 (.slice (some ⟨b, 0, none⟩) G.length c0) lim G.length x11 x13 (.slice (some ⟨w.heap.size, 0, none⟩) G.length G.length) x18 x20 x22 x24) (w.alloc (.cells (madeCells #[.int .i32 0] G.length) 21))) :=
      ⟨ext own w.heap.size 6, _, _, _, _, _, _, _, rfl, hb.trans (ha.mono hb.size), fun h => (h1 h).more ha 6, h3, fun _ => Has.made w0 w own 6 21 G.length (.int .i32 0) hb, fun h => (h8 h).more ha 6, fun h => (h10 h).more ha 6, fun h => (h12 h).more ha 6, fun h => (h14 h).more ha 6⟩
    have hmk := run_make_row' (P := Try.prog) 35 21 (.int .i32 0) 4 Try.underlying35 info21 rfl .i64 .i64 G.length (by omega) (by omega)
    clear h1 h3 h6 h8 h10 h12 h14 ha
    unfold frame12
    refine wpOp_step rfl (fun K hK => ?_)
    go_simp
    refine hK _ _ ?_
    exact HX.out
  · intro b1 b3 b6 b10 b12 b14 a w hJ
    obtain ⟨own, x11, x13, x16, x18, x20, x22, x24, rfl, hb, h1, h3, h6, h8, h10, h12, h14⟩ := hJ
    have ha : Below w.heap.size w (w.alloc (.cells (madeCells #[.int .i64 0] G.length) 3)) := (Below.refl _ _).alloc (Nat.le_refl _) _
    have HX : Hid (JJ w0 (.slice (some ⟨b, 0, none⟩) G.length c0) lim G b1 b3 b6 true b10 b12 b14 (frame12 (.slice (some ⟨b, 0, none⟩) G.length c0) lim G.length x11 x13 x16 (.slice (some ⟨w.heap.size, 0, none⟩) G.length G.length) x20 x22 x24) (w.alloc (.cells (madeCells #[.int .i64 0] G.length) 3))) :=
      ⟨ext own w.heap.size 8, _, _, _, _, _, _, _, rfl, hb.trans (ha.mono hb.size), fun h => (h1 h).more ha 8, h3, fun h => (h6 h).more ha 8, fun _ => Has.made w0 w own 8 3 G.length (.int .i64 0) hb, fun h => (h10 h).more ha 8, fun h => (h12 h).more ha 8, fun h => (h14 h).more ha 8⟩
    have hmk := run_make_row' (P := Try.prog) 42 3 (.int .i64 0) 8 Try.underlying42 info3 rfl .i64 .i64 G.length (by omega) (by omega)
    clear h1 h3 h6 h8 h10 h12 h14 ha
    unfold frame12
    refine wpOp_step rfl (fun K hK => ?_)
    go_simp
    refine hK _ _ ?_
    exact HX.out
  · intro b1 b3 b6 b8 b12 b14 a w hJ
    obtain ⟨own, x11, x13, x16, x18, x20, x22, x24, rfl, hb, h1, h3, h6, h8, h10, h12, h14⟩ := hJ
    have ha : Below w.heap.size w (w.alloc (.cells (madeCells #[.int .i64 0] G.length) 3)) := (Below.refl _ _).alloc (Nat.le_refl _) _
    have HX : Hid (JJ w0 (.slice (some ⟨b, 0, none⟩) G.length c0) lim G b1 b3 b6 b8 true b12 b14 (frame12 (.slice (some ⟨b, 0, none⟩) G.length c0) lim G.length x11 x13 x16 x18 (.slice (some ⟨w.heap.size, 0, none⟩) G.length G.length) x22 x24) (w.alloc (.cells (madeCells #[.int .i64 0] G.length) 3))) :=
      ⟨ext own w.heap.size 10, _, _, _, _, _, _, _, rfl, hb.trans (ha.mono hb.size), fun h => (h1 h).more ha 10, h3, fun h => (h6 h).more ha 10, fun h => (h8 h).more ha 10, fun _ => Has.made w0 w own 10 3 G.length (.int .i64 0) hb, fun h => (h12 h).more ha 10, fun h => (h14 h).more ha 10⟩
    have hmk := run_make_row' (P := Try.prog) 42 3 (.int .i64 0) 8 Try.underlying42 info3 rfl .i64 .i64 G.length (by omega) (by omega)
    clear h1 h3 h6 h8 h10 h12 h14 ha
    unfold frame12
    refine wpOp_step rfl (fun K hK => ?_)
    go_simp
    refine hK _ _ ?_
    exact HX.out
  · intro b1 b3 b6 b8 b10 b14 a w hJ
    obtain ⟨own, x11, x13, x16, x18, x20, x22, x24, rfl, hb, h1, h3, h6, h8, h10, h12, h14⟩ := hJ
    have ha : Below w.heap.size w (w.alloc (.cells (madeCells #[.int .i64 0] G.length) 3)) := (Below.refl _ _).alloc (Nat.le_refl _) _
    have HX : Hid (JJ w0 (.slice (some ⟨b, 0, none⟩) G.length c0) lim G b1 b3 b6 b8 b10 true b14 (frame12 (.slice (some ⟨b, 0, none⟩) G.length c0) lim G.length x11 x13 x16 x18 x20 (.slice (some ⟨w.heap.size, 0, none⟩) G.length G.length) x24) (w.alloc (.cells (madeCells #[.int .i64 0] G.length) 3))) :=
      ⟨ext own w.heap.size 12, _, _, _, _, _, _, _, rfl, hb.trans (ha.mono hb.size), fun h => (h1 h).more ha 12, h3, fun h => (h6 h).more ha 12, fun h => (h8 h).more ha 12, fun h => (h10 h).more ha 12, fun _ => Has.made w0 w own 12 3 G.length (.int .i64 0) hb, fun h => (h14 h).more ha 12⟩
    have hmk := run_make_row' (P := Try.prog) 42 3 (.int .i64 0) 8 Try.underlying42 info3 rfl .i64 .i64 G.length (by omega) (by omega)
    clear h1 h3 h6 h8 h10 h12 h14 ha
    unfold frame12
    refine wpOp_step rfl (fun K hK => ?_)
    go_simp
    refine hK _ _ ?_
    exact HX.out
  · intro b1 b3 b6 b8 b10 b12 a w hJ
    obtain ⟨own, x11, x13, x16, x18, x20, x22, x24, rfl, hb, h1, h3, h6, h8, h10, h12, h14⟩ := hJ
    have ha : Below w.heap.size w (w.alloc (.cells (madeCells #[.int .i64 0] G.length) 3)) := (Below.refl _ _).alloc (Nat.le_refl _) _
    have HX : Hid (JJ w0 (.slice (some ⟨b, 0, none⟩) G.length c0) lim G b1 b3 b6 b8 b10 b12 true (frame12 (.slice (some ⟨b, 0, none⟩) G.length c0) lim G.length x11 x13 x16 x18 x20 x22 (.slice (some ⟨w.heap.size, 0, none⟩) G.length G.length)) (w.alloc (.cells (madeCells #[.int .i64 0] G.length) 3))) :=
      ⟨ext own w.heap.size 14, _, _, _, _, _, _, _, rfl, hb.trans (ha.mono hb.size), fun h => (h1 h).more ha 14, h3, fun h => (h6 h).more ha 14, fun h => (h8 h).more ha 14, fun h => (h10 h).more ha 14, fun h => (h12 h).more ha 14, fun _ => Has.made w0 w own 14 3 G.length (.int .i64 0) hb⟩
    have hmk := run_make_row' (P := Try.prog) 42 3 (.int .i64 0) 8 Try.underlying42 info3 rfl .i64 .i64 G.length (by omega) (by omega)
    clear h1 h3 h6 h8 h10 h12 h14 ha
    unfold frame12
    refine wpOp_step rfl (fun K hK => ?_)
    go_simp
    refine hK _ _ ?_
    exact HX.out
  · intro a w hJ
    obtain ⟨own, x11, x13, x16, x18, x20, x22, x24, rfl, hcc⟩ := hJ
    have HD := hcc.done (lim := lim)
    obtain ⟨_, g11, hx13, g16, g18, g20, g22, g24⟩ := hcc
    obtain rfl := hx13 rfl
    obtain ⟨a11, rfl⟩ := (g11 rfl).form
    obtain ⟨a16, rfl⟩ := (g16 rfl).form
    obtain ⟨a18, rfl⟩ := (g18 rfl).form
    obtain ⟨a20, rfl⟩ := (g20 rfl).form
    obtain ⟨a22, rfl⟩ := (g22 rfl).form
    obtain ⟨a24, rfl⟩ := (g24 rfl).form
    clear g11 g16 g18 g20 g22 g24
    have HN : Hid (New w0 G lim (.returned (.pointer (some ⟨w.heap.size, 0, none⟩))) (w.alloc (.cells (fields (.slice a11 G.length G.length) (.slice none 0 0) lim (.slice a16 G.length G.length) (.slice a18 G.length G.length) (.slice a20 G.length G.length) (.slice a22 G.length G.length) (.slice a24 G.length G.length)) 48))) := HD
    clear HD hx13
    unfold frame12
    refine wpAny_ready (rs := [15]) (by kernel_rfl) (by simp) ?_
    refine AllReady.cons rfl (fun K hK => ?_) AllReady.nil
    go_simp
    refine hK _ _ ?_
    clear hK K
    refine wpAny_ready (rs := [16]) (by kernel_rfl) (by simp) ?_
    refine AllReady.cons rfl (fun K hK => ?_) AllReady.nil
    go_simp
    refine hK _ _ ?_
    clear hK K
    refine wpAny_ready (rs := [17]) (by kernel_rfl) (by simp) ?_
    refine AllReady.cons rfl (fun K hK => ?_) AllReady.nil
    go_simp
    refine hK _ _ ?_
    clear hK K
    refine wpAny_done (by kernel_rfl) ?_ _
    go_wp2_with fail
    go_ret
    subst hw0
    exact HN.out
end CY
end Go.Proofs.Qxb6003137a
