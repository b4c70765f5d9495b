/- The step bound in memory. -/
import Derived.Test.Qxb6003137aClone
import Derived.Test.Qxb6003137aPlain2
import Derived.Deep.AppendLies
import Derived.Deep.MidRow
import Derived.Laws.OwnMore
namespace Go.Proofs.Qxb6003137a
open Go.ChangeShapes Go.WideShapes Go.ChangeAt Go.RowKit
set_option linter.unusedVariables false
set_option linter.unusedSimpArgs false
namespace CY

/-- A vertex's cell. -/
def vv (x : Nat) : Value := .int .i32 (x : Int)
/-- The stack's cells (bottom first). -/
def sc : List (Nat × Nat) → List Value
  | [] => []
  | (v, t) :: l => .int .i32 (v : Int) :: .int .i64 (t : Int) :: sc l

theorem sc_len : ∀ l : List (Nat × Nat), (sc l).length = l.length * 2
  | [] => rfl
  | (v, t) :: l => by simp [sc, sc_len l]; omega
theorem sc_app : ∀ (a b : List (Nat × Nat)), sc (a ++ b) = sc a ++ sc b
  | [], b => rfl
  | (v, t) :: a, b => by simp [sc, sc_app a b]
theorem sc_take (a b : List (Nat × Nat)) : (sc (a ++ b)).take (a.length * 2) = sc a := by
  rw [sc_app, ← sc_len a, List.take_left]

theorem ownsRow_of_heap {w w' : World} {base : Nat} {e : TypeId} {size : Nat} {v : Value} {n : Nat} {xs : List Value} (h : w.ownsRow base e size v n xs) (hb : ∀ g, v.ownBlock = some g → w'.heap[g]? = w.heap[g]?) : w'.ownsRow base e size v n xs := by
  refine ⟨h.1, ?_⟩
  rcases h.2 with h0 | ⟨g, cap, cur, rfl, hg, hh, r⟩
  · exact .inl h0
  · exact .inr ⟨g, cap, cur, rfl, hg, by rw [hb g rfl]; exact hh, r⟩
theorem ownsRow_form {w : World} {base : Nat} {e : TypeId} {size : Nat} {v : Value} {n : Nat} {xs : List Value} (h : w.ownsRow base e size v n xs) : ∃ ao cp, v = .slice ao n cp := by
  rcases h.2 with ⟨rfl, rfl⟩ | ⟨g, cap, cur, rfl, _⟩
  · exact ⟨_, _, rfl⟩
  · exact ⟨_, _, rfl⟩
/-- A shorter slice of the same row. -/
theorem ownsRow_take {w : World} {base : Nat} {e : TypeId} {size : Nat} {ao : Option Addr} {n cap : Nat} {xs : List Value} (h : w.ownsRow base e size (.slice ao n cap) n xs) {m : Nat} (hm : m ≤ n) : w.ownsRow base e size (.slice ao m cap) m (xs.take (m * size)) := by
  have hl : xs.length = n * size := h.1
  have hms : m * size ≤ n * size := Nat.mul_le_mul_right _ hm
  refine ⟨by rw [List.length_take, hl]; omega, ?_⟩
  rcases h.2 with ⟨h0, rfl⟩ | ⟨g, cap', cur, hv, hb, hh, h1, h2, h3, h4⟩
  · obtain rfl : m = 0 := by omega
    exact .inl ⟨h0, rfl⟩
  · simp only [Value.slice.injEq] at hv
    obtain ⟨rfl, -, rfl⟩ := hv
    refine .inr ⟨g, cap, cur, rfl, hb, hh, by omega, h2, h3, ?_⟩
    rw [← h4, List.take_take, Nat.min_eq_left hms]

/-- Whose block it is: 30 the struct, 6 left, 8 paths, 10 length, 20 order, 21 path, 1 the edges. -/
structure TG (own : Nat → Nat) (base p gl gp gn lo hi : Nat) : Prop where
  kp : own p = 30
  kl : own gl = 6
  kq : own gp = 8
  kn : own gn = 10
  e : ∀ g, lo ≤ g → g < hi → own g = 1
  bp : base ≤ p
  bl : base ≤ gl
  bq : base ≤ gp
  bn : base ≤ gn

/-- The bound at p: its fields f, its rows. -/
structure BD (w : World) (own : Nat → Nat) (base p gl gp gn lo hi : Nat) (f : Nat → Value) (G : List (List Int)) (left P L : Nat → Int) (ord : List Nat) (st : List (Nat × Nat)) : Prop where
  tg : TG own base p gl gp gn lo hi
  rb : w.rowIs p 48 14 f
  gr : GR w lo hi (some ⟨lo, 0, none⟩) lo 0 G
  rl : w.rowIs gl 21 G.length (fun i => .int .i32 (left i))
  rp : w.rowIs gp 3 G.length (fun i => .int .i64 (P i))
  rn : w.rowIs gn 3 G.length (fun i => .int .i64 (L i))
  ro : w.ownsRow base 50 1 (f 6) ord.length (ord.map vv)
  rs : w.ownsRow base 62 2 (f 7) st.length (sc st)
  f0 : f 0 = .slice (some ⟨lo, 0, none⟩) G.length G.length
  f5 : f 5 = .slice (some ⟨gl, 0, none⟩) G.length G.length
  f8 : f 8 = .slice (some ⟨gp, 0, none⟩) G.length G.length
  f9 : f 9 = .slice (some ⟨gn, 0, none⟩) G.length G.length
  t6 : ∀ g, (f 6).ownBlock = some g → own g = 20
  t7 : ∀ g, (f 7).ownBlock = some g → own g = 21

/-- Only blocks of the owner t are turned. -/
structure Touch (own : Nat → Nat) (t : Nat) (w w' : World) : Prop where
  size : w.heap.size ≤ w'.heap.size
  block : ∀ g, g < w.heap.size → own g ≠ t → w'.heap[g]? = w.heap[g]?

theorem Touch.set {own : Nat → Nat} {t : Nat} (w : World) {g : Nat} (hg : own g = t) (q : Nat) (v : Value) : Touch own t w (w.setCell ⟨g, q, none⟩ v) :=
  ⟨by simp [World.setCell], fun k _ hk => Below.heap_setCell _ _ _ _ (fun e => hk (by rw [e]; exact hg))⟩

section
variable {w w' : World} {own : Nat → Nat} {base p gl gp gn lo hi : Nat} {f : Nat → Value} {G : List (List Int)} {left P L : Nat → Int} {ord : List Nat} {st : List (Nat × Nat)}

theorem BD.kRb (h : BD w own base p gl gp gn lo hi f G left P L ord st) {t : Nat} (ht : Touch own t w w') (hne : t ≠ 30) : w'.rowIs p 48 14 f := rowIs_of_heap h.rb (ht.block _ h.rb.lt (by rw [h.tg.kp]; omega))
theorem BD.kRl (h : BD w own base p gl gp gn lo hi f G left P L ord st) {t : Nat} (ht : Touch own t w w') (hne : t ≠ 6) : w'.rowIs gl 21 G.length (fun i => .int .i32 (left i)) := rowIs_of_heap h.rl (ht.block _ h.rl.lt (by rw [h.tg.kl]; omega))
theorem BD.kRp (h : BD w own base p gl gp gn lo hi f G left P L ord st) {t : Nat} (ht : Touch own t w w') (hne : t ≠ 8) : w'.rowIs gp 3 G.length (fun i => .int .i64 (P i)) := rowIs_of_heap h.rp (ht.block _ h.rp.lt (by rw [h.tg.kq]; omega))
theorem BD.kRn (h : BD w own base p gl gp gn lo hi f G left P L ord st) {t : Nat} (ht : Touch own t w w') (hne : t ≠ 10) : w'.rowIs gn 3 G.length (fun i => .int .i64 (L i)) := rowIs_of_heap h.rn (ht.block _ h.rn.lt (by rw [h.tg.kn]; omega))
theorem BD.kGr (h : BD w own base p gl gp gn lo hi f G left P L ord st) {t : Nat} (ht : Touch own t w w') (hne : t ≠ 1) : GR w' lo hi (some ⟨lo, 0, none⟩) lo 0 G := h.gr.of_heap (fun g h1 h2 => ht.block _ (Nat.lt_of_lt_of_le h2 h.gr.top) (by rw [h.tg.e g h1 h2]; omega)) (Nat.le_trans h.gr.top ht.size)
theorem BD.kRo (h : BD w own base p gl gp gn lo hi f G left P L ord st) {t : Nat} (ht : Touch own t w w') (hne : t ≠ 20) : w'.ownsRow base 50 1 (f 6) ord.length (ord.map vv) := ownsRow_of_heap h.ro (fun g hg => ht.block _ (h.ro.lt g hg).2 (by rw [h.t6 g hg]; omega))
theorem BD.kRs (h : BD w own base p gl gp gn lo hi f G left P L ord st) {t : Nat} (ht : Touch own t w w') (hne : t ≠ 21) : w'.ownsRow base 62 2 (f 7) st.length (sc st) := ownsRow_of_heap h.rs (fun g hg => ht.block _ (h.rs.lt g hg).2 (by rw [h.t7 g hg]; omega))

theorem BD.drewN (h : BD w own base p gl gp gn lo hi f G left P L ord st) (n : Nat) : BD (w.drewN n) own base p gl gp gn lo hi f G left P L ord st :=
  ⟨h.tg, h.rb, h.gr.of_heap (fun _ _ _ => rfl) h.gr.top, h.rl, h.rp, h.rn, ownsRow_of_heap h.ro (fun _ _ => rfl), ownsRow_of_heap h.rs (fun _ _ => rfl), h.f0, h.f5, h.f8, h.f9, h.t6, h.t7⟩

theorem rowIs_upd {w : World} {g e n : Nat} {φ : Int → Value} {x : Nat → Int} (h : w.rowIs g e n (fun i => φ (x i))) (i : Nat) (v : Int) : (w.setCell ⟨g, i, none⟩ (φ v)).rowIs g e n (fun j => φ (upd x i v j)) :=
  (h.set i (φ v)).congr (fun j _ => by unfold upd; split <;> rfl)

theorem BD.setLeft (h : BD w own base p gl gp gn lo hi f G left P L ord st) (i : Nat) (v : Int) : BD (w.setCell ⟨gl, i, none⟩ (.int .i32 v)) own base p gl gp gn lo hi f G (upd left i v) P L ord st := by
  have ht := Touch.set w h.tg.kl i (.int .i32 v)
  exact ⟨h.tg, h.kRb ht (by decide), h.kGr ht (by decide), rowIs_upd (φ := .int .i32) h.rl i v, h.kRp ht (by decide), h.kRn ht (by decide), h.kRo ht (by decide), h.kRs ht (by decide), h.f0, h.f5, h.f8, h.f9, h.t6, h.t7⟩
theorem BD.setP (h : BD w own base p gl gp gn lo hi f G left P L ord st) (i : Nat) (v : Int) : BD (w.setCell ⟨gp, i, none⟩ (.int .i64 v)) own base p gl gp gn lo hi f G left (upd P i v) L ord st := by
  have ht := Touch.set w h.tg.kq i (.int .i64 v)
  exact ⟨h.tg, h.kRb ht (by decide), h.kGr ht (by decide), h.kRl ht (by decide), rowIs_upd (φ := .int .i64) h.rp i v, h.kRn ht (by decide), h.kRo ht (by decide), h.kRs ht (by decide), h.f0, h.f5, h.f8, h.f9, h.t6, h.t7⟩
theorem BD.setL (h : BD w own base p gl gp gn lo hi f G left P L ord st) (i : Nat) (v : Int) : BD (w.setCell ⟨gn, i, none⟩ (.int .i64 v)) own base p gl gp gn lo hi f G left P (upd L i v) ord st := by
  have ht := Touch.set w h.tg.kn i (.int .i64 v)
  exact ⟨h.tg, h.kRb ht (by decide), h.kGr ht (by decide), h.kRl ht (by decide), h.kRp ht (by decide), rowIs_upd (φ := .int .i64) h.rn i v, h.kRo ht (by decide), h.kRs ht (by decide), h.f0, h.f5, h.f8, h.f9, h.t6, h.t7⟩

theorem rowIs_updF {w : World} {g e n : Nat} {x : Nat → Value} (h : w.rowIs g e n x) (i : Nat) (v : Value) : (w.setCell ⟨g, i, none⟩ v).rowIs g e n (upd x i v) :=
  (h.set i v).congr (fun j _ => by unfold upd; rfl)

/-- The work's field. -/
theorem BD.setWork (h : BD w own base p gl gp gn lo hi f G left P L ord st) (v : Value) : BD (w.setCell ⟨p, 4, none⟩ v) own base p gl gp gn lo hi (upd f 4 v) G left P L ord st := by
  have ht := Touch.set w h.tg.kp 4 v
  exact ⟨h.tg, rowIs_updF h.rb 4 v, h.kGr ht (by decide), h.kRl ht (by decide), h.kRp ht (by decide), h.kRn ht (by decide), h.kRo ht (by decide), h.kRs ht (by decide), h.f0, h.f5, h.f8, h.f9, h.t6, h.t7⟩

/-- Another slice of order. -/
theorem BD.setOrd (h : BD w own base p gl gp gn lo hi f G left P L ord st) (v : Value) (ord' : List Nat) (hr : w.ownsRow base 50 1 v ord'.length (ord'.map vv)) (hv : ∀ g, v.ownBlock = some g → own g = 20) : BD (w.setCell ⟨p, 6, none⟩ v) own base p gl gp gn lo hi (upd f 6 v) G left P L ord' st := by
  have ht := Touch.set w h.tg.kp 6 v
  exact ⟨h.tg, rowIs_updF h.rb 6 v, h.kGr ht (by decide), h.kRl ht (by decide), h.kRp ht (by decide), h.kRn ht (by decide), ownsRow_of_heap hr (fun g hg => ht.block _ (hr.lt g hg).2 (by rw [hv g hg]; decide)), h.kRs ht (by decide), h.f0, h.f5, h.f8, h.f9, hv, h.t7⟩
/-- Another slice of path. -/
theorem BD.setPath (h : BD w own base p gl gp gn lo hi f G left P L ord st) (v : Value) (st' : List (Nat × Nat)) (hr : w.ownsRow base 62 2 v st'.length (sc st')) (hv : ∀ g, v.ownBlock = some g → own g = 21) : BD (w.setCell ⟨p, 7, none⟩ v) own base p gl gp gn lo hi (upd f 7 v) G left P L ord st' := by
  have ht := Touch.set w h.tg.kp 7 v
  exact ⟨h.tg, rowIs_updF h.rb 7 v, h.kGr ht (by decide), h.kRl ht (by decide), h.kRp ht (by decide), h.kRn ht (by decide), h.kRo ht (by decide), ownsRow_of_heap hr (fun g hg => ht.block _ (hr.lt g hg).2 (by rw [hv g hg]; decide)), h.f0, h.f5, h.f8, h.f9, h.t6, hv⟩

/-- New blocks have a new owner. -/
def ext (own : Nat → Nat) (N t : Nat) : Nat → Nat := fun g => if g < N then own g else t
theorem ext_old (own : Nat → Nat) {N g : Nat} (t : Nat) (h : g < N) : ext own N t g = own g := by simp [ext, h]
theorem ext_new (own : Nat → Nat) {N g : Nat} (t : Nat) (h : N ≤ g) : ext own N t g = t := by simp [ext]; omega

theorem BD.reown (h : BD w own base p gl gp gn lo hi f G left P L ord st) {own' : Nat → Nat} (ho : ∀ g, g < w.heap.size → own' g = own g) : BD w own' base p gl gp gn lo hi f G left P L ord st :=
  ⟨⟨by rw [ho _ h.rb.lt]; exact h.tg.kp, by rw [ho _ h.rl.lt]; exact h.tg.kl, by rw [ho _ h.rp.lt]; exact h.tg.kq, by rw [ho _ h.rn.lt]; exact h.tg.kn, fun g h1 h2 => by rw [ho _ (Nat.lt_of_lt_of_le h2 h.gr.top)]; exact h.tg.e g h1 h2, h.tg.bp, h.tg.bl, h.tg.bq, h.tg.bn⟩, h.rb, h.gr, h.rl, h.rp, h.rn, h.ro, h.rs, h.f0, h.f5, h.f8, h.f9, fun g hg => by rw [ho _ (h.ro.lt g hg).2]; exact h.t6 g hg, fun g hg => by rw [ho _ (h.rs.lt g hg).2]; exact h.t7 g hg⟩

/-- The world after a literal is laid and an append to a row of the owner t. -/
theorem touch_append {own : Nat → Nat} {t : Nat} {w wa w1 : World} {v : Value} (hv : ∀ g, v.ownBlock = some g → own g = t) (ha : Below w.heap.size w wa) (hg : wa.grownBy w1 v.ownBlock) : Touch (ext own w.heap.size t) t w w1 :=
  ⟨Nat.le_trans ha.size hg.size, fun g h1 h2 => by
    rw [ext_old own t h1] at h2
    exact (hg.block g (Nat.lt_of_lt_of_le h1 ha.size) (fun e => h2 (hv g e.symm))).trans (ha.block g h1)⟩

/-- order grows: the append, not yet stored. -/
theorem BD.grownOrd (h : BD w own base p gl gp gn lo hi f G left P L ord st) {wa w1 : World} (ha : Below w.heap.size w wa) (hg : wa.grownBy w1 (f 6).ownBlock) (g cap x : Nat) (hr : w1.ownsRow base 50 1 (.slice (some ⟨g, 0, none⟩) (ord.length + 1) cap) (ord.length + 1) (ord.map vv ++ [vv x])) (hat : (f 6).ownBlock = some g ∨ g = wa.heap.size) :
    BD (w1.setCell ⟨p, 6, none⟩ (.slice (some ⟨g, 0, none⟩) (ord.length + 1) cap)) (ext own w.heap.size 20) base p gl gp gn lo hi (upd f 6 (.slice (some ⟨g, 0, none⟩) (ord.length + 1) cap)) G left P L (ord ++ [x]) st := by
  have h' := h.reown (own' := ext own w.heap.size 20) (fun g hg => ext_old own 20 hg)
  have ht := touch_append (t := 20) h.t6 ha hg
  have hv : ∀ g', (Value.slice (some ⟨g, 0, none⟩) (ord.length + 1) cap).ownBlock = some g' → ext own w.heap.size 20 g' = 20 := fun g' hg' => by
    simp only [Value.ownBlock, Option.some.injEq] at hg'
    subst hg'
    rcases hat with e | e
    · exact h'.t6 g e
    · exact ext_new own 20 (by rw [e]; exact ha.size)
  have ht2 := Touch.set w1 h'.tg.kp 6 (.slice (some ⟨g, 0, none⟩) (ord.length + 1) cap)
  have hne : ∀ g', ext own w.heap.size 20 g' = 20 → ext own w.heap.size 20 g' ≠ 30 := fun g' e => by rw [e]; decide
  have b1 : w1.rowIs p 48 14 f := h'.kRb ht (by decide)
  refine ⟨h'.tg, rowIs_updF b1 6 _, ?_, ?_, ?_, ?_, ?_, ?_, h.f0, h.f5, h.f8, h.f9, hv, h'.t7⟩
  · exact (h'.kGr ht (by decide)).of_heap (fun g h1 h2 => ht2.block _ (Nat.lt_of_lt_of_le h2 (h'.kGr ht (by decide)).top) (by rw [h'.tg.e g h1 h2]; decide)) (by simpa [World.setCell] using (h'.kGr ht (by decide)).top)
  · exact rowIs_of_heap (h'.kRl ht (by decide)) (ht2.block _ (h'.kRl ht (by decide)).lt (by rw [h'.tg.kl]; decide))
  · exact rowIs_of_heap (h'.kRp ht (by decide)) (ht2.block _ (h'.kRp ht (by decide)).lt (by rw [h'.tg.kq]; decide))
  · exact rowIs_of_heap (h'.kRn ht (by decide)) (ht2.block _ (h'.kRn ht (by decide)).lt (by rw [h'.tg.kn]; decide))
  · have e1 : (ord ++ [x]).length = ord.length + 1 := by simp
    rw [e1, List.map_append]
    exact ownsRow_of_heap hr (fun g' hg' => ht2.block _ (hr.lt g' hg').2 (hne g' (hv g' hg')))
  · exact ownsRow_of_heap (h'.kRs ht (by decide)) (fun g' hg' => ht2.block _ ((h'.kRs ht (by decide)).lt g' hg').2 (by rw [h'.t7 g' hg']; decide))

/-- path grows. -/
theorem BD.grownPath (h : BD w own base p gl gp gn lo hi f G left P L ord st) {wa w1 : World} (ha : Below w.heap.size w wa) (v0 : Value) (st0 : List (Nat × Nat)) (hv0 : v0.ownBlock = (f 7).ownBlock) (hg : wa.grownBy w1 v0.ownBlock) (g cap x t : Nat) (hr : w1.ownsRow base 62 2 (.slice (some ⟨g, 0, none⟩) (st0.length + 1) cap) (st0.length + 1) (sc st0 ++ [.int .i32 (x : Int), .int .i64 (t : Int)])) (hat : v0.ownBlock = some g ∨ g = wa.heap.size) :
    BD (w1.setCell ⟨p, 7, none⟩ (.slice (some ⟨g, 0, none⟩) (st0.length + 1) cap)) (ext own w.heap.size 21) base p gl gp gn lo hi (upd f 7 (.slice (some ⟨g, 0, none⟩) (st0.length + 1) cap)) G left P L ord (st0 ++ [(x, t)]) := by
  have h' := h.reown (own' := ext own w.heap.size 21) (fun g hg => ext_old own 21 hg)
  have ht := touch_append (t := 21) (v := v0) (fun g hg => h.t7 g (by rw [← hv0]; exact hg)) ha hg
  have hv : ∀ g', (Value.slice (some ⟨g, 0, none⟩) (st0.length + 1) cap).ownBlock = some g' → ext own w.heap.size 21 g' = 21 := fun g' hg' => by
    simp only [Value.ownBlock, Option.some.injEq] at hg'
    subst hg'
    rcases hat with e | e
    · exact h'.t7 g (by rw [← hv0]; exact e)
    · exact ext_new own 21 (by rw [e]; exact ha.size)
  have ht2 := Touch.set w1 h'.tg.kp 7 (.slice (some ⟨g, 0, none⟩) (st0.length + 1) cap)
  have hne : ∀ g', ext own w.heap.size 21 g' = 21 → ext own w.heap.size 21 g' ≠ 30 := fun g' e => by rw [e]; decide
  have b1 : w1.rowIs p 48 14 f := h'.kRb ht (by decide)
  refine ⟨h'.tg, rowIs_updF b1 7 _, ?_, ?_, ?_, ?_, ?_, ?_, h.f0, h.f5, h.f8, h.f9, h'.t6, hv⟩
  · exact (h'.kGr ht (by decide)).of_heap (fun g h1 h2 => ht2.block _ (Nat.lt_of_lt_of_le h2 (h'.kGr ht (by decide)).top) (by rw [h'.tg.e g h1 h2]; decide)) (by simpa [World.setCell] using (h'.kGr ht (by decide)).top)
  · exact rowIs_of_heap (h'.kRl ht (by decide)) (ht2.block _ (h'.kRl ht (by decide)).lt (by rw [h'.tg.kl]; decide))
  · exact rowIs_of_heap (h'.kRp ht (by decide)) (ht2.block _ (h'.kRp ht (by decide)).lt (by rw [h'.tg.kq]; decide))
  · exact rowIs_of_heap (h'.kRn ht (by decide)) (ht2.block _ (h'.kRn ht (by decide)).lt (by rw [h'.tg.kn]; decide))
  · exact ownsRow_of_heap (h'.kRo ht (by decide)) (fun g' hg' => ht2.block _ ((h'.kRo ht (by decide)).lt g' hg').2 (by rw [h'.t6 g' hg']; decide))
  · have e1 : (st0 ++ [(x, t)]).length = st0.length + 1 := by simp
    rw [e1, sc_app]
    exact ownsRow_of_heap hr (fun g' hg' => ht2.block _ (hr.lt g' hg').2 (hne g' (hv g' hg')))

/-- The top's count. -/
theorem BD.setTaken {x t : Nat} (h : BD w own base p gl gp gn lo hi f G left P L ord (st ++ [(x, t)])) (g cap : Nat) (hf : f 7 = .slice (some ⟨g, 0, none⟩) (st.length + 1) cap) (t' : Nat) :
    BD (w.setCell ⟨g, st.length * 2 + 1, none⟩ (.int .i64 (t' : Int))) own base p gl gp gn lo hi f G left P L ord (st ++ [(x, t')]) := by
  have hg : own g = 21 := h.t7 g (by rw [hf]; rfl)
  have ht := Touch.set w hg (st.length * 2 + 1) (.int .i64 (t' : Int))
  refine ⟨h.tg, h.kRb ht (by decide), h.kGr ht (by decide), h.kRl ht (by decide), h.kRp ht (by decide), h.kRn ht (by decide), h.kRo ht (by decide), ?_, h.f0, h.f5, h.f8, h.f9, h.t6, h.t7⟩
  have hr := h.rs
  have e1 : ∀ y, (st ++ [(x, y)]).length = st.length + 1 := fun y => by simp
  rw [e1, hf] at hr
  rw [e1, hf]
  have := (hr.stored (st.length * 2 + 1) (.int .i64 (t' : Int))).1
  have e2 : (sc (st ++ [(x, t)])).set (st.length * 2 + 1) (.int .i64 (t' : Int)) = sc (st ++ [(x, t')]) := by
    rw [sc_app, sc_app, List.set_append_right _ _ (by rw [sc_len]; omega), sc_len]
    simp [sc]
  rw [e2] at this
  exact this
end
end CY
end Go.Proofs.Qxb6003137a
