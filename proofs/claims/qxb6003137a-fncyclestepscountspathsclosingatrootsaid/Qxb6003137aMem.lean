/- [][]int32 in memory; the bounds on length; the range. -/
import Derived.Test.Qxb6003137aRows
import Derived.WalkKit
import Derived.ProofKit
import Derived.WalkLawsBesides
import Derived.WalkSpells
import Derived.Lib.SlicesS
import Derived.Deep.OwnRows
import Derived.Deep.QuietTactic
import Derived.BigQuiet
namespace Go.Proofs.Qxb6003137a
open Go.ChangeShapes Go.WideShapes Go.ChangeAt Go.RowKit
set_option linter.unusedVariables false
set_option linter.unusedSimpArgs false
namespace CY

/-- The rows G lie in w, in the blocks from lo on and below hi; the slice leads from at0 to ⟨b, off⟩. -/
structure GR (w : World) (lo hi : Nat) (at0 : Option Addr) (b off : Nat) (G : List (List Int)) : Prop where
  addr : 0 < G.length → at0 = some ⟨b, off, none⟩
  inb : 0 < G.length → lo ≤ b ∧ b < hi
  top : hi ≤ w.heap.size
  cell : ∀ i, i < G.length → ∃ (a : Option Addr) (rb ro c : Nat), w.cell? ⟨b, off + i, none⟩ = some (.slice a (G.getD i []).length c) ∧ (0 < (G.getD i []).length → a = some ⟨rb, ro, none⟩ ∧ lo ≤ rb ∧ rb < hi) ∧ ∀ j, j < (G.getD i []).length → w.cell? ⟨rb, ro + j, none⟩ = some (.int .i32 ((G.getD i []).getD j 0))

theorem GR.of_heap {w w' : World} {lo hi : Nat} {at0 : Option Addr} {b off : Nat} {G : List (List Int)} (h : GR w lo hi at0 b off G) (hb : ∀ g, lo ≤ g → g < hi → w'.heap[g]? = w.heap[g]?) (ht : hi ≤ w'.heap.size) : GR w' lo hi at0 b off G := by
  refine ⟨h.addr, h.inb, ht, fun i hi' => ?_⟩
  obtain ⟨a, rb, ro, c, h1, h2, h3⟩ := h.cell i hi'
  obtain ⟨e1, e2⟩ := h.inb (by omega)
  refine ⟨a, rb, ro, c, ?_, h2, fun j hj => ?_⟩
  · rw [← h1]; simp only [World.cell?, hb b e1 e2]
  · obtain ⟨_, f1, f2⟩ := h2 (by omega)
    rw [← h3 j hj]; simp only [World.cell?, hb rb f1 f2]

theorem GR.below {w w' : World} {lo hi : Nat} {at0 : Option Addr} {b off : Nat} {G : List (List Int)} {B : Nat} (h : GR w lo hi at0 b off G) (hb : Below B w w') (hB : hi ≤ B) : GR w' lo hi at0 b off G :=
  h.of_heap (fun g _ h2 => hb.block g (by omega)) (Nat.le_trans h.top hb.size)
theorem GR.belowAll {w w' : World} {lo hi : Nat} {at0 : Option Addr} {b off : Nat} {G : List (List Int)} (h : GR w lo hi at0 b off G) (hb : Below w.heap.size w w') : GR w' lo hi at0 b off G := h.below hb h.top

/-- It answers some Bool, in the same world; true says P. -/
def Says (P : Prop) (w : World) (e : Ending) (w' : World) : Prop := ∃ r : Bool, e = .returned (.bool r) ∧ w' = w ∧ (r = true → P)
/-- It answers some number, in the same world; one that is small says P. -/
def Tells (P : Prop) (w : World) (e : Ending) (w' : World) : Prop := ∃ t : Nat, e = .returned (.int .i64 t) ∧ w' = w ∧ (t ≤ 1048576 → P)

def Short (G : List (List Int)) : Prop := ∀ i, i < G.length → (G.getD i []).length ≤ 1048576

set_option maxHeartbeats 1000000 in
theorem bytes20 (G : List (List Int)) (at0 : Option Addr) (lo hi b off c0 : Nat) (x1 x2 x3 : Value) (w : World) (h : GR w lo hi at0 b off G) (hl0 : G.length ≤ 9223372036854775807) :
    Calls Try.prog 20 #[.slice at0 G.length c0, x1, x2, x3] w (Says True w) := by
  by_cases hx : G.length ≤ 1048576
  · go_enter Try.func20, Try.ntmps20
    go_wp2
    go_loop [9, 10] (fun z i => ∃ k n : Nat, k ≤ G.length ∧ i = .int .i64 k ∧ z = .int .i64 n ∧ n ≤ 1048576) (fun _ i => G.length - (intOf i).toNat)
    case atStart => exact ⟨0, G.length, Nat.zero_le _, rfl, rfl, hx⟩
    case round =>
      obtain ⟨k, n, hk, rfl, rfl, hn⟩ := hrel
      by_cases hlt : k < G.length
      · obtain ⟨a, rb, ro, c, hc, _, _⟩ := h.cell k hlt
        have ha := h.addr (by omega)
        subst ha
        generalize (G.getD k []).length = m at *
        by_cases hz : m ≤ 1048576
        · by_cases hn2 : n + m ≤ 1048576
          · go_wp2
            go_round
            case rel => exact ⟨k + 1, n + m, by omega, by go_num, by go_num, hn2⟩
            case measure => simp [intOf]; omega
          · go_wp2
            go_ret
            exact ⟨false, rfl, rfl, by simp⟩
        · go_wp2
          go_ret
          exact ⟨false, rfl, rfl, by simp⟩
      · go_wp2
        go_ret
        exact ⟨true, rfl, rfl, by simp⟩
  · go_enter Try.func20, Try.ntmps20
    go_wp2
    go_ret
    exact ⟨false, rfl, rfl, by simp⟩

set_option maxHeartbeats 1000000 in
theorem bytes7 (G : List (List Int)) (at0 : Option Addr) (lo hi b off c0 : Nat) (w : World) (h : GR w lo hi at0 b off G) (hl0 : G.length ≤ 4096) :
    Calls Try.prog 7 #[.slice at0 G.length c0] w (Tells (Short G) w) := by
  go_enter Try.func7, Try.ntmps7
  go_wp2
  go_loop [3, 4] (fun z i => ∃ k n : Nat, k ≤ G.length ∧ i = .int .i64 k ∧ z = .int .i64 n ∧ n ≤ 1048576 ∧ Hid (∀ j, j < k → (G.getD j []).length ≤ 1048576)) (fun _ i => G.length - (intOf i).toNat)
  case atStart => exact ⟨0, 24 * G.length, Nat.zero_le _, rfl, by go_num, by omega, fun j hj => absurd hj (Nat.not_lt_zero _)⟩
  case round =>
    obtain ⟨k, n, hk, rfl, rfl, hn, hj⟩ := hrel
    by_cases hlt : k < G.length
    · obtain ⟨a, rb, ro, c, hc, _, _⟩ := h.cell k hlt
      have ha := h.addr (by omega)
      subst ha
      generalize hm : (G.getD k []).length = m at *
      have HM : Hid ((G.getD k []).length = m) := hm
      clear hm
      by_cases hz : m ≤ 1048576
      · by_cases hn2 : n + 4 * m ≤ 1048576
        · go_wp2
          go_round
          case rel =>
            refine ⟨k + 1, n + 4 * m, by omega, by go_num, by go_num, hn2, fun j hj2 => ?_⟩
            by_cases e : j = k
            · rw [e, HM.out]; exact hz
            · exact hj.out j (by omega)
          case measure => simp [intOf]; omega
        · go_wp2
          go_ret
          exact ⟨2097152, rfl, rfl, by omega⟩
      · go_wp2
        go_ret
        exact ⟨2097152, rfl, rfl, by omega⟩
    · go_wp2
      go_ret
      exact ⟨n, rfl, rfl, fun _ j hj2 => hj.out j (by omega)⟩

def Fits (G : List (List Int)) : Prop := ∀ i, i < G.length → ∀ j, j < (G.getD i []).length → -2147483648 ≤ (G.getD i []).getD j 0 ∧ (G.getD i []).getD j 0 ≤ 2147483647
def Ranged (G : List (List Int)) : Prop := ∀ i, i < G.length → ∀ j, j < (G.getD i []).length → 0 ≤ (G.getD i []).getD j 0 ∧ (G.getD i []).getD j 0 < G.length

set_option maxHeartbeats 1000000 in
theorem range8 (G : List (List Int)) (at0 : Option Addr) (lo hi b off c0 : Nat) (w : World) (h : GR w lo hi at0 b off G) (hl0 : G.length ≤ 4096) (hs : Short G) (hf : Fits G) :
    Calls Try.prog 8 #[.slice at0 G.length c0] w (Says (Ranged G) w) := by
  have HS : Hid (Short G) := hs
  have HF : Hid (Fits G) := hf
  clear hs hf
  go_enter Try.func8, Try.ntmps8
  go_wp2
  go_loopw [4] (fun i wr => ∃ k : Nat, k ≤ G.length ∧ i = .int .i64 k ∧ wr = w ∧ Hid (∀ i, i < k → ∀ j, j < (G.getD i []).length → 0 ≤ (G.getD i []).getD j 0 ∧ (G.getD i []).getD j 0 < G.length)) (fun i _ => G.length - (intOf i).toNat)
  case atStart => exact ⟨0, Nat.zero_le _, rfl, rfl, fun j hj => absurd hj (Nat.not_lt_zero _)⟩
  case round =>
    obtain ⟨k, hk, rfl, hwr, hj⟩ := hrel
    obtain rfl := hwr.symm
    clear hwr
    by_cases hlt : k < G.length
    case neg =>
      go_wp2
      go_ret
      exact ⟨true, rfl, rfl, fun _ i hi => hj.out i (by omega)⟩
    obtain ⟨a, rb, ro, c, hc, hrow, hcells⟩ := h.cell k hlt
    have hm := HS.out k hlt
    have ha := h.addr (by omega)
    subst ha
    have HR : Hid (∀ j, j < (G.getD k []).length → w.cell? ⟨rb, ro + j, none⟩ = some (.int .i32 ((G.getD k []).getD j 0))) := hcells
    have HA : Hid (0 < (G.getD k []).length → a = some ⟨rb, ro, none⟩) := fun h => (hrow h).1
    clear hrow hcells
    generalize hR : G.getD k [] = R at *
    have HRR : Hid (G.getD k [] = R) := hR
    clear hR
    go_wp2
    go_loopw [5] (fun i wr => ∃ m : Nat, m ≤ R.length ∧ i = .int .i64 m ∧ wr = w ∧ Hid (∀ j, j < m → 0 ≤ R.getD j 0 ∧ R.getD j 0 < G.length)) (fun i _ => R.length - (intOf i).toNat)
    case atStart => exact ⟨0, Nat.zero_le _, rfl, rfl, fun j hj => absurd hj (Nat.not_lt_zero _)⟩
    case round =>
      obtain ⟨m, hm2, rfl, hwr, hq⟩ := hrel
      obtain rfl := hwr.symm
      clear hwr
      by_cases hlt2 : m < R.length
      case neg =>
        go_wp2
        go_roundw
        case rel =>
          refine ⟨k + 1, by omega, by go_num, by first | rfl | trivial, fun i hi j hj2 => ?_⟩
          by_cases e : i = k
          · subst e; rw [HRR.out] at hj2 ⊢; exact hq.out j (by omega)
          · exact hj.out i (by omega) j hj2
        case measure => simp [intOf]; omega
      have hcell := HR.out m hlt2
      obtain rfl := HA.out (by omega)
      have hfit := HF.out k hlt m (by rw [HRR.out]; exact hlt2)
      rw [HRR.out] at hfit
      generalize hx : R.getD m 0 = x at *
      have HX : Hid (R.getD m 0 = x) := hx
      clear hx
      by_cases hx0 : x < 0
      · go_wp2
        go_ret
        exact ⟨false, rfl, rfl, by simp⟩
      by_cases hx1 : x < G.length
      · go_wp2
        go_roundw
        case rel =>
          refine ⟨m + 1, by omega, by go_num, by first | rfl | trivial, fun j hj2 => ?_⟩
          by_cases e : j = m
          · rw [e, HX.out]; omega
          · exact hq.out j (by omega)
        case measure => simp [intOf]; omega
      · go_wp2
        go_ret
        exact ⟨false, rfl, rfl, by simp⟩
end CY
end Go.Proofs.Qxb6003137a
