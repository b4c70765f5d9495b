/- Contracts of zzBytes_FnCarrySpec and of Carry. -/
import Derived.Test.Qxb6001673aCarStr
namespace Go.Proofs.Qxb6001673a
open Go.ChangeShapes Go.WideShapes Go.ChangeAt Go.RowKit
set_option linter.unusedVariables false
set_option linter.unusedSimpArgs false
namespace Car

theorem small_of (ss : List ByteArray) (h : ∀ j, j < ss.length → (ss.getD j ByteArray.empty).size ≤ 1048576) : ∀ s ∈ ss, s.size ≤ 1048576 := by
  intro s hs
  obtain ⟨i, hi, rfl⟩ := List.getElem_of_mem hs
  have := h i hi
  rwa [getD_of_lt ss i hi] at this

/-- It answers some Bool, in the same world; true says P. -/
def Says (P : Prop) (w : World) (e : Ending) (w' : World) : Prop := ∃ r : Bool, e = .returned (.bool r) ∧ w' = w ∧ (r = true → P)

set_option maxHeartbeats 1000000 in
theorem zzBytes_any (xs ys : List ByteArray) (at0 at1 : Option Addr) (b0 o0 c0 b1 o1 c1 : Nat) (w : World) (h0 : SS w at0 b0 o0 xs) (h1 : SS w at1 b1 o1 ys) (hl0 : xs.length ≤ 9223372036854775807) (hl1 : ys.length ≤ 9223372036854775807) :
    Calls Try.prog 35 #[.slice at0 xs.length c0, .slice at1 ys.length c1] w (Says ((∀ s ∈ xs, s.size ≤ 1048576) ∧ (∀ s ∈ ys, s.size ≤ 1048576)) w) := by
  by_cases hx : xs.length ≤ 1048576
  · go_enter Try.func35, Try.ntmps35
    go_wp2
    go_loop [5, 6] (fun z i => ∃ k n : Nat, k ≤ xs.length ∧ i = .int .i64 k ∧ z = .int .i64 n ∧ n ≤ 1048576 ∧ Hid (∀ j, j < k → (xs.getD j ByteArray.empty).size ≤ 1048576)) (fun _ i => xs.length - (intOf i).toNat)
    case atStart => exact ⟨0, xs.length, Nat.zero_le _, rfl, rfl, hx, fun j hj => absurd hj (Nat.not_lt_zero _)⟩
    case round =>
      obtain ⟨k, n, hk, rfl, rfl, hn, hj⟩ := hrel
      by_cases hlt : k < xs.length
      · have hc := h0.cell k hlt
        have ha := h0.addr (by omega)
        subst ha
        by_cases hz : xs[k].size ≤ 1048576
        · by_cases hn2 : n + xs[k].size ≤ 1048576
          · go_wp2
            go_round
            case rel =>
              refine ⟨k + 1, n + xs[k].size, by omega, by go_num, by go_num, hn2, fun j hj2 => ?_⟩
              by_cases e : j = k
              · rw [e, getD_of_lt _ _ hlt]; exact hz
              · exact hj.out j (by omega)
            case measure => simp [intOf]; omega
          · go_wp2
            go_ret
            exact ⟨false, rfl, rfl, by simp⟩
        · go_wp2
          go_ret
          exact ⟨false, rfl, rfl, by simp⟩
      · by_cases hy : ys.length ≤ 1048576
        · by_cases hny : n + ys.length ≤ 1048576
          · go_wp2
            go_loop [5, 7] (fun z i => ∃ k n : Nat, k ≤ ys.length ∧ i = .int .i64 k ∧ z = .int .i64 n ∧ n ≤ 1048576 ∧ Hid (∀ j, j < k → (ys.getD j ByteArray.empty).size ≤ 1048576)) (fun _ i => ys.length - (intOf i).toNat)
            case atStart => exact ⟨0, n + ys.length, Nat.zero_le _, rfl, by go_num, hny, fun j hj => absurd hj (Nat.not_lt_zero _)⟩
            case round =>
              obtain ⟨k2, n2, hk2, rfl, rfl, hn2, hj2⟩ := hrel
              by_cases hlt2 : k2 < ys.length
              · have hc := h1.cell k2 hlt2
                have ha := h1.addr (by omega)
                subst ha
                by_cases hz : ys[k2].size ≤ 1048576
                · by_cases hn3 : n2 + ys[k2].size ≤ 1048576
                  · go_wp2
                    go_round
                    case rel =>
                      refine ⟨k2 + 1, n2 + ys[k2].size, by omega, by go_num, by go_num, hn3, fun j hj3 => ?_⟩
                      by_cases e : j = k2
                      · rw [e, getD_of_lt _ _ hlt2]; exact hz
                      · exact hj2.out j (by omega)
                    case measure => simp [intOf]; omega
                  · go_wp2
                    go_ret
                    exact ⟨false, rfl, rfl, by simp⟩
                · go_wp2
                  go_ret
                  exact ⟨false, rfl, rfl, by simp⟩
              · go_wp2
                go_ret
                exact ⟨true, rfl, rfl, fun _ => ⟨small_of xs (fun j h => hj.out j (by omega)), small_of ys (fun j h => hj2.out j (by omega))⟩⟩
          · go_wp2
            go_ret
            exact ⟨false, rfl, rfl, by simp⟩
        · go_wp2
          go_ret
          exact ⟨false, rfl, rfl, by simp⟩
  · go_enter Try.func35, Try.ntmps35
    go_wp2
    go_ret
    exact ⟨false, rfl, rfl, by simp⟩

end Car
end Go.Proofs.Qxb6001673a
