/- zzBytes_FnApplyMatchesBackwardModel and optsBytes. -/
import Derived.Test.Qxb6001673aAppRows
import Derived.Test.Qxb6001673aCarBig
namespace Go.Proofs.Qxb6001673a
open Go.ChangeShapes Go.WideShapes Go.ChangeAt Go.RowKit
set_option linter.unusedVariables false
set_option linter.unusedSimpArgs false
namespace App
open Car (nil31 info9 Says)

/-- What a true answer of zzBytes tells. -/
structure Small (os : List O) : Prop where
  len : os.length ≤ 1048576
  tags : tagCount os ≤ 1048576
  strs : ∀ o ∈ os, ∀ s ∈ o.tags, s.size ≤ 1048576

def StrsTo (os : List O) (k : Nat) : Prop := ∀ j (h : j < os.length), j < k → ∀ s ∈ os[j].tags, s.size ≤ 1048576

theorem StrsTo.all {os : List O} {k : Nat} (h : StrsTo os k) (hk : os.length ≤ k) : ∀ o ∈ os, ∀ s ∈ o.tags, s.size ≤ 1048576 := by
  intro o ho s hs
  obtain ⟨i, hi, rfl⟩ := List.getElem_of_mem ho
  exact h i hi (by omega) s hs

theorem StrsTo.next {os : List O} {k : Nat} (h : StrsTo os k) (hk : k < os.length) (hn : ∀ s ∈ os[k].tags, s.size ≤ 1048576) : StrsTo os (k + 1) := by
  intro j hj hjk s hs
  by_cases e : j = k
  · subst e; exact hn s hs
  · exact h j hj (by omega) s hs

set_option maxRecDepth 100000 in
set_option maxHeartbeats 2000000 in
theorem zzBytes_any (os : List O) (at0 : Option Addr) (b off cap B : Nat) (w : World) (h : OS w at0 b off B os) (hl : os.length ≤ 9223372036854775807) (htl : ∀ o ∈ os, o.tags.length ≤ 9223372036854775807 ∧ (∀ s ∈ o.tags, s.size ≤ 9223372036854775807) ∧ o.grp.size ≤ 9223372036854775807) :
    Calls Try.prog 42 #[.slice at0 os.length cap] w (Says (Small os) w) := by
  have HTL : Hid (∀ o ∈ os, o.tags.length ≤ 9223372036854775807 ∧ (∀ s ∈ o.tags, s.size ≤ 9223372036854775807) ∧ o.grp.size ≤ 9223372036854775807) := htl
  clear htl
  by_cases hx : os.length ≤ 1048576
  case neg =>
    go_enter Try.func42, Try.ntmps42
    go_wp2
    go_ret
    exact ⟨false, rfl, rfl, by simp⟩
  go_enter Try.func42, Try.ntmps42
  go_wp2
  go_loop [3, 4, 5] (fun z i _ => ∃ k n : Nat, k ≤ os.length ∧ i = .int .i64 k ∧ z = .int .i64 n ∧ n ≤ 1048576 ∧ Hid (tagCount (os.take k) ≤ n) ∧ Hid (StrsTo os k)) (fun _ i _ => os.length - (intOf i).toNat)
  case atStart => exact ⟨0, os.length, Nat.zero_le _, rfl, rfl, hx, Nat.zero_le _, fun j _ hj => absurd hj (Nat.not_lt_zero _)⟩
  case round =>
    obtain ⟨k, n, hk, rfl, rfl, hn, htc, hst⟩ := hrel
    by_cases hlt : k < os.length
    case neg =>
      go_wp2
      go_ret
      exact ⟨true, rfl, rfl, fun _ => ⟨hx, Nat.le_trans (by have := htc.out; rwa [List.take_of_length_le (by omega)] at this) hn, hst.out.all (by omega)⟩⟩
    have ha := h.addr (by omega)
    subst ha
    obtain ⟨⟨ta, tb, to, tc, c0, hss, hna, hB⟩, c1, c2, c3, c4⟩ := h.cell k hlt
    obtain ⟨hb1, hb2, hb3⟩ := HTL.out _ (List.getElem_mem hlt)
    have HTC : Hid (tagCount (os.take (k + 1)) = tagCount (os.take k) + os[k].tags.length) := tagCount_take_succ os k hlt
    have HNX : Hid ((∀ s ∈ os[k].tags, s.size ≤ 1048576) → StrsTo os (k + 1)) := fun hs => hst.out.next hlt hs
    have HB2 : Hid (∀ s ∈ os[k].tags, s.size ≤ 9223372036854775807) := hb2
    clear hb2
    generalize os[k] = o at *
    by_cases ht : o.tags.length ≤ 1048576
    case neg =>
      go_wp2
      go_ret
      exact ⟨false, rfl, rfl, by simp⟩
    by_cases hn1 : n + o.tags.length ≤ 1048576
    case neg =>
      go_wp2
      go_ret
      exact ⟨false, rfl, rfl, by simp⟩
    go_wp2
    go_loop [3, 5] (fun z i => ∃ m n' : Nat, m ≤ o.tags.length ∧ i = .int .i64 m ∧ z = .int .i64 n' ∧ n' ≤ 1048576 ∧ n + o.tags.length ≤ n' ∧ Hid (∀ j, j < m → (o.tags.getD j ByteArray.empty).size ≤ 1048576)) (fun _ i => o.tags.length - (intOf i).toNat)
    case atStart => exact ⟨0, n + o.tags.length, Nat.zero_le _, rfl, by go_num, hn1, Nat.le_refl _, fun j hj => absurd hj (Nat.not_lt_zero _)⟩
    case round =>
      obtain ⟨m, n', hm, rfl, rfl, hn', hnn, hj⟩ := hrel
      by_cases hmt : m < o.tags.length
      case pos =>
        have hc := hss.cell m hmt
        have hat := hss.addr (by omega)
        subst hat
        have hsz := HB2.out _ (List.getElem_mem hmt)
        by_cases hz : o.tags[m].size ≤ 1048576
        case neg =>
          go_wp2
          go_ret
          exact ⟨false, rfl, rfl, by simp⟩
        by_cases hz2 : n' + o.tags[m].size ≤ 1048576
        case neg =>
          go_wp2
          go_ret
          exact ⟨false, rfl, rfl, by simp⟩
        go_wp2
        go_round
        case rel =>
          refine ⟨m + 1, n' + o.tags[m].size, by omega, by go_num, by go_num, hz2, by omega, fun j hj2 => ?_⟩
          by_cases e : j = m
          · rw [e, Car.getD_of_lt _ _ hmt]; exact hz
          · exact hj.out j (by omega)
        case measure => simp [intOf]; omega
      by_cases hg : o.grp.size ≤ 1048576
      case neg =>
        go_wp2
        go_ret
        exact ⟨false, rfl, rfl, by simp⟩
      by_cases hg2 : n' + o.grp.size ≤ 1048576
      case neg =>
        go_wp2
        go_ret
        exact ⟨false, rfl, rfl, by simp⟩
      go_wp2
      go_round
      case rel => exact ⟨k + 1, n' + o.grp.size, by omega, by go_num, by go_num, hg2, by have := htc.out; show tagCount _ ≤ _; rw [HTC.out]; omega, HNX.out (Car.small_of o.tags (fun j h => hj.out j (by omega)))⟩
      case measure => simp [intOf]; omega
end App
end Go.Proofs.Qxb6001673a
