/- optsBytes: some number, nothing written. -/
import Derived.Test.Qxb6001673aAppBytes
namespace Go.Proofs.Qxb6001673a
open Go.ChangeShapes Go.WideShapes Go.ChangeAt Go.RowKit
set_option linter.unusedVariables false
set_option linter.unusedSimpArgs false
namespace App
open Car (nil31 info9 Says)

def SomeInt (w : World) (e : Ending) (w' : World) : Prop := ∃ (x : Int) (n : Nat), e = .returned (.int .i64 x) ∧ w' = w.drewN n

set_option maxRecDepth 100000 in
set_option maxHeartbeats 2000000 in
theorem optsBytes_any (os : List O) (at0 : Option Addr) (b off cap B : Nat) (w : World) (h : OS w at0 b off B os) (hs : Small os) (htl : ∀ o ∈ os, o.grp.size ≤ 9223372036854775807) :
    Calls Try.prog 43 #[.slice at0 os.length cap] w (SomeInt w) := by
  have hx := hs.len
  have HTL : Hid (∀ o ∈ os, o.grp.size ≤ 9223372036854775807) := htl
  have HST : Hid (∀ o ∈ os, ∀ s ∈ o.tags, s.size ≤ 1048576) := hs.strs
  have HT : Hid (∀ o ∈ os, o.tags.length ≤ 1048576) := fun o ho => by
    obtain ⟨i, hi, rfl⟩ := List.getElem_of_mem ho
    have h1 := tagCount_take_succ os i hi
    have h2 := tagCount_take_le os (i + 1)
    have := hs.tags
    omega
  clear htl hs
  go_enter Try.func43, Try.ntmps43
  go_wp2
  go_loopw [3, 4, 5] (fun z i _ wr => ∃ (k n : Nat) (x : Int), k ≤ os.length ∧ i = .int .i64 k ∧ z = .int .i64 x ∧ 0 ≤ x ∧ x ≤ 67108864 ∧ wr = w.drewN n) (fun _ i _ _ => os.length - (intOf i).toNat)
  case atStart => exact ⟨0, 0, _, Nat.zero_le _, rfl, rfl, by omega, by omega, rfl⟩
  case round =>
    obtain ⟨k, nd, x, hk, rfl, rfl, hx0, hx1, rfl⟩ := hrel
    by_cases hlt : k < os.length
    case neg =>
      go_wp2
      go_ret
      exact ⟨_, _, rfl, rfl⟩
    have ha := h.addr (by omega)
    subst ha
    obtain ⟨⟨ta, tb, to, tc, c0, hss, hna, hB⟩, c1, c2, c3, c4⟩ := h.cell k hlt
    have hb3 := HTL.out _ (List.getElem_mem hlt)
    have ht := HT.out _ (List.getElem_mem hlt)
    have HS := HST.out _ (List.getElem_mem hlt)
    have HS2 : Hid (∀ s ∈ os[k].tags, s.size ≤ 1048576) := HS
    clear HS
    generalize os[k] = o at *
    have hi1 : (k : Int) < (os.length : Int) := by omega
    by_cases hg : o.grp.size ≤ 1048576
    case neg =>
      go_wp2
      go_ret
      exact ⟨_, _, rfl, rfl⟩
    go_wp2_with fail
    go_quiet (fail)
    go_wp2_with fail
    go_loopw [3, 5] (fun z i wr => ∃ (m n : Nat) (y : Int), m ≤ o.tags.length ∧ i = .int .i64 m ∧ z = .int .i64 y ∧ 0 ≤ y ∧ y ≤ 100000000 + m * 1048576 ∧ wr = w.drewN n) (fun _ i _ => o.tags.length - (intOf i).toNat)
    case atStart => exact ⟨0, nd + nq, _, Nat.zero_le _, rfl, rfl, by omega, by omega, World.drewN_drewN _ _ _⟩
    case round =>
      obtain ⟨m, n2, y, hm, rfl, rfl, hy0, hy1, rfl⟩ := hrel
      by_cases hmt : m < o.tags.length
      case pos =>
        have hc := hss.cell m hmt
        have hat := hss.addr (by omega)
        subst hat
        have hsz := HS2.out _ (List.getElem_mem hmt)
        go_wp2
        go_roundw
        case rel => exact ⟨m + 1, _, _, by omega, by go_num, rfl, by omega, by omega, rfl⟩
        case measure => simp [intOf]; omega
      by_cases hyy : y ≤ 1048576
      case neg =>
        go_wp2
        go_ret
        exact ⟨_, _, rfl, rfl⟩
      go_wp2
      go_roundw
      case rel => exact ⟨k + 1, _, y, by omega, by go_num, rfl, by omega, by omega, rfl⟩
      case measure => simp [intOf]; omega
end App
end Go.Proofs.Qxb6001673a
