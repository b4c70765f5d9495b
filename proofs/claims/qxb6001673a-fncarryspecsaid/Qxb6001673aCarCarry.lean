/- The contract of Carry. -/
import Derived.Test.Qxb6001673aCarBig
namespace Go.Proofs.Qxb6001673a
open Go.ChangeShapes Go.WideShapes Go.ChangeAt Go.RowKit
set_option linter.unusedVariables false
set_option linter.unusedSimpArgs false
namespace Car

/-- What the tags are behind own's first k: the list carry A (own.take k), at some place; A's own slice where nothing was added. -/
def Tags (A T : List ByteArray) (at0 : Option Addr) (cap : Nat) (w : World) (v : Value) (wr : World) : Prop :=
  ∃ (at' : Option Addr) (b' off' cap' : Nat), v = .slice at' T.length cap' ∧ SS wr at' b' off' T ∧ Hid (at' = none → T.length = 0 ∧ cap' = 0) ∧ T.length ≤ cap' ∧ cap' ≤ 9223372036854775807 ∧ Hid (T.length = A.length → at' = at0 ∧ cap' = cap) ∧ Below w.heap.size w wr

theorem tags_owned {A T : List ByteArray} {x : ByteArray} {at0 : Option Addr} {cap : Nat} {w wr w1 : World} {v : Value} {o : Obj} (hA : A.length ≤ T.length)
    (hbel : Below w.heap.size w wr) {B' : Nat} (hown : w1.ownsRow B' 9 1 v (T.length + 1) (T.map Value.string ++ [.string x])) (hgrow : (wr.alloc o).grownBy w1 none) :
    ∃ g cap', v = .slice (some ⟨g, 0, none⟩) (T ++ [x]).length cap' ∧ Tags A (T ++ [x]) at0 cap w v w1 := by
  obtain ⟨hl, h⟩ := hown
  rcases h with ⟨_, h⟩ | ⟨g, cp, cur, rfl, hg, hh, hn, hm, hcs, htk⟩
  · omega
  refine ⟨g, cp, by simp, some ⟨g, 0, none⟩, g, 0, cp, by simp, ⟨fun _ => rfl, fun i hi => ?_⟩, (fun e => by cases e), by simpa using hn, hm, ?_, ?_⟩
  · have hc : w1.cell? ⟨g, 0 + i, none⟩ = cur[i]? := by simp [World.cell?, hh]
    rw [hc]
    have e : cur[i]? = (cur.toList.take ((T.length + 1) * 1))[i]? := by
      rw [List.getElem?_take, if_pos (by simp at hi; omega)]; simp
    rw [e, htk]
    have e2 : T.map Value.string ++ [.string x] = (T ++ [x]).map Value.string := by simp
    rw [e2, List.getElem?_map, List.getElem?_eq_getElem hi]
    simp only [Option.map_some, List.getD, List.getElem?_eq_getElem hi, Option.getD_some]
  · intro e; simp at e; omega
  · have hs := hbel.size
    exact (hbel.alloc (by omega) o).grown hgrow (by simp; omega) (by simp)

theorem bel_alloc (w : World) (o : Obj) : Below w.heap.size w (w.alloc o) := (Below.refl _ _).alloc (Nat.le_refl _) o

set_option maxHeartbeats 1000000 in
theorem carry_any (A own : List ByteArray) (at0 at1 : Option Addr) (b0 o0 c0 b1 o1 c1 : Nat) (w : World) (h0 : SS w at0 b0 o0 A) (h1 : SS w at1 b1 o1 own) (hn0 : Hid (at0 = none → A.length = 0 ∧ c0 = 0)) (hc0 : A.length ≤ c0) (hm0 : c0 ≤ 9223372036854775807)
    (hl0 : A.length ≤ 1024) (hl1 : own.length ≤ 1024) :
    Calls Try.prog 38 #[.slice at0 A.length c0, .slice at1 own.length c1] w fun e w' => ∃ v, e = .returned v ∧ Tags A (carry A own) at0 c0 w v w' := by
  obtain ⟨i0, hi, hz0, hz1, hz2⟩ := info_parts info9
  go_enter Try.func38, Try.ntmps38
  go_wp2
  go_loopw [5, 7, 11] (fun v _ i wr => ∃ k : Nat, k ≤ own.length ∧ i = .int .i64 k ∧ Tags A (carry A (own.take k)) at0 c0 w v wr) (fun _ _ i _ => own.length - (intOf i).toNat)
  case atStart => exact ⟨0, Nat.zero_le _, rfl, at0, b0, o0, c0, rfl, h0, hn0, hc0, hm0, fun _ => ⟨rfl, rfl⟩, Below.refl _ _⟩
  case round =>
    obtain ⟨k, hk, rfl, htags⟩ := hrel
    by_cases hlt : k < own.length
    · have hstep := carry_take_succ A own k hlt
      have hlen := carry_len A (own.take k)
      have hlk : (own.take k).length ≤ 1024 := by simp; omega
      generalize carry A (own.take k) = T at *
      obtain ⟨at', b', off', cap', rfl, hss, hnn, hlc, hcm, hsame, hbel⟩ := htags
      have hc := (h1.belowAll hbel).cell k hlt
      have ha := h1.addr (by omega)
      subst ha
      have hTl : T.length ≤ 2048 := by omega
      by_cases hx : idx T own[k] < 0
      · have hd : decide (0 ≤ idx T own[k]) = false := decide_eq_false (by omega)
        have HS0 : carry A (own.take (k + 1)) = T ++ [own[k]] := by rw [hstep, step, if_pos hx]
        have HS : Hid (carry A (own.take (k + 1)) = T ++ [own[k]]) := HS0
        clear HS0
        clear hstep
        go_wp2_with (first | (go_at_call 59; refine (contains_any T own[k] at' b' off' cap' _ hss (by omega)).mono ?_; rintro e w' ⟨rfl, hw⟩; obtain rfl := hw.symm) | (go_at_call 60; refine (clip_any at' T.length cap' hlc (fun h => (hnn.out h).2) (by unfold maxLen; omega) _).mono ?_; rintro e w' ⟨rfl, hw⟩; obtain rfl := hw.symm) | (at_builtin; (refine wpList_append_grows _ rfl (.tmp 20) (.tmp 22) 31 rfl 9 i0 (.string ByteArray.empty) 1 16 Try.underlying31 hi hz0 hz1 hz2 rfl (by decide) at' T.length T.length (T.map Value.string) rfl ?c1 ?c2 ?c3 ⟨wr.heap.size, 0, none⟩ 1 1 [.string own[k]] rfl rfl ?c4 ?c5 ?c6 ?c7 ?c8 ?_)))
        case c1 => exact fun h => ⟨(hnn.out h).1, (hnn.out h).1⟩
        case c2 => simp
        case c3 =>
          intro b hb j u hu
          obtain ⟨hj, hu2⟩ := List.getElem?_eq_some_iff.1 hu
          simp at hj hu2
          have ha := hss.addr (by omega)
          rw [ha] at hb
          obtain rfl := Option.some.inj hb
          rw [Addr.add_lit, (bel_alloc wr _).cell (p := ⟨b', off' + j, none⟩) (hss.lt (by omega)), hss.cell j hj, ← hu2, getD_of_lt T j hj]
        case c4 =>
          intro j u hj
          match j, hj with
          | 0, hj => simp at hj; subst hj; simp [Addr.add]
        case c5 => intro u hu; simp at hu; subst hu; rfl
        case c6 => omega
        case c7 => unfold maxLen; omega
        case c8 => omega
        · intro v' w1 hown hgrow
          obtain ⟨g, cp, rfl, R⟩ := tags_owned (A := A) (at0 := at0) (cap := c0) hlen.1 hbel hown hgrow
          clear hown hgrow
          go_wp2
          go_roundw
          case rel => exact ⟨k + 1, by omega, by go_num, by rw [HS.out]; exact R⟩
          case measure => simp [intOf]; omega
      · have hd : decide (0 ≤ idx T own[k]) = true := decide_eq_true (by omega)
        have HS0 : carry A (own.take (k + 1)) = T := by rw [hstep, step, if_neg hx]
        have HS : Hid (carry A (own.take (k + 1)) = T) := HS0
        clear HS0
        clear hstep
        go_wp2_with (first | (go_at_call 59; refine (contains_any T own[k] at' b' off' cap' _ hss (by omega)).mono ?_; rintro e w' ⟨rfl, hw⟩; obtain rfl := hw.symm))
        go_roundw
        case rel => exact ⟨k + 1, by omega, by go_num, by rw [HS.out]; exact ⟨at', b', off', cap', rfl, hss, hnn, hlc, hcm, hsame, hbel⟩⟩
        case measure => simp [intOf]; omega
    · go_wp2
      go_ret
      exact ⟨_, rfl, by rw [List.take_of_length_le (by omega)] at htags; exact htags⟩

end Car
end Go.Proofs.Qxb6001673a
