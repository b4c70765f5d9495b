/- trimmedDCFLine. -/
import Derived.Test.Qxb6001700aFin
namespace Go.Proofs.Qxb6001700a
open Go.ChangeShapes Go.WideShapes Go.ChangeAt Go.RowKit
set_option linter.unusedVariables false
set_option linter.unusedSimpArgs false
namespace EL

def Line (xs : List UInt8) (w : World) (e : Ending) (w' : World) : Prop := ∃ t, e = .returned (.string t) ∧ bytesOf t = xs ∧ w' = w

theorem byteAt (s : ByteArray) (k : Nat) (h : k < s.size) : (bytesOf s).getD k 0 = s[k] := by
  have h2 : k < s.data.size := h
  rw [bytesOf, List.getD_eq_getElem?_getD, Array.getElem?_toList, Array.getElem?_eq_getElem h2]
  rfl

theorem toList46 : (⟨#[46]⟩ : ByteArray).toList = [46] := by kernel_rfl

theorem dotEq (t : ByteArray) : (t.toList == [46]) = decide (bytesOf t = [46]) := by
  rw [← toList46, Bool.eq_iff_iff, Lib.bytes_beq_iff, decide_eq_true_iff]
  constructor
  · rintro rfl; rw [toList46]; rfl
  · intro h
    rw [toList46] at h
    obtain ⟨d⟩ := t
    have h2 : d.toList = [46] := h
    congr 1
    apply Array.ext'
    simpa using h2

theorem bytesOf_extract (s : ByteArray) (a b : Nat) : bytesOf (s.extract a b) = ((bytesOf s).drop a).take (b - a) := by
  simp [bytesOf, ByteArray.data_extract, List.drop_take]

theorem trimmed_eq (B : List UInt8) (k e : Nat) (hk : lead B = k) (he : trimTo B k B.length = e) : trimmed B = if ((B.drop k).take (e - k)) = [46] then [] else (B.drop k).take (e - k) := by
  have hle := lead_le B
  have hA : (B.take k).length = k := by simp; omega
  have h1 := trimTo_shift (B.take k) (B.drop k) (B.drop k).length
  rw [List.take_append_drop, hA] at h1
  have h2 : k + (B.drop k).length = B.length := by simp; omega
  rw [h2, he] at h1
  unfold trimmed fin
  rw [hk, h1, Nat.add_sub_cancel_left]

set_option maxHeartbeats 1000000 in
theorem tline41 (s : ByteArray) (w : World) (hs : s.size ≤ 1048576) : Calls Try.prog 41 #[.string s] w (Line (trimmed (bytesOf s)) w) := by
  go_enter Try.func41, Try.ntmps41
  go_wp2
  go_loop [3] (fun i => ∃ k : Nat, k ≤ s.size ∧ i = .int .i64 k ∧ Hid (∀ j (h : j < (bytesOf s).length), j < k → blank (bytesOf s)[j] = true)) (fun i => s.size - (intOf i).toNat)
  case atStart => exact ⟨0, Nat.zero_le _, rfl, fun j _ hj => absurd hj (Nat.not_lt_zero _)⟩
  case round =>
    obtain ⟨k, hk, rfl, hbl⟩ := hrel
    by_cases hlt : k < s.size
    · have HBX : Hid ((bytesOf s).getD k 0 = s[k]) := byteAt s k hlt
      have HBX2 : Hid (∀ h : k < (bytesOf s).length, (bytesOf s)[k]'h = s[k]'hlt) := fun h => by
        have e := HBX.out
        rw [List.getD_eq_getElem?_getD, List.getElem?_eq_getElem h] at e
        exact e
      have p1 : ((s[k].toNat : Int) == 32) = (s[k] == 32) := toNat_eq _ 32
      have p2 : ((s[k].toNat : Int) == 9) = (s[k] == 9) := toNat_eq _ 9
      have NX : Hid (blank s[k] = true → ∀ j (h : j < (bytesOf s).length), j < k + 1 → blank (bytesOf s)[j] = true) := fun hb j h hj => by
        by_cases e : j = k
        · subst e; rw [HBX2.out]; exact hb
        · exact hbl.out j h (by omega)
      cases hy1 : (s[k] == 32) with
      | true =>
        have r1 := p1.trans hy1
        have HBY : Hid (blank s[k] = true) := by show _ = _; rw [blank, hy1]; rfl
        clear p1 p2 hy1
        go_wp2
        go_round
        case rel => exact ⟨k + 1, by omega, by go_num, NX.out HBY.out⟩
        case measure => simp [intOf]; omega
      | false =>
        have r1 := p1.trans hy1
        cases hy2 : (s[k] == 9) with
        | true =>
          have r2 := p2.trans hy2
          have HBY : Hid (blank s[k] = true) := by show _ = _; rw [blank, hy1, hy2]; rfl
          clear p1 p2 hy1 hy2
          go_wp2
          go_round
          case rel => exact ⟨k + 1, by omega, by go_num, NX.out HBY.out⟩
          case measure => simp [intOf]; omega
        | false =>
          have r2 := p2.trans hy2
          have HLD : Hid (lead (bytesOf s) = k) := lead_eq _ k (by rw [bytesOf_len]; exact hk) hbl.out (fun h => by rw [HBX2.out, blank, hy1, hy2]; rfl)
          clear p1 p2 hy1 hy2 NX HBX HBX2
          go_wp2
          go_loop [4] (fun en => ∃ e : Nat, k ≤ e ∧ e ≤ s.size ∧ en = .int .i64 e ∧ Hid (trimTo (bytesOf s) k s.size = trimTo (bytesOf s) k e)) (fun en => (intOf en).toNat)
          case atStart => exact ⟨s.size, hk, Nat.le_refl _, rfl, rfl⟩
          case round =>
            obtain ⟨e, he1, he2, rfl, HT⟩ := hrel
            by_cases hlt2 : k < e
            · obtain ⟨e', rfl⟩ : ∃ e', e = e' + 1 := ⟨e - 1, by omega⟩
              have hes : e' < s.size := by omega
              have HBX : Hid ((bytesOf s).getD e' 0 = s[e']) := byteAt s e' hes
              have hcond : (k : Int) < (e' : Int) + 1 := by omega
              have p1 : ((s[e'].toNat : Int) == 32) = (s[e'] == 32) := toNat_eq _ 32
              have p2 : ((s[e'].toNat : Int) == 9) = (s[e'] == 9) := toNat_eq _ 9
              cases hy1 : (s[e'] == 32) with
              | true =>
                have r1 := p1.trans hy1
                have HBY : Hid (blank s[e'] = true) := by show _ = _; rw [blank, hy1]; rfl
                clear p1 p2 hy1
                go_wp2
                go_round
                case rel => exact ⟨e', by omega, by omega, by first | go_num | (congr 1; omega), HT.out.trans (trimTo_step _ k e' (by omega) (by rw [HBX.out]; exact HBY.out))⟩
                case measure => simp [intOf]
              | false =>
                have r1 := p1.trans hy1
                cases hy2 : (s[e'] == 9) with
                | true =>
                  have r2 := p2.trans hy2
                  have HBY : Hid (blank s[e'] = true) := by show _ = _; rw [blank, hy1, hy2]; rfl
                  clear p1 p2 hy1 hy2
                  go_wp2
                  go_round
                  case rel => exact ⟨e', by omega, by omega, by first | go_num | (congr 1; omega), HT.out.trans (trimTo_step _ k e' (by omega) (by rw [HBX.out]; exact HBY.out))⟩
                  case measure => simp [intOf]
                | false =>
                  have r2 := p2.trans hy2
                  have HSTOP : Hid (trimTo (bytesOf s) k (e' + 1) = e' + 1) := trimTo_keep _ k e' (by rw [HBX.out, blank, hy1, hy2]; rfl)
                  clear p1 p2 hy1 hy2
                  have HEX : Hid (bytesOf (s.extract k (e' + 1)) = ((bytesOf s).drop k).take ((e' + 1) - k)) := bytesOf_extract s k (e' + 1)
                  have HTM : Hid (trimmed (bytesOf s) = if ((bytesOf s).drop k).take ((e' + 1) - k) = [46] then [] else ((bytesOf s).drop k).take ((e' + 1) - k)) := trimmed_eq _ k (e' + 1) HLD.out (by rw [bytesOf_len]; exact HT.out.trans HSTOP.out)
                  by_cases hdot : ((bytesOf s).drop k).take ((e' + 1) - k) = [46]
                  · have hq : ((s.extract k (e' + 1)).toList == [46]) = true := by rw [dotEq, HEX.out]; exact decide_eq_true hdot
                    have HF : Hid (trimmed (bytesOf s) = []) := by show _ = _; rw [HTM.out, if_pos hdot]
                    clear hdot
                    go_wp2
                    go_ret
                    exact ⟨_, rfl, by rw [HF.out]; rfl, rfl⟩
                  · have hq : ((s.extract k (e' + 1)).toList == [46]) = false := by rw [dotEq, HEX.out]; exact decide_eq_false hdot
                    have HF : Hid (trimmed (bytesOf s) = bytesOf (s.extract k (e' + 1))) := by show _ = _; rw [HTM.out, if_neg hdot, HEX.out]
                    clear hdot
                    go_wp2
                    go_ret
                    exact ⟨_, rfl, HF.out.symm, rfl⟩
            · have HSTOP : Hid (trimTo (bytesOf s) k e = e) := trimTo_stop _ k e (by omega)
              have HEX : Hid (bytesOf (s.extract k e) = ((bytesOf s).drop k).take (e - k)) := bytesOf_extract s k e
              have HTM : Hid (trimmed (bytesOf s) = if ((bytesOf s).drop k).take (e - k) = [46] then [] else ((bytesOf s).drop k).take (e - k)) := trimmed_eq _ k e HLD.out (by rw [bytesOf_len]; exact HT.out.trans HSTOP.out)
              by_cases hdot : ((bytesOf s).drop k).take (e - k) = [46]
              · have hq : ((s.extract k e).toList == [46]) = true := by rw [dotEq, HEX.out]; exact decide_eq_true hdot
                have HF : Hid (trimmed (bytesOf s) = []) := by show _ = _; rw [HTM.out, if_pos hdot]
                clear hdot
                go_wp2
                go_ret
                exact ⟨_, rfl, by rw [HF.out]; rfl, rfl⟩
              · have hq : ((s.extract k e).toList == [46]) = false := by rw [dotEq, HEX.out]; exact decide_eq_false hdot
                have HF : Hid (trimmed (bytesOf s) = bytesOf (s.extract k e)) := by show _ = _; rw [HTM.out, if_neg hdot, HEX.out]
                clear hdot
                go_wp2
                go_ret
                exact ⟨_, rfl, HF.out.symm, rfl⟩
    · have HLD : Hid (lead (bytesOf s) = k) := lead_eq _ k (by rw [bytesOf_len]; exact hk) hbl.out (fun h => by rw [bytesOf_len] at h; exact absurd h hlt)
      go_wp2
      go_loop [4] (fun en => ∃ e : Nat, k ≤ e ∧ e ≤ s.size ∧ en = .int .i64 e ∧ Hid (trimTo (bytesOf s) k s.size = trimTo (bytesOf s) k e)) (fun en => (intOf en).toNat)
      case atStart => exact ⟨s.size, hk, Nat.le_refl _, rfl, rfl⟩
      case round =>
        obtain ⟨e, he1, he2, rfl, HT⟩ := hrel
        by_cases hlt2 : k < e
        · obtain ⟨e', rfl⟩ : ∃ e', e = e' + 1 := ⟨e - 1, by omega⟩
          have hes : e' < s.size := by omega
          have HBX : Hid ((bytesOf s).getD e' 0 = s[e']) := byteAt s e' hes
          have hcond : (k : Int) < (e' : Int) + 1 := by omega
          have p1 : ((s[e'].toNat : Int) == 32) = (s[e'] == 32) := toNat_eq _ 32
          have p2 : ((s[e'].toNat : Int) == 9) = (s[e'] == 9) := toNat_eq _ 9
          cases hy1 : (s[e'] == 32) with
          | true =>
            have r1 := p1.trans hy1
            have HBY : Hid (blank s[e'] = true) := by show _ = _; rw [blank, hy1]; rfl
            clear p1 p2 hy1
            go_wp2
            go_round
            case rel => exact ⟨e', by omega, by omega, by first | go_num | (congr 1; omega), HT.out.trans (trimTo_step _ k e' (by omega) (by rw [HBX.out]; exact HBY.out))⟩
            case measure => simp [intOf]
          | false =>
            have r1 := p1.trans hy1
            cases hy2 : (s[e'] == 9) with
            | true =>
              have r2 := p2.trans hy2
              have HBY : Hid (blank s[e'] = true) := by show _ = _; rw [blank, hy1, hy2]; rfl
              clear p1 p2 hy1 hy2
              go_wp2
              go_round
              case rel => exact ⟨e', by omega, by omega, by first | go_num | (congr 1; omega), HT.out.trans (trimTo_step _ k e' (by omega) (by rw [HBX.out]; exact HBY.out))⟩
              case measure => simp [intOf]
            | false =>
              have r2 := p2.trans hy2
              have HSTOP : Hid (trimTo (bytesOf s) k (e' + 1) = e' + 1) := trimTo_keep _ k e' (by rw [HBX.out, blank, hy1, hy2]; rfl)
              clear p1 p2 hy1 hy2
              have HEX : Hid (bytesOf (s.extract k (e' + 1)) = ((bytesOf s).drop k).take ((e' + 1) - k)) := bytesOf_extract s k (e' + 1)
              have HTM : Hid (trimmed (bytesOf s) = if ((bytesOf s).drop k).take ((e' + 1) - k) = [46] then [] else ((bytesOf s).drop k).take ((e' + 1) - k)) := trimmed_eq _ k (e' + 1) HLD.out (by rw [bytesOf_len]; exact HT.out.trans HSTOP.out)
              by_cases hdot : ((bytesOf s).drop k).take ((e' + 1) - k) = [46]
              · have hq : ((s.extract k (e' + 1)).toList == [46]) = true := by rw [dotEq, HEX.out]; exact decide_eq_true hdot
                have HF : Hid (trimmed (bytesOf s) = []) := by show _ = _; rw [HTM.out, if_pos hdot]
                clear hdot
                go_wp2
                go_ret
                exact ⟨_, rfl, by rw [HF.out]; rfl, rfl⟩
              · have hq : ((s.extract k (e' + 1)).toList == [46]) = false := by rw [dotEq, HEX.out]; exact decide_eq_false hdot
                have HF : Hid (trimmed (bytesOf s) = bytesOf (s.extract k (e' + 1))) := by show _ = _; rw [HTM.out, if_neg hdot, HEX.out]
                clear hdot
                go_wp2
                go_ret
                exact ⟨_, rfl, HF.out.symm, rfl⟩
        · have HSTOP : Hid (trimTo (bytesOf s) k e = e) := trimTo_stop _ k e (by omega)
          have HEX : Hid (bytesOf (s.extract k e) = ((bytesOf s).drop k).take (e - k)) := bytesOf_extract s k e
          have HTM : Hid (trimmed (bytesOf s) = if ((bytesOf s).drop k).take (e - k) = [46] then [] else ((bytesOf s).drop k).take (e - k)) := trimmed_eq _ k e HLD.out (by rw [bytesOf_len]; exact HT.out.trans HSTOP.out)
          by_cases hdot : ((bytesOf s).drop k).take (e - k) = [46]
          · have hq : ((s.extract k e).toList == [46]) = true := by rw [dotEq, HEX.out]; exact decide_eq_true hdot
            have HF : Hid (trimmed (bytesOf s) = []) := by show _ = _; rw [HTM.out, if_pos hdot]
            clear hdot
            go_wp2
            go_ret
            exact ⟨_, rfl, by rw [HF.out]; rfl, rfl⟩
          · have hq : ((s.extract k e).toList == [46]) = false := by rw [dotEq, HEX.out]; exact decide_eq_false hdot
            have HF : Hid (trimmed (bytesOf s) = bytesOf (s.extract k e)) := by show _ = _; rw [HTM.out, if_neg hdot, HEX.out]
            clear hdot
            go_wp2
            go_ret
            exact ⟨_, rfl, HF.out.symm, rfl⟩
end EL
end Go.Proofs.Qxb6001700a
