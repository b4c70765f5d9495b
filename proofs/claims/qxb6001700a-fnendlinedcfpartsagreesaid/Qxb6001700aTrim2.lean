/- trimBlankEnd: the walk. -/
import Derived.Test.Qxb6001700aTrim
namespace Go.Proofs.Qxb6001700a
open Go.ChangeShapes Go.WideShapes Go.ChangeAt Go.RowKit
set_option linter.unusedVariables false
set_option linter.unusedSimpArgs false
namespace EL

theorem toNat_ne (a b : UInt8) : ((a.toNat : Int) != (b.toNat : Int)) = (a != b) := by
  rw [bne, bne, toNat_eq]

theorem blank_bne (x : UInt8) : blank x = !((x != 32) && (x != 9)) := by
  simp [blank, bne, Bool.not_and]

set_option maxHeartbeats 2000000 in
theorem trim51 (p : Nat) (A : Nat → Prop) (L : List UInt8) (start : Nat) (ln : Bool) (ls : Int) (ts : Bool) (w : World) (h : Holds w p A L ln ls ts) (hb : L.length ≤ 4194304) (hst : start ≤ L.length) :
    Calls Try.prog 51 #[.pointer (some ⟨p, 0, none⟩), .int .i64 start] w (Now p A w (L.take (trimTo L start L.length)) ln ls ts) := by
  have HH : Hid (Holds w p A L ln ls ts) := h
  clear h
  by_cases hE : L = []
  · have hd : decide (L = []) = true := decide_eq_true hE
    have HF : Hid (Now p A w (L.take (trimTo L start L.length)) ln ls ts (.returned (.tuple #[])) w) := by
      refine ⟨rfl, A, ?_, Kept.refl _ _⟩
      have := HH.out
      rw [hE] at this ⊢
      exact this
    clear hE
    go_enter Try.func51, Try.ntmps51
    go_wp2_with fail
    refine (hEmpty p A L ln ls ts _ HH.out hb).mono ?_
    rintro e w' ⟨rfl, hw⟩
    obtain rfl := hw.symm
    clear hw
    rw [hd]
    clear hd
    go_wp2_with fail
    go_end0
    exact HF.out
  · have hd : decide (L = []) = false := decide_eq_false hE
    have hpos := List.length_pos_iff.2 hE
    obtain ⟨n, hn⟩ : ∃ n, L.length = n + 1 := ⟨L.length - 1, by omega⟩
    have EN := hEnd p A L ln ls ts w HH.out hb hE
    have HEN : Hid (Calls Try.prog 58 #[.pointer (some ⟨p, 0, none⟩)] w (AtEnd L w)) := EN
    clear EN hE
    have HNE : Hid (L.length = n + 1) := hn
    obtain ⟨x, hx⟩ : ∃ x, L.getD (L.length - 1) 0 = x := ⟨_, rfl⟩
    have q1 : ((x.toNat : Int) != 32) = (x != 32) := toNat_ne x 32
    have q2 : ((x.toNat : Int) != 9) = (x != 9) := toNat_ne x 9
    have HX : Hid (L.getD n 0 = x) := by show _ = _; rw [← hx, hn]; rfl
    have HX2 : Hid (L.getD (L.length - 1) 0 = x) := hx
    clear hx
    cases hB : blank x with
    | false =>
      have HF : Hid (∀ m, Now p A w (L.take (trimTo L start L.length)) ln ls ts (.returned (.tuple #[])) (w.drewN m)) := by
        intro m
        refine ⟨rfl, A, ?_, Kept.drewN _ _ _⟩
        rw [HNE.out, trimTo_keep L start n (by rw [HX.out]; exact hB), ← HNE.out, List.take_length]
        exact HH.out.drewN m
      have hx32 : ((x.toNat : Int) != 32) = true := by rw [q1]; rw [blank_bne] at hB; revert hB; cases (x != 32) <;> simp
      have hx9 : ((x.toNat : Int) != 9) = true := by rw [q2]; rw [blank_bne] at hB; revert hB; cases (x != 9) <;> simp
      clear q1 q2 hB hn
      go_enter Try.func51, Try.ntmps51
      go_wp2_with fail
      refine (hEmpty p A L ln ls ts _ HH.out hb).mono ?_
      rintro e w' ⟨rfl, hw⟩
      obtain rfl := hw.symm
      clear hw
      rw [hd]
      clear hd
      go_wp2_with fail
      refine HEN.out.mono ?_
      rintro e w' ⟨a, rfl, hc, m, rfl⟩
      rw [HX2.out] at hc
      unfold bv at hc
      generalize (x.toNat : Int) = xn at *
      go_wp2_with fail
      go_end0
      exact HF.out m
    | true =>
      cases hx1 : (x != 32) with
      | false =>
        have hx32 : ((x.toNat : Int) != 32) = false := by rw [q1]; exact hx1
        clear q1 q2 hB hn hx1

        go_enter Try.func51, Try.ntmps51
        go_wp2_with fail
        refine (hEmpty p A L ln ls ts _ HH.out hb).mono ?_
        rintro e w' ⟨rfl, hw⟩
        obtain rfl := hw.symm
        clear hw
        rw [hd]
        clear hd
        go_wp2_with fail
        refine HEN.out.mono ?_
        rintro e w' ⟨a, rfl, hc, m0, rfl⟩
        rw [HX2.out] at hc
        unfold bv at hc
        generalize (x.toNat : Int) = xn at *
        go_wp2_with fail
        refine (hLen48 p A L ln ls ts _ (HH.out.drewN m0) hb).mono ?_
        rintro e w' ⟨rfl, m1, rfl⟩
        go_wp2_with fail
        go_loopw [5, 6] (fun en _ wr => ∃ (e m : Nat), start ≤ e ∧ e ≤ L.length ∧ en = .int .i64 e ∧ wr = w.drewN m ∧ Hid (trimTo L start L.length = trimTo L start e)) (fun en _ _ => (intOf en).toNat)
        case atStart => exact ⟨L.length, _, hst, Nat.le_refl _, rfl, by first | rfl | exact (World.drewN_drewN _ _ _), rfl⟩
        case round =>
          obtain ⟨e, m, he1, he2, rfl, rfl, HT⟩ := hrel
          by_cases hlt : start < e
          · obtain ⟨e', rfl⟩ : ∃ e', e = e' + 1 := ⟨e - 1, by omega⟩
            have hAT := hAt p A L ln ls ts (w.drewN m) (HH.out.drewN m) hb e' (by omega)
            have HAT : Hid (Calls Try.prog 49 #[.pointer (some ⟨p, 0, none⟩), .int .i64 e'] (w.drewN m) (AtI L e' (w.drewN m))) := hAT
            clear hAT
            obtain ⟨y, hy⟩ : ∃ y, L.getD e' 0 = y := ⟨_, rfl⟩
            have HY : Hid (L.getD e' 0 = y) := hy
            clear hy
            have p1 : ((y.toNat : Int) != 32) = (y != 32) := toNat_ne y 32
            have p2 : ((y.toNat : Int) != 9) = (y != 9) := toNat_ne y 9
            have hcond : (start : Int) < ((e' : Int) + 1) := by omega
            go_wp2_with fail
            refine HAT.out.mono ?_
            rintro e3 w3 ⟨a3, rfl, hc3, hw3⟩
            obtain rfl := hw3
            rw [HY.out] at hc3
            unfold bv at hc3
            clear HAT
            cases hy1 : (y != 32) with
            | false =>
              have r1 : ((y.toNat : Int) != 32) = false := by rw [p1]; exact hy1
              have HBY : Hid (blank y = true) := by show _ = _; rw [blank_bne]; first | (rw [hy1]; rfl) | (rw [hy1, hy2]; rfl)
              clear p1 p2 hy1
              try clear hy2
              generalize (y.toNat : Int) = yn at *
              go_wp2_with fail
              go_roundw
              case rel => exact ⟨e', m, by omega, by omega, by first | go_num | (congr 1; omega), rfl, (HT.out.trans (trimTo_step L start e' (by omega) (by rw [HY.out]; exact HBY.out)))⟩
              case measure => simp [intOf]
            | true =>
              cases hy2 : (y != 9) with
              | false =>
                have r1 : ((y.toNat : Int) != 32) = true := by rw [p1]; exact hy1
                have r2 : ((y.toNat : Int) != 9) = false := by rw [p2]; exact hy2
                have HBY : Hid (blank y = true) := by show _ = _; rw [blank_bne]; first | (rw [hy1]; rfl) | (rw [hy1, hy2]; rfl)
                clear p1 p2 hy1
                try clear hy2
                generalize (y.toNat : Int) = yn at *
                go_wp2_with fail
                go_roundw
                case rel => exact ⟨e', m, by omega, by omega, by first | go_num | (congr 1; omega), rfl, (HT.out.trans (trimTo_step L start e' (by omega) (by rw [HY.out]; exact HBY.out)))⟩
                case measure => simp [intOf]
              | true =>
                have r1 : ((y.toNat : Int) != 32) = true := by rw [p1]; exact hy1
                have r2 : ((y.toNat : Int) != 9) = true := by rw [p2]; exact hy2
                have HSTOP : Hid (trimTo L start (e' + 1) = e' + 1) := trimTo_keep L start e' (by rw [HY.out, blank_bne, hy1, hy2]; rfl)
                clear p1 p2 hy1 hy2
                generalize (y.toNat : Int) = yn at *

                have TR := hTrunc p A L (e' + 1) ln ls ts (w.drewN m) (HH.out.drewN m) hb (by omega)
                have HTR : Hid (Calls Try.prog 52 #[.pointer (some ⟨p, 0, none⟩), .int .i64 ((e' + 1) : Nat)] (w.drewN m) (Now p A (w.drewN m) (L.take (e' + 1)) ln ls ts)) := TR
                clear TR
                go_wp2_with fail
                refine HTR.out.mono ?_
                rintro e2 w2 ⟨rfl, A2, h2, k2⟩
                have HF : Hid (Now p A w (L.take (trimTo L start L.length)) ln ls ts (.returned (.tuple #[])) w2) := by
                  rw [HT.out, HSTOP.out]
                  exact ⟨rfl, A2, h2, (Kept.drewN A w m).trans k2⟩
                clear h2 k2
                go_wp2_with fail
                go_end0
                exact HF.out
          · have HSTOP : Hid (trimTo L start e = e) := trimTo_stop L start e (by omega)

            have TR := hTrunc p A L e ln ls ts (w.drewN m) (HH.out.drewN m) hb (by omega)
            have HTR : Hid (Calls Try.prog 52 #[.pointer (some ⟨p, 0, none⟩), .int .i64 (e : Nat)] (w.drewN m) (Now p A (w.drewN m) (L.take e) ln ls ts)) := TR
            clear TR
            go_wp2_with fail
            refine HTR.out.mono ?_
            rintro e2 w2 ⟨rfl, A2, h2, k2⟩
            have HF : Hid (Now p A w (L.take (trimTo L start L.length)) ln ls ts (.returned (.tuple #[])) w2) := by
              rw [HT.out, HSTOP.out]
              exact ⟨rfl, A2, h2, (Kept.drewN A w m).trans k2⟩
            clear h2 k2
            go_wp2_with fail
            go_end0
            exact HF.out
      | true =>
        have hx32 : ((x.toNat : Int) != 32) = true := by rw [q1]; exact hx1
        have hx9 : ((x.toNat : Int) != 9) = false := by rw [q2]; rw [blank_bne, hx1] at hB; revert hB; cases (x != 9) <;> simp
        clear q1 q2 hB hn hx1

        go_enter Try.func51, Try.ntmps51
        go_wp2_with fail
        refine (hEmpty p A L ln ls ts _ HH.out hb).mono ?_
        rintro e w' ⟨rfl, hw⟩
        obtain rfl := hw.symm
        clear hw
        rw [hd]
        clear hd
        go_wp2_with fail
        refine HEN.out.mono ?_
        rintro e w' ⟨a, rfl, hc, m0, rfl⟩
        rw [HX2.out] at hc
        unfold bv at hc
        generalize (x.toNat : Int) = xn at *
        go_wp2_with fail
        refine (hLen48 p A L ln ls ts _ (HH.out.drewN m0) hb).mono ?_
        rintro e w' ⟨rfl, m1, rfl⟩
        go_wp2_with fail
        go_loopw [5, 6] (fun en _ wr => ∃ (e m : Nat), start ≤ e ∧ e ≤ L.length ∧ en = .int .i64 e ∧ wr = w.drewN m ∧ Hid (trimTo L start L.length = trimTo L start e)) (fun en _ _ => (intOf en).toNat)
        case atStart => exact ⟨L.length, _, hst, Nat.le_refl _, rfl, by first | rfl | exact (World.drewN_drewN _ _ _), rfl⟩
        case round =>
          obtain ⟨e, m, he1, he2, rfl, rfl, HT⟩ := hrel
          by_cases hlt : start < e
          · obtain ⟨e', rfl⟩ : ∃ e', e = e' + 1 := ⟨e - 1, by omega⟩
            have hAT := hAt p A L ln ls ts (w.drewN m) (HH.out.drewN m) hb e' (by omega)
            have HAT : Hid (Calls Try.prog 49 #[.pointer (some ⟨p, 0, none⟩), .int .i64 e'] (w.drewN m) (AtI L e' (w.drewN m))) := hAT
            clear hAT
            obtain ⟨y, hy⟩ : ∃ y, L.getD e' 0 = y := ⟨_, rfl⟩
            have HY : Hid (L.getD e' 0 = y) := hy
            clear hy
            have p1 : ((y.toNat : Int) != 32) = (y != 32) := toNat_ne y 32
            have p2 : ((y.toNat : Int) != 9) = (y != 9) := toNat_ne y 9
            have hcond : (start : Int) < ((e' : Int) + 1) := by omega
            go_wp2_with fail
            refine HAT.out.mono ?_
            rintro e3 w3 ⟨a3, rfl, hc3, hw3⟩
            obtain rfl := hw3
            rw [HY.out] at hc3
            unfold bv at hc3
            clear HAT
            cases hy1 : (y != 32) with
            | false =>
              have r1 : ((y.toNat : Int) != 32) = false := by rw [p1]; exact hy1
              have HBY : Hid (blank y = true) := by show _ = _; rw [blank_bne]; first | (rw [hy1]; rfl) | (rw [hy1, hy2]; rfl)
              clear p1 p2 hy1
              try clear hy2
              generalize (y.toNat : Int) = yn at *
              go_wp2_with fail
              go_roundw
              case rel => exact ⟨e', m, by omega, by omega, by first | go_num | (congr 1; omega), rfl, (HT.out.trans (trimTo_step L start e' (by omega) (by rw [HY.out]; exact HBY.out)))⟩
              case measure => simp [intOf]
            | true =>
              cases hy2 : (y != 9) with
              | false =>
                have r1 : ((y.toNat : Int) != 32) = true := by rw [p1]; exact hy1
                have r2 : ((y.toNat : Int) != 9) = false := by rw [p2]; exact hy2
                have HBY : Hid (blank y = true) := by show _ = _; rw [blank_bne]; first | (rw [hy1]; rfl) | (rw [hy1, hy2]; rfl)
                clear p1 p2 hy1
                try clear hy2
                generalize (y.toNat : Int) = yn at *
                go_wp2_with fail
                go_roundw
                case rel => exact ⟨e', m, by omega, by omega, by first | go_num | (congr 1; omega), rfl, (HT.out.trans (trimTo_step L start e' (by omega) (by rw [HY.out]; exact HBY.out)))⟩
                case measure => simp [intOf]
              | true =>
                have r1 : ((y.toNat : Int) != 32) = true := by rw [p1]; exact hy1
                have r2 : ((y.toNat : Int) != 9) = true := by rw [p2]; exact hy2
                have HSTOP : Hid (trimTo L start (e' + 1) = e' + 1) := trimTo_keep L start e' (by rw [HY.out, blank_bne, hy1, hy2]; rfl)
                clear p1 p2 hy1 hy2
                generalize (y.toNat : Int) = yn at *

                have TR := hTrunc p A L (e' + 1) ln ls ts (w.drewN m) (HH.out.drewN m) hb (by omega)
                have HTR : Hid (Calls Try.prog 52 #[.pointer (some ⟨p, 0, none⟩), .int .i64 ((e' + 1) : Nat)] (w.drewN m) (Now p A (w.drewN m) (L.take (e' + 1)) ln ls ts)) := TR
                clear TR
                go_wp2_with fail
                refine HTR.out.mono ?_
                rintro e2 w2 ⟨rfl, A2, h2, k2⟩
                have HF : Hid (Now p A w (L.take (trimTo L start L.length)) ln ls ts (.returned (.tuple #[])) w2) := by
                  rw [HT.out, HSTOP.out]
                  exact ⟨rfl, A2, h2, (Kept.drewN A w m).trans k2⟩
                clear h2 k2
                go_wp2_with fail
                go_end0
                exact HF.out
          · have HSTOP : Hid (trimTo L start e = e) := trimTo_stop L start e (by omega)

            have TR := hTrunc p A L e ln ls ts (w.drewN m) (HH.out.drewN m) hb (by omega)
            have HTR : Hid (Calls Try.prog 52 #[.pointer (some ⟨p, 0, none⟩), .int .i64 (e : Nat)] (w.drewN m) (Now p A (w.drewN m) (L.take e) ln ls ts)) := TR
            clear TR
            go_wp2_with fail
            refine HTR.out.mono ?_
            rintro e2 w2 ⟨rfl, A2, h2, k2⟩
            have HF : Hid (Now p A w (L.take (trimTo L start L.length)) ln ls ts (.returned (.tuple #[])) w2) := by
              rw [HT.out, HSTOP.out]
              exact ⟨rfl, A2, h2, (Kept.drewN A w m).trans k2⟩
            clear h2 k2
            go_wp2_with fail
            go_end0
            exact HF.out
end EL
end Go.Proofs.Qxb6001700a
