/- FnCycleStepsCountsPathsClosingAtRoot: the walk. -/
import Derived.Test.Qxb6003137aSteps
import Derived.Test.Qxb6003137aModel
namespace Go.Proofs.Qxb6003137a
open Go.ChangeShapes Go.WideShapes Go.ChangeAt Go.RowKit
set_option linter.unusedVariables false
set_option linter.unusedSimpArgs false
namespace CY

theorem wrap21 (base p gl gp gn lo hi m r : Nat) (back : Bool) (f : Nat → Value) (G : List (List Nat)) (wk : Nat) (q : List Nat) (ans : Nat) (w : World) (h : Calls Try.prog 35 #[.pointer (some ⟨p, 0, none⟩), .int .i32 (r : Int), .bool back] w (Stepped base p gl gp gn lo hi m f G wk q ans w)) :
    Calls Try.prog 21 #[.pointer (some ⟨p, 0, none⟩), .int .i32 (r : Int), .bool back] w (Stepped base p gl gp gn lo hi m f G wk q ans w) := by
  have HC : Hid (Calls Try.prog 35 #[.pointer (some ⟨p, 0, none⟩), .int .i32 (r : Int), .bool back] w (Stepped base p gl gp gn lo hi m f G wk q ans w)) := h
  clear h
  go_enter Try.func21, Try.ntmps21
  go_wp2_with fail
  refine HC.out.mono ?_
  rintro e w1 ⟨rfl, hN⟩
  have HF : Hid (Stepped base p gl gp gn lo hi m f G wk q ans w (.returned (.int .i64 (ans : Int))) w1) := ⟨rfl, hN⟩
  clear hN HC
  go_wp2_with fail
  go_ret
  exact HF.out

theorem ints_of (G0 : List (List Int)) (h : Ranged G0) : ∃ G, G0 = ints G := by
  refine ⟨G0.map (fun r => r.map Int.toNat), ?_⟩
  unfold ints
  rw [List.map_map]
  refine (List.ext_getElem (by simp) fun i h1 h2 => ?_)
  simp only [List.getElem_map, Function.comp]
  refine (List.ext_getElem (by simp) fun j h3 h4 => ?_)
  simp only [List.getElem_map]
  have e1 : G0.getD i [] = G0[i] := by simp [List.getD, h1]
  have := h i h1 j (by rw [e1]; exact h3)
  rw [e1] at this
  have e2 : G0[i].getD j 0 = G0[i][j] := by simp [List.getD, h3]
  rw [e2] at this
  omega
theorem row_out (G : List (List Nat)) (v : Nat) (h : ¬ v < G.length) : row G v = [] := by simp [row, List.getD, h]
theorem inR_of (G : List (List Nat)) (h : Ranged (ints G)) : InR G := by
  intro v w hw
  by_cases hv : v < G.length
  · obtain ⟨j, hj, rfl⟩ := List.getElem_of_mem hw
    have := (h v (by rw [ints_len]; exact hv) j (by rw [ints_row, List.length_map]; exact hj)).2
    rw [ints_row, ints_len] at this
    simp [List.getD, hj] at this
    exact this
  · rw [row_out G v hv] at hw; cases hw
theorem short_of (G : List (List Nat)) (h : Short (ints G)) (v : Nat) : (row G v).length ≤ 1048576 := by
  by_cases hv : v < G.length
  · have := h v (by rw [ints_len]; exact hv)
    rw [ints_row, List.length_map] at this
    exact this
  · rw [row_out G v hv]; simp

/-- The whole behind the bounds: a search of G from r. -/
theorem search_of (G : List (List Nat)) (hG : InR G) (back : Bool) (r : Nat) (hr : r < G.length) : ∃ k s q N T, Fin G back k r 0 (upd (fun _ => false) r true) [] s q ∧ Paths G r (posOf q) N T := by
  obtain ⟨k, s, q, h, _⟩ := Fin.total hG back _ (upd (fun _ => false) r true) (Nat.le_refl _) _ r 0 (Nat.le_refl _) (Nat.zero_le _) []
  obtain ⟨N, T, hP⟩ := exists_paths G r (posOf q)
  exact ⟨k, s, q, N, T, h, hP⟩

set_option maxHeartbeats 16000000 in
set_option maxRecDepth 100000 in
theorem main5 (G0 : List (List Int)) (at0 : Option Addr) (lo hi b off c0 : Nat) (lim r0 : Int) (back : Bool) (w : World) (h : GR w lo hi at0 b off G0) (hfit : Fits G0) (hl0 : G0.length ≤ 9223372036854775807) (hlim : -9223372036854775808 ≤ lim ∧ lim ≤ 9223372036854775807) (hr0 : -2147483648 ≤ r0 ∧ r0 ≤ 2147483647) :
    Calls Try.prog 5 #[.slice at0 G0.length c0, .int .i64 lim, .int .i32 r0, .bool back] w fun e w' => e = .returned (.bool true) ∧ Below w.heap.size w w' := by
  have HFT : Hid (Fits G0) := hfit
  have HGR : Hid (GR w lo hi at0 b off G0) := h
  clear hfit h
  go_enter Try.func5, Try.ntmps5
  go_wp2_with fail
  refine (bytes20 G0 at0 lo hi b off c0 _ _ _ w HGR.out hl0).mono ?_
  rintro e w' ⟨t, rfl, hw, _⟩
  obtain rfl := hw.symm
  clear hw
  cases t with
  | false =>
    go_wp2_with fail
    go_ret
    exact ⟨rfl, Below.refl _ _⟩
  | true =>
  by_cases hn : G0.length ≤ 4096
  case neg =>
    have hn2 : (4096 : Int) < (G0.length : Int) := by omega
    go_wp2_with fail
    go_ret
    exact ⟨rfl, Below.refl _ _⟩
  have hn2 : ¬ (4096 : Int) < (G0.length : Int) := by omega
  go_wp2_with fail
  refine (bytes7 G0 at0 lo hi b off c0 w HGR.out hn).mono ?_
  rintro e w' ⟨t, rfl, hw, ht⟩
  obtain rfl := hw.symm
  clear hw
  by_cases hts : t ≤ 1048576
  case neg =>
    have hts2 : (1048576 : Int) < (t : Int) := by omega
    go_wp2_with fail
    go_ret
    exact ⟨rfl, Below.refl _ _⟩
  have hts2 : ¬ (1048576 : Int) < (t : Int) := by omega
  have HSH : Hid (Short G0) := ht hts
  clear ht hts
  by_cases hl1 : lim < 0
  case pos =>
    go_wp2_with fail
    go_ret
    exact ⟨rfl, Below.refl _ _⟩
  by_cases hl2 : lim = 9223372036854775807
  case pos =>
    subst hl2
    go_wp2_with fail
    go_ret
    exact ⟨rfl, Below.refl _ _⟩
  have hl3 : (lim == 9223372036854775807) = false := by simpa using hl2
  by_cases hr1 : r0 < 0
  case pos =>
    go_wp2_with fail
    go_ret
    exact ⟨rfl, Below.refl _ _⟩
  obtain ⟨r, rfl⟩ : ∃ r : Nat, r0 = r := ⟨r0.toNat, by omega⟩
  by_cases hr2 : r < G0.length
  case neg =>
    go_wp2_with fail
    go_ret
    exact ⟨rfl, Below.refl _ _⟩
  go_wp2_with fail
  refine (range8 G0 at0 lo hi b off c0 w HGR.out hn HSH.out HFT.out).mono ?_
  rintro e w' ⟨t2, rfl, hw, ht2⟩
  obtain rfl := hw.symm
  clear hw
  cases t2 with
  | false =>
    go_wp2_with fail
    go_ret
    exact ⟨rfl, Below.refl _ _⟩
  | true =>
  have hRG := ht2 rfl
  clear ht2
  obtain ⟨G, hGe⟩ := ints_of G0 hRG
  subst hGe
  have HG : Hid (InR G) := inR_of G hRG
  have HSV : Hid (∀ v, (row G v).length ≤ 1048576) := short_of G HSH.out
  obtain rfl := HGR.out.addr (by omega)
  rw [ints_len] at hn hr2 hn2
  have HC11 : Hid (Calls Try.prog 11 #[.slice (some ⟨b, off, none⟩) (ints G).length c0] w (Copied w (ints G))) := clone11 (ints G) b off lo hi c0 w HGR.out (by rw [ints_len]; exact hn) HSH.out
  rw [ints_len] at HC11
  clear hRG HFT hl0
  rw [ints_len]
  obtain ⟨m, hm⟩ : ∃ m : Nat, lim = (m : Int) - 1 := ⟨(lim + 1).toNat, by omega⟩
  subst hm
  have hm0 : 0 < m := by omega
  have hmm : m ≤ 9223372036854775807 := by omega
  obtain ⟨k1, s1, q1, N1, T1, hF1, hP1⟩ := search_of G HG.out back r hr2
  obtain ⟨k2, s2, q2, N2, T2, hF2, hP2⟩ := search_of G HG.out (!back) r hr2
  have HQ1 : Hid (Post G r q1) := (hF1.post HG.out hr2).1
  have HQ2 : Hid (Post G r q2) := (hF2.post HG.out hr2).1
  have hq1l : q1.length ≤ 4096 := Nat.le_trans (nodup_len _ q1 HQ1.out.nodup HQ1.out.lt) hn
  have hq2l : q2.length ≤ 4096 := Nat.le_trans (nodup_len _ q2 HQ2.out.nodup HQ2.out.lt) hn
  have HF1 : Hid (Fin G back k1 r 0 (upd (fun _ => false) r true) [] s1 q1) := hF1
  have HF2 : Hid (Fin G (!back) k2 r 0 (upd (fun _ => false) r true) [] s2 q2) := hF2
  have HP1 : Hid (Paths G r (posOf q1) N1 T1) := hP1
  have HP2 : Hid (Paths G r (posOf q2) N2 T2) := hP2
  clear hF1 hF2 hP1 hP2
  have hA : workOf G q1 ≤ 4294971392 := work_drop_le G HSV.out q1 hq1l 0
  have hB : workOf G q2 ≤ 4294971392 := work_drop_le G HSV.out q2 hq2l 0
  go_wp2_with fail
  refine HC11.out.mono ?_
  rintro e w1 ⟨rfl, hgr1, hb1⟩
  clear HC11 HGR
  rw [ints_len]
  have HC12 : Hid (Calls Try.prog 12 #[.slice (some ⟨w.heap.size, 0, none⟩) (ints G).length (ints G).length, .slice none 0 0, .int .i64 ((m : Int) - 1)] w1 (New w1 (ints G) ((m : Int) - 1))) := new12 (ints G) w.heap.size w.heap.size w1.heap.size (ints G).length ((m : Int) - 1) w1 hgr1 (by rw [ints_len]; exact hn) HSH.out
  rw [ints_len] at HC12
  clear HSH
  generalize hg1 : w.heap.size = g1 at *
  go_wp2_with fail
  refine HC12.out.mono ?_
  rintro e w2 ⟨own, p, gl, gp, gn, lo2, hi2, f, rfl, hBD, hf2, hf4, hb2⟩
  clear HC12
  have HC35 : Hid (Calls Try.prog 21 #[.pointer (some ⟨p, 0, none⟩), .int .i32 (r : Int), .bool back] w2 (Stepped w1.heap.size p gl gp gn lo2 hi2 m f G 0 q1 (cap m (T1 r + 2 * N1 r)) w2)) := wrap21 _ _ _ _ _ _ _ _ _ _ _ _ _ _ _ _ (cycle35 G HG.out back r hr2 hn HSV.out k1 s1 q1 HF1.out N1 T1 HP1.out m hm0 hmm own w1.heap.size p gl gp gn lo2 hi2 f (fun _ => 0) (fun _ => 0) (fun _ => 0) [] (fun x _ => ⟨rfl, rfl, rfl⟩) (fun x hx => by cases hx) (by simp) 0 (by omega) hf4 hf2 w2 hBD)
  have HGR2 : Hid (GR w2 g1 w1.heap.size (some ⟨g1, 0, none⟩) g1 0 (ints G)) := hgr1.below hb2 (Nat.le_refl _)
  clear hBD hgr1
  go_wp2_with fail
  refine HC35.out.mono ?_
  rintro e w3 ⟨rfl, own3, f3, P3, L3, hB3, hs3, hf43, hf23, hb3⟩
  clear HC35
  have hb3' : Below w1.heap.size w1 w3 := hb2.trans hb3
  have HW3 : Hid (Calls Try.prog 22 #[.pointer (some ⟨p, 0, none⟩)] w3 fun e w' => e = .returned (.int .i64 (2 * (workOf G q1 : Int))) ∧ w' = w3) := work22 p f3 _ w3 hB3.rb (by rw [hf43]; congr 1; omega)
  have HC36 : Hid (Calls Try.prog 21 #[.pointer (some ⟨p, 0, none⟩), .int .i32 (r : Int), .bool (!back)] w3 (Stepped w1.heap.size p gl gp gn lo2 hi2 m f3 G (0 + 2 * workOf G q1) q2 (cap m (T2 r + 2 * N2 r)) w3)) := wrap21 _ _ _ _ _ _ _ _ _ _ _ _ _ _ _ _ (cycle35 G HG.out (!back) r hr2 hn HSV.out k2 s2 q2 HF2.out N2 T2 HP2.out m hm0 hmm own3 w1.heap.size p gl gp gn lo2 hi2 f3 _ _ _ q1 (fun x hx => ⟨by simp [posOf, hx], by simp [capI, (hs3 x hx).1, cap_zero], by simp [capI, (hs3 x hx).2, cap_zero]⟩) HQ1.out.lt hq1l _ (by omega) hf43 (by rw [hf23]; exact hf2) w3 hB3)
  have HGR3 : Hid (GR w3 g1 w1.heap.size (some ⟨g1, 0, none⟩) g1 0 (ints G)) := HGR2.out.below hb3 (Nat.le_refl _)
  clear HGR2 hB3 hs3 hf43 hf23 hb3 hb2 hf2 hf4
  go_wp2_with fail
  refine HW3.out.mono ?_
  rintro e w' ⟨rfl, hw⟩
  obtain rfl := hw.symm
  clear hw HW3
  go_wp2_with fail
  refine HC36.out.mono ?_
  rintro e w4 ⟨rfl, own4, f4, P4, L4, hB4, hs4, hf44, hf24, hb4⟩
  clear HC36
  have hb4' : Below w1.heap.size w1 w4 := hb3'.trans hb4
  have HW4 : Hid (Calls Try.prog 22 #[.pointer (some ⟨p, 0, none⟩)] w4 fun e w' => e = .returned (.int .i64 (2 * (workOf G q1 : Int) + 2 * (workOf G q2 : Int))) ∧ w' = w4) := work22 p f4 _ w4 hB4.rb (by rw [hf44]; congr 1; omega)
  have HGR4 : Hid (GR w4 g1 w1.heap.size (some ⟨g1, 0, none⟩) g1 0 (ints G)) := HGR3.out.below hb4 (Nat.le_refl _)
  clear HGR3 hB4 hs4 hf44 hf24 hb4 hb3'
  go_wp2_with fail
  refine HW4.out.mono ?_
  rintro e w' ⟨rfl, hw⟩
  obtain rfl := hw.symm
  clear hw HW4
  go_wp2_with fail
  refine (post18 G HG.out back g1 g1 w1.heap.size G.length r hn HSV.out hr2 k1 s1 q1 HF1.out w4 HGR4.out).mono ?_
  rintro e w5 ⟨h5, c5, rfl, hp5, hb5⟩
  have hb5' : Below w1.heap.size w1 w5 := hb4'.trans (hb5.mono hb4'.size)
  have HGR5 : Hid (GR w5 g1 w1.heap.size (some ⟨g1, 0, none⟩) g1 0 (ints G)) := HGR4.out.belowAll hb5
  clear HGR4 hb5 hb4'
  go_wp2_with fail
  refine (post18 G HG.out (!back) g1 g1 w1.heap.size G.length r hn HSV.out hr2 k2 s2 q2 HF2.out w5 HGR5.out).mono ?_
  rintro e w6 ⟨h6, c6, rfl, hp6, hb6⟩
  have hp56 := hp5.below hb6
  have hb6' : Below w1.heap.size w1 w6 := hb5'.trans (hb6.mono hb5'.size)
  have HGR6 : Hid (GR w6 g1 w1.heap.size (some ⟨g1, 0, none⟩) g1 0 (ints G)) := HGR5.out.belowAll hb6
  clear HGR5 hb6 hb5' hp5
  have hz1 : T1 r + (N1 r + N1 r) = T1 r + 2 * N1 r := by omega
  have hz2 : T2 r + (N2 r + N2 r) = T2 r + 2 * N2 r := by omega
  have HM1 := model23 G HG.out r q1 HQ1.out N1 T1 HP1.out m hm0 hmm g1 g1 w1.heap.size G.length h5 c5 hn HSV.out w6 HGR6.out hp56
  rw [hz1] at HM1
  have HM1' : Hid (Calls Try.prog 23 #[.slice (some ⟨g1, 0, none⟩) G.length G.length, .int .i64 ((m : Int) - 1), .int .i32 (r : Int), .slice (some ⟨h5, 0, none⟩) q1.length c5] w6 fun e w' => e = .returned (.int .i64 (cap m (T1 r + 2 * N1 r) : Nat)) ∧ Below w6.heap.size w6 w') := HM1
  clear HM1 hz1
  have HM2 : Hid (∀ w7, Below w6.heap.size w6 w7 → Calls Try.prog 23 #[.slice (some ⟨g1, 0, none⟩) G.length G.length, .int .i64 ((m : Int) - 1), .int .i32 (r : Int), .slice (some ⟨h6, 0, none⟩) q2.length c6] w7 fun e w' => e = .returned (.int .i64 (cap m (T2 r + 2 * N2 r) : Nat)) ∧ Below w7.heap.size w7 w') := fun w7 hb7 => by
    have := model23 G HG.out r q2 HQ2.out N2 T2 HP2.out m hm0 hmm g1 g1 w1.heap.size G.length h6 c6 hn HSV.out w7 (HGR6.out.belowAll hb7) (hp6.below hb7)
    rw [hz2] at this
    exact this
  have HW1 : Hid (∀ w7, Below w6.heap.size w6 w7 → Calls Try.prog 17 #[.slice (some ⟨g1, 0, none⟩) G.length G.length, .slice (some ⟨h5, 0, none⟩) q1.length c5] w7 fun e w' => e = .returned (.int .i64 (workOf G q1 : Nat)) ∧ w' = w7) := fun w7 hb7 => work17 G g1 g1 w1.heap.size G.length h5 c5 q1 hq1l HSV.out HQ1.out.lt w7 (HGR6.out.belowAll hb7) (hp56.below hb7)
  have HW2 : Hid (∀ w7, Below w6.heap.size w6 w7 → Calls Try.prog 17 #[.slice (some ⟨g1, 0, none⟩) G.length G.length, .slice (some ⟨h6, 0, none⟩) q2.length c6] w7 fun e w' => e = .returned (.int .i64 (workOf G q2 : Nat)) ∧ w' = w7) := fun w7 hb7 => work17 G g1 g1 w1.heap.size G.length h6 c6 q2 hq2l HSV.out HQ2.out.lt w7 (HGR6.out.belowAll hb7) (hp6.below hb7)
  clear hz2 hp6 hp56 HGR6 HG HSV HQ1 HQ2 HF1 HF2 HP1 HP2
  generalize cap m (T1 r + 2 * N1 r) = y1 at *
  generalize cap m (T2 r + 2 * N2 r) = y2 at *
  generalize workOf G q1 = A at *
  generalize workOf G q2 = B at *
  go_wp2_with fail
  refine HM1'.out.mono ?_
  rintro e w7 ⟨rfl, hb7⟩
  clear HM1'
  go_wp2_with fail
  refine (HM2.out w7 hb7).mono ?_
  rintro e w8 ⟨rfl, hb8⟩
  have hb8' : Below w6.heap.size w6 w8 := hb7.trans (hb8.mono hb7.size)
  clear HM2 hb8 hb7
  go_wp2_with fail
  refine (HW1.out w8 hb8').mono ?_
  rintro e w' ⟨rfl, hw⟩
  obtain rfl := hw.symm
  clear hw HW1
  go_wp2_with fail
  refine (HW2.out w8 hb8').mono ?_
  rintro e w' ⟨rfl, hw⟩
  obtain rfl := hw.symm
  clear hw HW2
  have HFIN : Hid (Below w.heap.size w w8) := by
    have h1 := hb6'.trans (hb8'.mono hb6'.size)
    have h2 : g1 ≤ w1.heap.size := by rw [← hg1]; exact hb1.size
    show Below _ _ _
    rw [hg1]
    exact hb1.trans (h1.mono h2)
  clear hb8' hb6' hb1
  go_wp2_with fail
  go_ret
  exact ⟨rfl, HFIN.out⟩
end CY
end Go.Proofs.Qxb6003137a
