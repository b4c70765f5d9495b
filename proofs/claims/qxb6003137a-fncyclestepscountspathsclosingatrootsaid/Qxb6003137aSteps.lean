/- cycleSteps. -/
import Derived.Test.Qxb6003137aSearch
import Derived.Test.Qxb6003137aDue
import Derived.Deep.RegionWith
import Derived.Deep.CutRange
import Derived.Deep.DeepCutAuto
namespace Go.Proofs.Qxb6003137a
open Go.ChangeShapes Go.WideShapes Go.ChangeAt Go.RowKit
set_option linter.unusedVariables false
set_option linter.unusedSimpArgs false
namespace CY

set_option maxHeartbeats 16000000 in
set_option maxRecDepth 100000 in
theorem cycle35 (G : List (List Nat)) (hG : InR G) (back : Bool) (r : Nat) (hr : r < G.length) (hn : G.length ≤ 4096) (hsh : ∀ v, (row G v).length ≤ 1048576) (k : Nat) (sE : Nat → Bool) (q : List Nat) (hfin : Fin G back k r 0 (upd (fun _ => false) r true) [] sE q) (N T : Nat → Nat) (hP : Paths G r (posOf q) N T) (m : Nat) (hm0 : 0 < m) (hm : m ≤ 9223372036854775807)
    (own : Nat → Nat) (base p gl gp gn lo hi : Nat) (f : Nat → Value) (left P L : Nat → Int) (ord : List Nat) (hz : ∀ x, x ∉ ord → left x = 0 ∧ P x = 0 ∧ L x = 0) (hord : ∀ x ∈ ord, x < G.length) (hol : ord.length ≤ 4096) (wk : Nat) (hwk : wk ≤ 1090921693184) (hf4 : f 4 = .int .i64 (wk : Int)) (hf2 : f 2 = .int .i64 ((m : Int) - 1)) (w : World) (hBD : BD w own base p gl gp gn lo hi f (ints G) left P L ord []) :
    Calls Try.prog 35 #[.pointer (some ⟨p, 0, none⟩), .int .i32 (r : Int), .bool back] w (Stepped base p gl gp gn lo hi m f G wk q (cap m (T r + 2 * N r)) w) := by
  have HC29 : Hid (Calls Try.prog 29 #[.pointer (some ⟨p, 0, none⟩), .int .i32 (r : Int), .bool back] w (Searched base p gl gp gn lo hi f G wk q w)) := search29 G hG back r hr hn hsh k sE q hfin own base p gl gp gn lo hi f left P L ord hz hord hol wk (by omega) hf4 w hBD
  have HG : Hid (InR G) := hG
  have HSH : Hid (∀ v, (row G v).length ≤ 1048576) := hsh
  have HQ : Hid (Post G r q) := (hfin.post hG hr).1
  have HP : Hid (Paths G r (posOf q) N T) := hP
  have HF2 : Hid (f 2 = .int .i64 ((m : Int) - 1)) := hf2
  have hql : q.length ≤ 4096 := Nat.le_trans (nodup_len _ q HQ.out.nodup HQ.out.lt) hn
  have hrq : r ∈ q := by obtain ⟨l, e⟩ := HQ.out.last; rw [e]; simp
  clear hG hsh hfin hP hf2 hf4 hz hord hol hBD
  go_enter Try.func35, Try.ntmps35
  go_wp2_with fail
  refine HC29.out.mono ?_
  rintro e w1 ⟨rfl, own1, f1, hB1, hf41, hf21, hb1⟩
  clear HC29
  have HF41 : Hid (f1 4 = .int .i64 ((wk + workOf G q : Nat) : Int)) := hf41
  have HF21 : Hid (f1 2 = f 2) := hf21
  clear hf41 hf21
  have c8 := hB1.rb.cell (i := 8) (by decide)
  rw [hB1.f8, ints_len] at c8
  have l1 := hB1.rp.cell (show r < (ints G).length by rw [ints_len]; exact hr)
  have l2 := hB1.rp.frozen r
  go_upto_region 4 with fail
  have hB2 : BD (w1.setCell ⟨gp, r, none⟩ (.int .i64 1)) own1 base p gl gp gn lo hi f1 (ints G) (fun x => (posOf q x : Int)) (capI m (upd (fun _ => 0) r 1)) (capI m (fun _ => 0)) q [] := by
    rw [capI_upd, capI_zero, cap_one m hm0]
    exact hB1.setP r 1
  have hb2 : Below base w (w1.setCell ⟨gp, r, none⟩ (.int .i64 1)) := hb1.setCell (p := ⟨gp, r, none⟩) hB1.tg.bq _
  clear c8 l1 l2 hB1 hb1
  generalize w1.setCell ⟨gp, r, none⟩ (.int .i64 1) = w2 at *
  have hq0 : 0 < q.length := by obtain ⟨l, e⟩ := HQ.out.last; rw [e]; simp
  obtain ⟨go, cx, hf6⟩ : ∃ go cx, f1 6 = .slice (some ⟨go, 0, none⟩) q.length cx := by
    rcases hB2.ro.2 with ⟨_, h0⟩ | ⟨g, cap, cur, hv, _⟩
    · omega
    · exact ⟨g, cap, hv⟩
  have HF6 : Hid (f1 6 = .slice (some ⟨go, 0, none⟩) q.length cx) := hf6
  have c6 := hB2.rb.cell (i := 6) (by decide)
  rw [hf6] at c6
  clear hf6
  go_wp2_with fail
  clear c6
  go_loopw [7, 8] (fun sv i wr => ∃ (j S : Nat) (Pn Ln : Nat → Nat) (f2 : Nat → Value), j ≤ q.length ∧ i = .int .i64 ((j : Int) - 1) ∧ sv = .int .i64 ((cap m S : Nat) : Int) ∧ BD wr own1 base p gl gp gn lo hi f2 (ints G) (fun x => (posOf q x : Int)) (capI m Pn) (capI m Ln) q [] ∧ Hid (Due N T Pn Ln S (q.take j) 0 (T r + 2 * N r)) ∧ Hid (∀ x, x ∉ q → Pn x = 0 ∧ Ln x = 0) ∧ Hid (f2 4 = .int .i64 ((wk + workOf G q + workOf G (q.drop j) : Nat) : Int)) ∧ Hid (f2 2 = f 2) ∧ Hid (f2 6 = .slice (some ⟨go, 0, none⟩) q.length cx) ∧ Below base w wr) (fun _ i _ => (intOf i + 1).toNat)
  case atStart =>
    refine ⟨q.length, 0, _, _, f1, Nat.le_refl _, rfl, by rw [cap_zero]; rfl, hB2, due_start N T r q HQ.out.nodup hrq, ?_, ?_, HF21, HF6, hb2⟩
    · intro x hx
      have : x ≠ r := fun e => hx (e ▸ hrq)
      simp [upd, this]
    · show _ = _
      rw [HF41.out, List.drop_length]
      rfl
  case round =>
  obtain ⟨j, S, Pn, Ln, f2, hj, rfl, rfl, hB, hdue, hsup, hf4, hf2, hf6, hb⟩ := hrel
  clear hB2 hb2 HF41 HF21 HF6
  by_cases hj0 : 0 < j
  case neg =>
    obtain rfl : j = 0 := by omega
    have hS := due_end hdue.out
    have HX : Hid (Stepped base p gl gp gn lo hi m f G wk q (cap m (T r + 2 * N r)) w (.returned (.int .i64 ((cap m S : Nat) : Int))) wr) := by
      refine ⟨by rw [hS], own1, f2, Pn, Ln, hB, hsup.out, ?_, hf2.out, hb⟩
      rw [hf4.out, List.drop_zero]
      congr 2
      omega
    clear hB
    go_wp2_with fail
    go_ret
    exact HX.out
  obtain ⟨i, rfl⟩ : ∃ i, j = i + 1 := ⟨j - 1, by omega⟩
  have hiq : i < q.length := by omega
  have hii : ((i + 1 : Nat) : Int) - 1 = (i : Int) := by omega
  rw [hii]
  clear hii hj0
  obtain ⟨v, hvv⟩ : ∃ v, q[i] = v := ⟨_, rfl⟩
  have HVV : Hid (q[i] = v) := hvv
  have hvq : v ∈ q := by rw [← hvv]; exact List.getElem_mem hiq
  have hv : v < G.length := HQ.out.lt v hvq
  have hvi : v < (ints G).length := by rw [ints_len]; exact hv
  have c6 := hB.rb.cell (i := 6) (by decide)
  rw [hf6.out] at c6
  have hro := hB.ro
  rw [hf6.out] at hro
  have o1 := hro.cellAt i (by omega)
  have hcj : (q.map vv)[i]? = some (.int .i32 (v : Int)) := by rw [← hvv]; simp [hiq, vv]
  rw [hcj] at o1
  have c8 := hB.rb.cell (i := 8) (by decide)
  have c9 := hB.rb.cell (i := 9) (by decide)
  have c0 := hB.rb.cell (i := 0) (by decide)
  have c4 := hB.rb.cell (i := 4) (by decide)
  have d4 := hB.rb.frozen 4
  rw [hB.f8, ints_len] at c8
  rw [hB.f9, ints_len] at c9
  rw [hB.f0, ints_len] at c0
  rw [hf4.out] at c4
  have l1 := hB.rp.cell hvi
  have l2 := hB.rn.cell hvi
  obtain ⟨a, rb, ro, c, h1, h2, h3⟩ := hB.gr.rowN v hv
  rw [Nat.zero_add] at h1
  have HR2 : Hid (0 < (row G v).length → a = some ⟨rb, ro, none⟩ ∧ lo ≤ rb ∧ rb < hi) := h2
  have HR3 : Hid (∀ j, j < (row G v).length → wr.cell? ⟨rb, ro + j, none⟩ = some (vv ((row G v).getD j 0))) := h3
  have hlen := HSH.out v
  have hwb := work_drop_le G HSH.out q hql (i + 1)
  have hwq : workOf G q ≤ 4294971392 := work_drop_le G HSH.out q hql 0
  have HWS : Hid (wk + workOf G q + workOf G (q.drop i) = wk + workOf G q + workOf G (q.drop (i + 1)) + (1 + (row G v).length)) := by
    show _ = _
    rw [work_drop G q i hiq, hvv]
    omega
  clear h2 h3 hro hcj hvv
  have hWb2 : wk + workOf G q + workOf G (q.drop (i + 1)) ≤ 1099511635968 := by omega
  obtain ⟨WK, hWK⟩ : ∃ WK, wk + workOf G q + workOf G (q.drop (i + 1)) = WK := ⟨_, rfl⟩
  rw [hWK] at c4 HWS hWb2
  clear hWK hwb hwq
  have HB : Hid (BD wr own1 base p gl gp gn lo hi f2 (ints G) (fun x => (posOf q x : Int)) (capI m Pn) (capI m Ln) q []) := hB
  clear hB
  have hPle := cap_le m (Pn v)
  have hLle := cap_le m (Ln v)
  have hlp : capI m Pn v = ((cap m (Pn v) : Nat) : Int) := rfl
  have hll : capI m Ln v = ((cap m (Ln v) : Nat) : Int) := rfl
  rw [hlp] at l1
  rw [hll] at l2
  clear hlp hll
  obtain ⟨len, hle⟩ : ∃ len, (row G v).length = len := ⟨_, rfl⟩
  have HLE : Hid ((row G v).length = len) := hle
  rw [hle] at h1 hlen HWS
  clear hle
  go_wp2_with fail
  go_quiet (fail)
  obtain ⟨n1, hn1⟩ : ∃ n1, nq = n1 := ⟨_, rfl⟩
  rw [hn1]
  clear hn1
  go_wp2_with fail
  go_region
  have hB2 := (HB.out.drewN (n1 + 1)).setWork (.int .i64 ((WK : Int) + (1 + (len : Int))))
  have hb2 : Below base w ((wr.drewN (n1 + 1)).setCell ⟨p, 4, none⟩ (.int .i64 ((WK : Int) + (1 + (len : Int))))) := (below_drewN hb (n1 + 1)).setCell (p := ⟨p, 4, none⟩) HB.out.tg.bp _
  have HF4c : Hid (upd f2 4 (.int .i64 ((WK : Int) + (1 + (len : Int)))) 4 = .int .i64 ((wk + workOf G q + workOf G (q.drop i) : Nat) : Int)) := by show _ = _; rw [HWS.out, upd_same]; congr 1
  have HF2c : Hid (upd f2 4 (.int .i64 ((WK : Int) + (1 + (len : Int)))) 2 = f 2) := hf2.out
  have HF6c : Hid (upd f2 4 (.int .i64 ((WK : Int) + (1 + (len : Int)))) 6 = .slice (some ⟨go, 0, none⟩) q.length cx) := hf6.out
  clear c6 o1 c8 c9 c0 c4 d4 l1 l2 h1 HR2 HR3 HB hb hf4 hf2 hf6 HWS hWb2
  generalize upd f2 4 (.int .i64 ((WK : Int) + (1 + (len : Int)))) = f3 at *
  generalize (wr.drewN (n1 + 1)).setCell ⟨p, 4, none⟩ (.int .i64 ((WK : Int) + (1 + (len : Int)))) = W at *
  have c0 := hB2.rb.cell (i := 0) (by decide)
  rw [hB2.f0, ints_len] at c0
  obtain ⟨a, rb, ro, c, h1, h2, h3⟩ := hB2.gr.rowN v hv
  rw [Nat.zero_add, HLE.out] at h1
  have HR2 : Hid (0 < (row G v).length → a = some ⟨rb, ro, none⟩ ∧ lo ≤ rb ∧ rb < hi) := h2
  have HR3 : Hid (∀ j, j < (row G v).length → W.cell? ⟨rb, ro + j, none⟩ = some (vv ((row G v).getD j 0))) := h3
  clear h2 h3
  have HDU : Hid (Due N T Pn Ln S (q.take i) (Ln v * sumD (aOf r (posOf q) N v) (row G v) 0 + Pn v * sumD (bOf r (posOf q) N T v) (row G v) 0) (T r + 2 * N r)) := by
    have := due_open HP.out hiq hdue.out
    rw [HVV.out] at this
    exact this
  clear hdue
  have HB2 : Hid (BD W own1 base p gl gp gn lo hi f3 (ints G) (fun x => (posOf q x : Int)) (capI m Pn) (capI m Ln) q []) := hB2
  clear hB2
  obtain ⟨Pv, hPv⟩ : ∃ Pv, Pn v = Pv := ⟨_, rfl⟩
  obtain ⟨Lv, hLv⟩ : ∃ Lv, Ln v = Lv := ⟨_, rfl⟩
  rw [hPv] at hPle HDU ⊢
  rw [hLv] at hLle HDU ⊢
  clear hPv hLv
  go_wp2_with fail
  clear c0 h1
  go_loopw [7, 79] (fun sv ix wr => ∃ (a1 S1 : Nat) (P1 L1 : Nat → Nat), a1 ≤ len ∧ ix = .int .i64 a1 ∧ sv = .int .i64 ((cap m S1 : Nat) : Int) ∧ BD wr own1 base p gl gp gn lo hi f3 (ints G) (fun x => (posOf q x : Int)) (capI m P1) (capI m L1) q [] ∧ Hid (Due N T P1 L1 S1 (q.take i) (Lv * sumD (aOf r (posOf q) N v) (row G v) a1 + Pv * sumD (bOf r (posOf q) N T v) (row G v) a1) (T r + 2 * N r)) ∧ Hid (∀ x, x ∉ q → P1 x = 0 ∧ L1 x = 0) ∧ Hid (∀ g, lo ≤ g → g < hi → wr.heap[g]? = W.heap[g]?) ∧ Below base w wr) (fun _ ix _ => len - (intOf ix).toNat)
  case atStart => exact ⟨0, S, Pn, Ln, Nat.zero_le _, rfl, rfl, HB2.out, HDU, hsup, fun _ _ _ => rfl, hb2⟩
  case round =>
  obtain ⟨a1, S1, P1, L1, ha1, rfl, rfl, hB, hdue, hsup1, hedge, hb⟩ := hrel
  clear HB2 hb2 HDU hsup
  by_cases hlt : a1 < len
  case neg =>
    obtain rfl : a1 = len := by omega
    have hd := hdue.out
    rw [← HLE.out] at hd
    have HD2 : Hid (Due N T P1 L1 S1 (q.take i) 0 (T r + 2 * N r)) := due_shut hd
    have HB3 : Hid (BD wr own1 base p gl gp gn lo hi f3 (ints G) (fun x => (posOf q x : Int)) (capI m P1) (capI m L1) q []) := hB
    clear hd hdue hB
    go_wp2_with fail
    go_roundw
    case rel => exact ⟨i, S1, P1, L1, f3, by omega, rfl, rfl, HB3.out, HD2, hsup1, HF4c, HF2c, HF6c, hb⟩
    case measure => simp [intOf]
  obtain ⟨rfl, hrb1, hrb2⟩ := HR2.out (by rw [HLE.out]; omega)
  have hlr : a1 < (row G v).length := by rw [HLE.out]; exact hlt
  have hcell : wr.cell? ⟨rb, ro + a1, none⟩ = some (.int .i32 (((row G v)[a1] : Nat) : Int)) := by
    rw [World.cell?_of_block (w := W) (a := ⟨rb, ro + a1, none⟩) (hedge.out rb hrb1 hrb2), HR3.out a1 hlr]
    simp [vv, List.getD, hlr]
  have hxm : (row G v)[a1] ∈ row G v := List.getElem_mem hlr
  have hxn := HG.out v _ hxm
  have hxq := HQ.out.closed v hvq _ hxm
  obtain ⟨x, hx⟩ : ∃ x, (row G v)[a1] = x := ⟨_, rfl⟩
  have HX : Hid ((row G v)[a1] = x) := hx
  rw [hx] at hcell hxn hxq
  clear hx hxm
  have hxi : x < (ints G).length := by rw [ints_len]; exact hxn
  have hrb := hB.rb
  have hf32 : Hid (f3 2 = .int .i64 ((m : Int) - 1)) := by show _ = _; rw [HF2c.out]; exact HF2.out
  have hSle := cap_le m S1
  by_cases hxr : x = r
  case pos =>
    subst hxr
    have HD2 : Hid (Due N T P1 L1 (S1 + (Lv + Pv + Pv)) (q.take i) (Lv * sumD (aOf x (posOf q) N v) (row G v) (a1 + 1) + Pv * sumD (bOf x (posOf q) N T v) (row G v) (a1 + 1)) (T x + 2 * N x)) := due_root hlr HX.out hdue.out (by simp [aOf]) (by simp [bOf])
    have A1 : Hid (Calls Try.prog 38 #[.pointer (some ⟨p, 0, none⟩), .int .i64 (cap m Lv : Nat), .int .i64 (cap m Pv : Nat)] wr fun e w' => e = .returned (.int .i64 (cap m (Lv + Pv) : Nat)) ∧ w' = wr) := add38 p m Lv Pv f3 wr hrb hf32.out hm0 hm
    have A2 : Hid (Calls Try.prog 38 #[.pointer (some ⟨p, 0, none⟩), .int .i64 (cap m (Lv + Pv) : Nat), .int .i64 (cap m Pv : Nat)] wr fun e w' => e = .returned (.int .i64 (cap m (Lv + Pv + Pv) : Nat)) ∧ w' = wr) := add38 p m (Lv + Pv) Pv f3 wr hrb hf32.out hm0 hm
    have A3 : Hid (Calls Try.prog 38 #[.pointer (some ⟨p, 0, none⟩), .int .i64 (cap m S1 : Nat), .int .i64 (cap m (Lv + Pv + Pv) : Nat)] wr fun e w' => e = .returned (.int .i64 (cap m (S1 + (Lv + Pv + Pv)) : Nat)) ∧ w' = wr) := add38 p m S1 (Lv + Pv + Pv) f3 wr hrb hf32.out hm0 hm
    have HB3 : Hid (BD wr own1 base p gl gp gn lo hi f3 (ints G) (fun x => (posOf q x : Int)) (capI m P1) (capI m L1) q []) := hB
    clear hdue hB hrb
    go_wp2_with fail
    refine A1.out.mono ?_
    rintro e w' ⟨rfl, hw⟩
    obtain rfl := hw.symm
    clear hw A1
    go_wp2_with fail
    refine A2.out.mono ?_
    rintro e w' ⟨rfl, hw⟩
    obtain rfl := hw.symm
    clear hw A2
    go_wp2_with fail
    refine A3.out.mono ?_
    rintro e w' ⟨rfl, hw⟩
    obtain rfl := hw.symm
    clear hw A3
    go_wp2_with fail
    go_roundw
    case rel => exact ⟨a1 + 1, S1 + (Lv + Pv + Pv), P1, L1, by omega, by go_num, rfl, HB3.out, HD2, hsup1, hedge, hb⟩
    case measure => simp [intOf]; omega
  have hq1 : ((x : Int) == (r : Int)) = false := by simp; omega
  have c5 := hB.rb.cell (i := 5) (by decide)
  rw [hB.f5, ints_len] at c5
  have l1 := hB.rl.cell hxi
  have l2 := hB.rl.cell hvi
  by_cases hlp : posOf q x < posOf q v
  case neg =>
    have HD2 : Hid (Due N T P1 L1 S1 (q.take i) (Lv * sumD (aOf r (posOf q) N v) (row G v) (a1 + 1) + Pv * sumD (bOf r (posOf q) N T v) (row G v) (a1 + 1)) (T r + 2 * N r)) := due_skip hlr HX.out hdue.out (by simp [aOf, hxr, hlp]) (by simp [bOf, hxr, hlp])
    have HB3 : Hid (∀ n, BD (wr.drewN n) own1 base p gl gp gn lo hi f3 (ints G) (fun x => (posOf q x : Int)) (capI m P1) (capI m L1) q []) := fun n => hB.drewN n
    clear hdue hB hrb
    generalize posOf q x = px at *
    generalize posOf q v = pv at *
    go_wp2_with fail
    go_quiet (fail)
    go_wp2_with fail
    go_roundw
    case rel => exact ⟨a1 + 1, S1, P1, L1, by omega, by go_num, rfl, HB3.out _, HD2, hsup1, hedge, below_drewN hb _⟩
    case measure => simp [intOf]; omega
  have HD2 : Hid (Due N T (upd P1 x (P1 x + Pv)) (upd L1 x (L1 x + (Lv + Pv))) S1 (q.take i) (Lv * sumD (aOf r (posOf q) N v) (row G v) (a1 + 1) + Pv * sumD (bOf r (posOf q) N T v) (row G v) (a1 + 1)) (T r + 2 * N r)) := due_edge hlr HX.out hdue.out (HQ.out.nodup.sublist (List.take_sublist _ _)) (mem_take q HQ.out.nodup i hiq x hxq (by rw [HVV.out]; exact hlp)) (by simp [aOf, hxr, hlp]) (by simp [bOf, hxr, hlp])
  have HB3 : Hid (BD wr own1 base p gl gp gn lo hi f3 (ints G) (fun x => (posOf q x : Int)) (capI m P1) (capI m L1) q []) := hB
  clear hdue hB hrb
  generalize hpx : posOf q x = px at *
  generalize hpv : posOf q v = pv at *
  clear hpx hpv
  go_wp2_with fail
  go_quiet (fail)
  have hBW := HB3.out.drewN nq
  have hbW := below_drewN hb nq
  have HEW : Hid (∀ g, lo ≤ g → g < hi → (wr.drewN nq).heap[g]? = W.heap[g]?) := hedge.out
  clear c5 l1 l2 hcell HB3 hb hedge
  generalize wr.drewN nq = W1 at *
  have c8 := hBW.rb.cell (i := 8) (by decide)
  rw [hBW.f8, ints_len] at c8
  have hcp : capI m P1 x = ((cap m (P1 x) : Nat) : Int) := rfl
  have k1 := hBW.rp.cell hxi
  rw [hcp] at k1
  have k2 := hBW.rp.frozen x
  clear hcp
  have A1 : Hid (Calls Try.prog 38 #[.pointer (some ⟨p, 0, none⟩), .int .i64 (cap m (P1 x) : Nat), .int .i64 (cap m Pv : Nat)] W1.drew fun e w' => e = .returned (.int .i64 (cap m (P1 x + Pv) : Nat)) ∧ w' = W1.drew) := add38 p m (P1 x) Pv f3 W1.drew hBW.rb hf32.out hm0 hm
  have hB4 : BD ((W1.setCell ⟨gp, x, none⟩ (.int .i64 ((cap m (P1 x + Pv) : Nat) : Int))).drew) own1 base p gl gp gn lo hi f3 (ints G) (fun x => (posOf q x : Int)) (capI m (upd P1 x (P1 x + Pv))) (capI m L1) q [] := by
    rw [capI_upd]; exact (hBW.setP x _).drewN 1
  have hb4 : Below base w ((W1.setCell ⟨gp, x, none⟩ (.int .i64 ((cap m (P1 x + Pv) : Nat) : Int))).drew) := (hbW.setCell (p := ⟨gp, x, none⟩) hBW.tg.bq _).drew
  have hgpE : ∀ g, lo ≤ g → g < hi → g ≠ gp := fun g h1 h2 e => by have h3 := hBW.tg.e g h1 h2; rw [e, hBW.tg.kq] at h3; cases h3
  have hgnE : ∀ g, lo ≤ g → g < hi → g ≠ gn := fun g h1 h2 e => by have h3 := hBW.tg.e g h1 h2; rw [e, hBW.tg.kn] at h3; cases h3
  have HGN : Hid (∀ g, lo ≤ g → g < hi → g ≠ gn) := hgnE
  have HE4 : Hid (∀ g, lo ≤ g → g < hi → ((W1.setCell ⟨gp, x, none⟩ (.int .i64 ((cap m (P1 x + Pv) : Nat) : Int))).drew).heap[g]? = W.heap[g]?) := fun g h1 h2 => (Below.heap_setCell W1 ⟨gp, x, none⟩ _ g (hgpE g h1 h2)).trans (HEW.out g h1 h2)
  have HB4 : Hid (BD ((W1.setCell ⟨gp, x, none⟩ (.int .i64 ((cap m (P1 x + Pv) : Nat) : Int))).drew) own1 base p gl gp gn lo hi f3 (ints G) (fun x => (posOf q x : Int)) (capI m (upd P1 x (P1 x + Pv))) (capI m L1) q []) := hB4
  clear hBW hbW HEW hgpE hgnE hB4
  generalize cap m (P1 x + Pv) = y1 at *
  generalize cap m (P1 x) = cp1 at *
  go_upto_region 16 with fail
  go_cut [13] (fun xx wx => xx = .int .i32 (x : Int) ∧ wx = (W1.setCell ⟨gp, x, none⟩ (.int .i64 (y1 : Int))).drew)
  case first =>
    go_region_with ((go_at_call 38; refine A1.out.mono ?_; rintro e w' ⟨rfl, rfl⟩))
    all_goals (go_wp2_with fail; go_meet; exact ⟨rfl, rfl⟩)
  case rest =>
  obtain ⟨rfl, hwc⟩ := hcut
  subst hwc
  clear A1 c8 k1 k2
  generalize (W1.setCell ⟨gp, x, none⟩ (.int .i64 (y1 : Int))).drew = W2 at *
  have c9 := HB4.out.rb.cell (i := 9) (by decide)
  rw [HB4.out.f9, ints_len] at c9
  have hcp : capI m L1 x = ((cap m (L1 x) : Nat) : Int) := rfl
  have k1 := HB4.out.rn.cell hxi
  rw [hcp] at k1
  have k2 := HB4.out.rn.frozen x
  clear hcp
  have B1 : Hid (Calls Try.prog 38 #[.pointer (some ⟨p, 0, none⟩), .int .i64 (cap m Lv : Nat), .int .i64 (cap m Pv : Nat)] W2.drew fun e w' => e = .returned (.int .i64 (cap m (Lv + Pv) : Nat)) ∧ w' = W2.drew) := add38 p m Lv Pv f3 W2.drew HB4.out.rb hf32.out hm0 hm
  have B2 : Hid (Calls Try.prog 38 #[.pointer (some ⟨p, 0, none⟩), .int .i64 (cap m (L1 x) : Nat), .int .i64 (cap m (Lv + Pv) : Nat)] W2.drew fun e w' => e = .returned (.int .i64 (cap m (L1 x + (Lv + Pv)) : Nat)) ∧ w' = W2.drew) := add38 p m (L1 x) (Lv + Pv) f3 W2.drew HB4.out.rb hf32.out hm0 hm
  have hB5 : BD ((W2.setCell ⟨gn, x, none⟩ (.int .i64 ((cap m (L1 x + (Lv + Pv)) : Nat) : Int))).drew) own1 base p gl gp gn lo hi f3 (ints G) (fun x => (posOf q x : Int)) (capI m (upd P1 x (P1 x + Pv))) (capI m (upd L1 x (L1 x + (Lv + Pv)))) q [] := by
    rw [capI_upd m L1]; exact (HB4.out.setL x _).drewN 1
  have hb5 : Below base w ((W2.setCell ⟨gn, x, none⟩ (.int .i64 ((cap m (L1 x + (Lv + Pv)) : Nat) : Int))).drew) := (hb4.setCell (p := ⟨gn, x, none⟩) HB4.out.tg.bn _).drew
  have HE5 : Hid (∀ g, lo ≤ g → g < hi → ((W2.setCell ⟨gn, x, none⟩ (.int .i64 ((cap m (L1 x + (Lv + Pv)) : Nat) : Int))).drew).heap[g]? = W.heap[g]?) := fun g h1 h2 => (Below.heap_setCell W2 ⟨gn, x, none⟩ _ g (HGN.out g h1 h2)).trans (HE4.out g h1 h2)
  have HB5 : Hid (BD ((W2.setCell ⟨gn, x, none⟩ (.int .i64 ((cap m (L1 x + (Lv + Pv)) : Nat) : Int))).drew) own1 base p gl gp gn lo hi f3 (ints G) (fun x => (posOf q x : Int)) (capI m (upd P1 x (P1 x + Pv))) (capI m (upd L1 x (L1 x + (Lv + Pv)))) q []) := hB5
  have HSUP : Hid (∀ z, z ∉ q → upd P1 x (P1 x + Pv) z = 0 ∧ upd L1 x (L1 x + (Lv + Pv)) z = 0) := fun z hz => by
    have : z ≠ x := fun e => hz (e ▸ hxq)
    simp only [upd, this, if_false]
    exact hsup1.out z hz
  clear HB4 hb4 HE4 HGN hB5
  generalize cap m (L1 x + (Lv + Pv)) = y2 at *
  generalize cap m (Lv + Pv) = cLP at *
  generalize cap m (L1 x) = cL1 at *
  go_upto_region 17 with fail
  go_region_with ((first | (go_at_call 38; with_reducible refine B1.out.mono ?_; rintro e w' ⟨rfl, rfl⟩) | (go_at_call 38; with_reducible refine B2.out.mono ?_; rintro e w' ⟨rfl, rfl⟩)))
  all_goals (
    go_wp2_with fail
    go_roundw
    case rel => exact ⟨a1 + 1, S1, _, _, by omega, by go_num, rfl, HB5.out, HD2, HSUP, HE5, hb5⟩
    case measure => simp [intOf]; omega)
end CY
end Go.Proofs.Qxb6003137a
