/- The plain law, second part: the stack, the numbers, the sums. -/
import Derived.Test.Qxb6003137aPlain
namespace Go.Proofs.Qxb6003137a
namespace CY

/-- All that lies on the stack (its top first) is finished, in k rounds. -/
def FinAll (G : List (List Nat)) (back : Bool) (sE : Nat → Bool) (pE : List Nat) : Nat → List (Nat × Nat) → (Nat → Bool) → List Nat → Prop
  | k, [], s, p => k = 0 ∧ s = sE ∧ p = pE
  | k, (v, t) :: rest, s, p => ∃ k1 k2 s1 p1, k = k1 + k2 ∧ Fin G back k1 v t s p s1 p1 ∧ FinAll G back sE pE k2 rest s1 p1

theorem FinAll.le {G : List (List Nat)} {back : Bool} {sE : Nat → Bool} {pE : List Nat} {k v t : Nat} {rest : List (Nat × Nat)} {s : Nat → Bool} {p : List Nat} (h : FinAll G back sE pE k ((v, t) :: rest) s p) : t ≤ (row G v).length := by
  obtain ⟨k1, k2, s1, p1, rfl, hf, _⟩ := h
  cases hf <;> omega

theorem FinAll.skip {G : List (List Nat)} {back : Bool} {sE : Nat → Bool} {pE : List Nat} {k v t : Nat} {rest : List (Nat × Nat)} {s : Nat → Bool} {p : List Nat} (h : FinAll G back sE pE k ((v, t) :: rest) s p) (ht : t < (row G v).length) (hs : s (nth back (row G v) t) = true) : ∃ k', k = k' + 1 ∧ FinAll G back sE pE k' ((v, t + 1) :: rest) s p := by
  obtain ⟨k1, k2, s1, p1, rfl, hf, hr⟩ := h
  cases hf with
  | done h => omega
  | go _ hs' _ _ => rw [hs] at hs'; cases hs'
  | skip _ _ hf => exact ⟨_, by omega, _, _, _, _, rfl, hf, hr⟩

theorem FinAll.go {G : List (List Nat)} {back : Bool} {sE : Nat → Bool} {pE : List Nat} {k v t : Nat} {rest : List (Nat × Nat)} {s : Nat → Bool} {p : List Nat} (h : FinAll G back sE pE k ((v, t) :: rest) s p) (ht : t < (row G v).length) (hs : s (nth back (row G v) t) = false) : ∃ k', k = k' + 1 ∧ FinAll G back sE pE k' ((nth back (row G v) t, 0) :: (v, t + 1) :: rest) (upd s (nth back (row G v) t) true) p := by
  obtain ⟨k1, k2, s1, p1, rfl, hf, hr⟩ := h
  cases hf with
  | done h => omega
  | skip _ hs' _ => rw [hs] at hs'; cases hs'
  | @go ka kb _ _ _ _ _ _ _ _ _ _ h1 hf => exact ⟨ka + (kb + k2), by omega, _, _, _, _, rfl, h1, _, _, _, _, rfl, hf, hr⟩

theorem FinAll.pop {G : List (List Nat)} {back : Bool} {sE : Nat → Bool} {pE : List Nat} {k v t : Nat} {rest : List (Nat × Nat)} {s : Nat → Bool} {p : List Nat} (h : FinAll G back sE pE k ((v, t) :: rest) s p) (ht : ¬ t < (row G v).length) : ∃ k', k = k' + 1 ∧ FinAll G back sE pE k' rest s (p ++ [v]) := by
  obtain ⟨k1, k2, s1, p1, rfl, hf, hr⟩ := h
  cases hf with
  | done h => exact ⟨k2, by omega, hr⟩
  | skip h' _ _ => omega
  | go h' _ _ _ => omega

theorem FinAll.pre {G : List (List Nat)} (hG : InR G) {back : Bool} {sE : Nat → Bool} {pE : List Nat} : ∀ (st : List (Nat × Nat)) {k : Nat} {s : Nat → Bool} {p : List Nat}, FinAll G back sE pE k st s p → ∃ l, pE = p ++ l ∧ st.length ≤ l.length
  | [], k, s, p, h => ⟨[], by simp [h.2.2], by simp⟩
  | (v, t) :: rest, k, s, p, h => by
    obtain ⟨k1, k2, s1, p1, rfl, hf, hr⟩ := h
    obtain ⟨l, h1, h2⟩ := FinAll.pre hG rest hr
    obtain ⟨q, h3, _⟩ := hf.spec hG
    exact ⟨q ++ [v] ++ l, by rw [h1, h3]; simp, by simp; omega⟩

/-- The place of x in q, from 1 on; 0 where it isn't there. -/
def posOf (q : List Nat) (x : Nat) : Nat := if x ∈ q then q.idxOf x + 1 else 0

theorem posOf_nil : posOf [] = fun _ => 0 := by funext x; simp [posOf]
theorem posOf_snoc (p : List Nat) (v : Nat) (h : v ∉ p) : posOf (p ++ [v]) = upd (posOf p) v (p.length + 1) := by
  funext x
  unfold posOf upd
  by_cases e : x = v
  · subst e
    simp [List.idxOf_append, h]
  · by_cases hx : x ∈ p
    · simp [List.idxOf_append, hx, e]
    · simp [hx, e]
theorem posOf_get (q : List Nat) (hq : q.Nodup) (i : Nat) (hi : i < q.length) : posOf q q[i] = i + 1 := by
  unfold posOf
  rw [if_pos (List.getElem_mem hi), hq.idxOf_getElem i hi]
theorem posOf_le (q : List Nat) (x : Nat) : posOf q x ≤ q.length := by
  unfold posOf
  split
  · rename_i h; have := List.idxOf_lt_length_iff.2 h; omega
  · omega
/-- What is before v in q lies in q's part ahead of v. -/
theorem mem_take (q : List Nat) (hq : q.Nodup) (i : Nat) (hi : i < q.length) (w : Nat) (hw : w ∈ q) (h : posOf q w < posOf q q[i]) : w ∈ q.take i := by
  rw [posOf_get q hq i hi] at h
  obtain ⟨j, hj, rfl⟩ := List.getElem_of_mem hw
  rw [posOf_get q hq j hj] at h
  exact List.mem_take_iff_getElem.2 ⟨j, by omega, rfl⟩

/-- b.left, while the search is on its way. -/
def leftOf (p : List Nat) (s : Nat → Bool) (x : Nat) : Int := if x ∈ p then (posOf p x : Int) else if s x then -1 else 0
theorem leftOf_start (r : Nat) : leftOf [] (upd (fun _ => false) r true) = upd (fun _ => 0) r (-1) := by
  funext x
  unfold leftOf upd
  by_cases e : x = r <;> simp [e]
theorem leftOf_go (p : List Nat) (s : Nat → Bool) (w : Nat) (h : w ∉ p) : leftOf p (upd s w true) = upd (leftOf p s) w (-1) := by
  funext x
  by_cases e : x = w
  · subst e; simp [leftOf, upd, h]
  · simp [leftOf, upd, e]
theorem leftOf_pop (p : List Nat) (s : Nat → Bool) (v : Nat) (h : v ∉ p) : leftOf (p ++ [v]) s = upd (leftOf p s) v ((p.length + 1 : Nat) : Int) := by
  funext x
  by_cases e : x = v
  · subst e; simp [leftOf, posOf_snoc _ _ h, upd]
  · unfold leftOf
    rw [posOf_snoc _ _ h]
    simp [upd, e]
theorem leftOf_zero (p : List Nat) (s : Nat → Bool) (hp : ∀ x ∈ p, s x = true) (w : Nat) : (leftOf p s w == 0) = !s w := by
  unfold leftOf
  by_cases h : w ∈ p
  · rw [if_pos h, hp w h]
    unfold posOf
    rw [if_pos h]
    simp
    omega
  · rw [if_neg h]
    cases s w <;> simp
theorem leftOf_end (p : List Nat) (s : Nat → Bool) (hs : ∀ x, s x = true ↔ x ∈ p) : leftOf p s = fun x => (posOf p x : Int) := by
  funext x
  unfold leftOf
  by_cases h : x ∈ p
  · rw [if_pos h]
  · rw [if_neg h]
    have : s x = false := by
      cases e : s x with
      | false => rfl
      | true => exact absurd ((hs x).1 e) h
    simp [this, posOf, h]

theorem nodup_len : ∀ (n : Nat) (q : List Nat), q.Nodup → (∀ x ∈ q, x < n) → q.length ≤ n
  | 0, q, _, h => by
    cases q with
    | nil => simp
    | cons x t => exact absurd (h x (by simp)) (by omega)
  | n + 1, q, hq, h => by
    by_cases hm : n ∈ q
    · have h1 := nodup_len n (q.erase n) (hq.erase n) (fun x hx => by
        have h2 := (hq.mem_erase_iff).1 hx
        have := h x h2.2
        have := h2.1
        omega)
      have := List.length_erase_of_mem hm
      omega
    · have := nodup_len n q hq (fun x hx => by
        have h1 := h x hx
        have : x ≠ n := fun e => hm (e ▸ hx)
        omega)
      omega

def workOf (G : List (List Nat)) (q : List Nat) : Nat := (q.map (fun v => 1 + (row G v).length)).sum
theorem workOf_snoc (G : List (List Nat)) (q : List Nat) (v : Nat) : workOf G (q ++ [v]) = workOf G q + (1 + (row G v).length) := by simp [workOf]
theorem workOf_le (G : List (List Nat)) (hG : ∀ v, (row G v).length ≤ 1048576) : ∀ q : List Nat, workOf G q ≤ q.length * 1048577
  | [] => by simp [workOf]
  | v :: q => by
    have := workOf_le G hG q
    have := hG v
    simp only [workOf, List.map_cons, List.sum_cons, List.length_cons] at *
    omega
theorem workOf_take (G : List (List Nat)) (q : List Nat) (i : Nat) (hi : i < q.length) : workOf G (q.take (i + 1)) = workOf G (q.take i) + (1 + (row G q[i]).length) := by
  rw [← List.take_append_getElem hi, workOf_snoc]

/-- min. -/
def cap (m x : Nat) : Nat := min x m
theorem cap_le (m x : Nat) : cap m x ≤ m := Nat.min_le_right _ _
theorem cap_over (m a b : Nat) (h : m < cap m a + cap m b) : cap m (a + b) = m := by unfold cap at *; omega
theorem cap_add (m a b : Nat) (h : cap m a + cap m b ≤ m) : cap m (a + b) = cap m a + cap m b := by unfold cap at *; omega
theorem cap_zero (m : Nat) : cap m 0 = 0 := by unfold cap; omega
theorem cap_one (m : Nat) (h : 0 < m) : cap m 1 = 1 := by unfold cap; omega

/-- The paths that go down the order and close at r, and their edges. -/
structure Paths (G : List (List Nat)) (r : Nat) (pos N T : Nat → Nat) : Prop where
  n : ∀ v, N v = ((row G v).map (fun w => if w = r then 1 else if pos w < pos v then N w else 0)).sum
  t : ∀ v, T v = ((row G v).map (fun w => if w = r then 0 else if pos w < pos v then T w + N w else 0)).sum

theorem exists_paths (G : List (List Nat)) (r : Nat) (pos : Nat → Nat) : ∃ N T, Paths G r pos N T := by
  let wf : WellFounded (fun a b : Nat => pos a < pos b) := (measure pos).wf
  let N : Nat → Nat := wf.fix (fun v rec => ((row G v).map (fun w => if w = r then 1 else if h : pos w < pos v then rec w h else 0)).sum)
  have hN : ∀ v, N v = ((row G v).map (fun w => if w = r then 1 else if pos w < pos v then N w else 0)).sum := fun v => by
    show wf.fix _ v = _
    rw [wf.fix_eq]
    simp only [dite_eq_ite]
    rfl
  let T : Nat → Nat := wf.fix (fun v rec => ((row G v).map (fun w => if w = r then 0 else if h : pos w < pos v then rec w h + N w else 0)).sum)
  have hT : ∀ v, T v = ((row G v).map (fun w => if w = r then 0 else if pos w < pos v then T w + N w else 0)).sum := fun v => by
    show wf.fix _ v = _
    rw [wf.fix_eq]
    simp only [dite_eq_ite]
    rfl
  exact ⟨N, T, hN, hT⟩

/-- The sum of f over xs from j on; over the first j. -/
def sumD (f : Nat → Nat) (xs : List Nat) (j : Nat) : Nat := ((xs.drop j).map f).sum
def sumT (f : Nat → Nat) (xs : List Nat) (j : Nat) : Nat := ((xs.take j).map f).sum
theorem sumD_step (f : Nat → Nat) (xs : List Nat) (j : Nat) (h : j < xs.length) : sumD f xs j = f xs[j] + sumD f xs (j + 1) := by
  unfold sumD
  rw [List.drop_eq_getElem_cons h, List.map_cons, List.sum_cons]
theorem sumD_end (f : Nat → Nat) (xs : List Nat) : sumD f xs xs.length = 0 := by simp [sumD]
theorem sumT_step (f : Nat → Nat) (xs : List Nat) (j : Nat) (h : j < xs.length) : sumT f xs (j + 1) = sumT f xs j + f xs[j] := by
  unfold sumT
  rw [← List.take_append_getElem h, List.map_append, List.sum_append]
  simp
theorem sumT_all (f : Nat → Nat) (xs : List Nat) : sumT f xs xs.length = (xs.map f).sum := by simp [sumT]
theorem sumT_zero (f : Nat → Nat) (xs : List Nat) : sumT f xs 0 = 0 := by simp [sumT]

theorem sum_same (F F' : Nat → Nat) : ∀ (l : List Nat), (∀ x ∈ l, F' x = F x) → (l.map F').sum = (l.map F).sum := fun l h => by
  rw [List.map_congr_left h]
theorem sum_upd (F F' : Nat → Nat) (w d : Nat) (hne : ∀ x, x ≠ w → F' x = F x) (hw : F' w = F w + d) : ∀ (l : List Nat), l.Nodup → w ∈ l → (l.map F').sum = (l.map F).sum + d
  | [], _, h => by simp at h
  | x :: l, hn, h => by
    rw [List.nodup_cons] at hn
    simp only [List.map_cons, List.sum_cons]
    by_cases e : x = w
    · subst e
      rw [hw, sum_same F F' l (fun y hy => hne y (fun e => hn.1 (e ▸ hy)))]
      omega
    · rw [hne x e, sum_upd F F' w d hne hw l hn.2 (by simpa [Ne.symm e] using h)]
      omega

def aOf (r : Nat) (pos N : Nat → Nat) (v w : Nat) : Nat := if w = r then 1 else if pos w < pos v then N w else 0
def bOf (r : Nat) (pos N T : Nat → Nat) (v w : Nat) : Nat := if w = r then 2 else if pos w < pos v then T w + N w + 2 * N w else 0
def phi (N T P L : Nat → Nat) (x : Nat) : Nat := L x * N x + P x * (T x + 2 * N x)

theorem Paths.sumA {G : List (List Nat)} {r : Nat} {pos N T : Nat → Nat} (h : Paths G r pos N T) (v : Nat) : sumD (aOf r pos N v) (row G v) 0 = N v := by
  rw [h.n v]; rfl
theorem sum_lin (f g : Nat → Nat) : ∀ l : List Nat, (l.map (fun x => f x + 2 * g x)).sum = (l.map f).sum + 2 * (l.map g).sum
  | [] => by simp
  | x :: l => by simp only [List.map_cons, List.sum_cons, sum_lin f g l]; omega
theorem Paths.sumB {G : List (List Nat)} {r : Nat} {pos N T : Nat → Nat} (h : Paths G r pos N T) (v : Nat) : sumD (bOf r pos N T v) (row G v) 0 = T v + 2 * N v := by
  rw [h.n v, h.t v]
  unfold sumD
  rw [List.drop_zero, ← sum_lin]
  congr 1
  refine List.map_congr_left fun w _ => ?_
  unfold bOf
  by_cases e : w = r
  · simp [e]
  · by_cases e2 : pos w < pos v <;> simp [e, e2]

/-- One more edge: a path is handed down. -/
theorem phi_edge (N T P L : Nat → Nat) (w Pv Lv : Nat) (l : List Nat) (hl : l.Nodup) (hw : w ∈ l) :
    (l.map (phi N T (upd P w (P w + Pv)) (upd L w (L w + (Lv + Pv))))).sum = (l.map (phi N T P L)).sum + (Lv * N w + Pv * (T w + N w + 2 * N w)) := by
  refine sum_upd _ _ w _ (fun x hx => by simp [phi, upd, hx]) ?_ l hl hw
  simp only [phi, upd_same]
  simp only [Nat.add_mul, Nat.mul_add]
  omega

theorem phi_start (N T : Nat → Nat) (r : Nat) (l : List Nat) (hl : l.Nodup) (hr : r ∈ l) : (l.map (phi N T (upd (fun _ => 0) r 1) (fun _ => 0))).sum = T r + 2 * N r := by
  rw [sum_upd (fun _ => 0) _ r (T r + 2 * N r) (fun x hx => by simp [phi, upd, hx]) (by simp [phi, upd]) l hl hr]
  have : ∀ l : List Nat, (l.map (fun _ => 0)).sum = 0 := fun l => by induction l <;> simp_all
  rw [this]; omega
end CY
end Go.Proofs.Qxb6003137a
