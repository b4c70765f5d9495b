/- The plain law: a depth-first search, the paths that close at its root. No Go in sight. -/
namespace Go.Proofs.Qxb6003137a
namespace CY

def row (G : List (List Nat)) (v : Nat) : List Nat := G.getD v []
def nth (back : Bool) (xs : List Nat) (t : Nat) : Nat := xs.getD (if back then xs.length - 1 - t else t) 0
def upd {α : Type} (f : Nat → α) (v : Nat) (x : α) : Nat → α := fun i => if i = v then x else f i

theorem upd_same {α : Type} (f : Nat → α) (v : Nat) (x : α) : upd f v x v = x := by simp [upd]
theorem upd_ne {α : Type} (f : Nat → α) {v i : Nat} (x : α) (h : i ≠ v) : upd f v x i = f i := by simp [upd, h]

/-- From the edge t of v on: what is seen, what is left, and in how many rounds. -/
inductive Fin (G : List (List Nat)) (back : Bool) : Nat → Nat → Nat → (Nat → Bool) → List Nat → (Nat → Bool) → List Nat → Prop
  | done {v t : Nat} {s : Nat → Bool} {p : List Nat} (h : t = (row G v).length) : Fin G back 1 v t s p s (p ++ [v])
  | skip {k v t : Nat} {s s' : Nat → Bool} {p p' : List Nat} (h : t < (row G v).length) (hs : s (nth back (row G v) t) = true) (hf : Fin G back k v (t + 1) s p s' p') : Fin G back (k + 1) v t s p s' p'
  | go {k1 k2 v t : Nat} {s s1 s' : Nat → Bool} {p p1 p' : List Nat} (h : t < (row G v).length) (hs : s (nth back (row G v) t) = false) (h1 : Fin G back k1 (nth back (row G v) t) 0 (upd s (nth back (row G v) t) true) p s1 p1) (hf : Fin G back k2 v (t + 1) s1 p1 s' p') : Fin G back (k1 + k2 + 1) v t s p s' p'

theorem Fin.pos {G : List (List Nat)} {back : Bool} {k v t : Nat} {s s' : Nat → Bool} {p p' : List Nat} (h : Fin G back k v t s p s' p') : 0 < k := by
  cases h <;> omega

theorem Fin.det {G : List (List Nat)} {back : Bool} {k v t : Nat} {s s' : Nat → Bool} {p p' : List Nat} (h : Fin G back k v t s p s' p') : ∀ {k2 : Nat} {s2 : Nat → Bool} {p2 : List Nat}, Fin G back k2 v t s p s2 p2 → s' = s2 ∧ p' = p2 := by
  induction h with
  | done h =>
    intro k2 s2 p2 h2
    cases h2 with
    | done _ => exact ⟨rfl, rfl⟩
    | skip h' _ _ => omega
    | go h' _ _ _ => omega
  | skip h hs _ ih =>
    intro k2 s2 p2 h2
    cases h2 with
    | done h' => omega
    | skip _ _ hf => exact ih hf
    | go _ hs' _ _ => rw [hs] at hs'; cases hs'
  | go h hs _ _ ih1 ih2 =>
    intro k2 s2 p2 h2
    cases h2 with
    | done h' => omega
    | skip _ hs' _ => rw [hs] at hs'; cases hs'
    | go _ _ h1' hf' =>
      obtain ⟨rfl, rfl⟩ := ih1 h1'
      exact ih2 hf'

/-- How many are not yet seen. -/
def unseen (n : Nat) (s : Nat → Bool) : Nat := ((List.range n).filter (fun i => !s i)).length

theorem unseen_mono {n : Nat} {s s' : Nat → Bool} (h : ∀ i, s i = true → s' i = true) : unseen n s' ≤ unseen n s := by
  unfold unseen
  rw [← List.countP_eq_length_filter, ← List.countP_eq_length_filter]
  refine List.countP_mono_left (fun x _ hx => ?_)
  cases e : s x with
  | false => rfl
  | true => rw [h x e] at hx; cases hx

theorem unseen_lt {n w : Nat} {s : Nat → Bool} (hw : w < n) (h : s w = false) : unseen n (upd s w true) < unseen n s := by
  unfold unseen
  rw [← List.countP_eq_length_filter, ← List.countP_eq_length_filter]
  have hm : w ∈ List.range n := List.mem_range.2 hw
  obtain ⟨a, b, hab⟩ := List.append_of_mem hm
  rw [hab]
  simp only [List.countP_append, List.countP_cons]
  have h1 : ∀ l : List Nat, l.countP (fun i => !upd s w true i) ≤ l.countP (fun i => !s i) := fun l => List.countP_mono_left (fun x _ hx => by
    cases e : s x with
    | false => rfl
    | true =>
      by_cases e2 : x = w
      · subst e2; rw [h] at e; cases e
      · rw [upd_ne s true e2, e] at hx; cases hx)
  have ha := h1 a
  have hb := h1 b
  rw [upd_same, h]
  simp
  omega

theorem nth_mem {back : Bool} {xs : List Nat} {t : Nat} (h : t < xs.length) : nth back xs t ∈ xs := by
  unfold nth
  have : (if back then xs.length - 1 - t else t) < xs.length := by split <;> omega
  simp only [List.getD_eq_getElem?_getD, List.getElem?_eq_getElem this, Option.getD_some]
  exact List.getElem_mem this

theorem mem_nth {back : Bool} {xs : List Nat} {w : Nat} (h : w ∈ xs) : ∃ t, t < xs.length ∧ nth back xs t = w := by
  obtain ⟨i, hi, rfl⟩ := List.getElem_of_mem h
  cases back with
  | false => exact ⟨i, hi, by simp [nth, hi]⟩
  | true =>
    refine ⟨xs.length - 1 - i, by omega, ?_⟩
    have : xs.length - 1 - (xs.length - 1 - i) = i := by omega
    simp [nth, this, hi]

/-- Every edge names a transaction. -/
def InR (G : List (List Nat)) : Prop := ∀ v, ∀ w ∈ row G v, w < G.length

theorem Fin.total {G : List (List Nat)} (hG : InR G) (back : Bool) : ∀ (m : Nat) (s : Nat → Bool), unseen G.length s ≤ m → ∀ (d v t : Nat), (row G v).length - t ≤ d → t ≤ (row G v).length → ∀ p, ∃ k s' p', Fin G back k v t s p s' p' ∧ ∀ i, s i = true → s' i = true := by
  intro m
  induction m with
  | zero =>
    intro s hs d
    induction d with
    | zero => intro v t hd ht p; exact ⟨_, _, _, .done (by omega), fun _ h => h⟩
    | succ d ih =>
      intro v t hd ht p
      by_cases h : t < (row G v).length
      · cases e : s (nth back (row G v) t) with
        | true =>
          obtain ⟨k, s', p', h1, h2⟩ := ih v (t + 1) (by omega) (by omega) p
          exact ⟨_, _, _, .skip h e h1, h2⟩
        | false =>
          have := unseen_lt (hG v _ (nth_mem (back := back) h)) e
          omega
      · exact ⟨_, _, _, .done (by omega), fun _ h => h⟩
  | succ m ihm =>
    intro s hs d
    induction d generalizing s with
    | zero => intro v t hd ht p; exact ⟨_, _, _, .done (by omega), fun _ h => h⟩
    | succ d ih =>
      intro v t hd ht p
      by_cases h : t < (row G v).length
      · cases e : s (nth back (row G v) t) with
        | true =>
          obtain ⟨k, s', p', h1, h2⟩ := ih s hs v (t + 1) (by omega) (by omega) p
          exact ⟨_, _, _, .skip h e h1, h2⟩
        | false =>
          have hu := unseen_lt (hG v _ (nth_mem (back := back) h)) e
          obtain ⟨k1, s1, p1, h1, h2⟩ := ihm (upd s (nth back (row G v) t) true) (by omega) (row G (nth back (row G v) t)).length (nth back (row G v) t) 0 (by omega) (by omega) p
          have hm : ∀ i, s i = true → s1 i = true := fun i hi => h2 i (by unfold upd; split; rfl; exact hi)
          have hu1 := unseen_mono (n := G.length) hm
          obtain ⟨k2, s', p', h3, h4⟩ := ih s1 (by omega) v (t + 1) (by omega) (by omega) p1
          exact ⟨_, _, _, .go h e h1 h3, fun i hi => h4 i (hm i hi)⟩
      · exact ⟨_, _, _, .done (by omega), fun _ h => h⟩

/-- What a search leaves: its new transactions, and that it is closed under the edges. -/
theorem Fin.spec {G : List (List Nat)} {back : Bool} {k v t : Nat} {s s' : Nat → Bool} {p p' : List Nat} (hG : InR G) (h : Fin G back k v t s p s' p') :
    ∃ q, p' = p ++ q ++ [v] ∧ q.Nodup ∧ (∀ x, s' x = true ↔ s x = true ∨ x ∈ q) ∧ (∀ x ∈ q, s x = false ∧ x < G.length) ∧ (∀ x ∈ q, ∀ w ∈ row G x, s' w = true) ∧ (∀ i, t ≤ i → i < (row G v).length → s' (nth back (row G v) i) = true) := by
  induction h with
  | done h => exact ⟨[], by simp, by simp, by simp, by simp, by simp, fun i h1 h2 => by omega⟩
  | @skip k v t s s' p p' h hs _ ih =>
    obtain ⟨q, h1, h2, h3, h4, h5, h6⟩ := ih
    refine ⟨q, h1, h2, h3, h4, h5, fun i hi1 hi2 => ?_⟩
    by_cases e : i = t
    · subst e; exact (h3 _).2 (.inl hs)
    · exact h6 i (by omega) hi2
  | @go k1 k2 v t s s1 s' p p1 p' h hs hf1 hf2 ih1 ih2 =>
    obtain ⟨q1, a1, a2, a3, a4, a5, a6⟩ := ih1
    obtain ⟨q2, b1, b2, b3, b4, b5, b6⟩ := ih2
    have hwn := hG v _ (nth_mem (back := back) h)
    generalize hw : nth back (row G v) t = w at *
    have hsw : s1 w = true := (a3 w).2 (.inl (upd_same _ _ _))
    have hmono : ∀ x, s1 x = true → s' x = true := fun x hx => (b3 x).2 (.inl hx)
    have hq1w : w ∉ q1 := fun hm => by have := (a4 w hm).1; rw [upd_same] at this; cases this
    have hs1 : ∀ x, s1 x = true ↔ s x = true ∨ x = w ∨ x ∈ q1 := fun x => by
      rw [a3]
      by_cases e : x = w
      · subst e; simp [upd_same]
      · rw [upd_ne _ _ e]; simp [e]
    refine ⟨q1 ++ [w] ++ q2, by rw [b1, a1]; simp, ?_, fun x => ?_, fun x hx => ?_, fun x hx u hu => ?_, fun i hi1 hi2 => ?_⟩
    · rw [List.nodup_append, List.nodup_append]
      refine ⟨⟨a2, by simp, fun x hx y hy => ?_⟩, b2, fun x hx y hy => ?_⟩
      · simp at hy; subst hy; rintro rfl; exact hq1w hx
      · rintro rfl
        have h1 := (b4 x hy).1
        have h2 : s1 x = true := (hs1 x).2 (by simp at hx; rcases hx with hx | hx; exact .inr (.inr hx); exact .inr (.inl hx))
        rw [h1] at h2; cases h2
    · rw [b3, hs1]; simp only [List.mem_append, List.mem_singleton]; constructor
      · rintro ((h | h | h) | h)
        · exact .inl h
        · exact .inr (.inl (.inr h))
        · exact .inr (.inl (.inl h))
        · exact .inr (.inr h)
      · rintro (h | ((h | h) | h))
        · exact .inl (.inl h)
        · exact .inl (.inr (.inr h))
        · exact .inl (.inr (.inl h))
        · exact .inr h
    · simp at hx
      rcases hx with hx | rfl | hx
      · obtain ⟨c1, c2⟩ := a4 x hx
        refine ⟨?_, c2⟩
        have hne : x ≠ w := fun e => hq1w (e ▸ hx)
        rwa [upd_ne _ _ hne] at c1
      · exact ⟨hs, hwn⟩
      · obtain ⟨c1, c2⟩ := b4 x hx
        refine ⟨?_, c2⟩
        cases e : s x with
        | false => rfl
        | true => rw [(hs1 x).2 (.inl e)] at c1; cases c1
    · simp at hx
      rcases hx with hx | rfl | hx
      · exact hmono _ (a5 x hx u hu)
      · obtain ⟨i, hi, rfl⟩ := mem_nth (back := back) hu
        exact hmono _ (a6 i (Nat.zero_le _) hi)
      · exact b5 x hx u hu
    · by_cases e : i = t
      · subst e; rw [hw]; exact hmono _ hsw
      · exact b6 i (by omega) hi2

/-- The search from r of a graph in which nothing is seen. -/
structure Post (G : List (List Nat)) (r : Nat) (q : List Nat) : Prop where
  last : ∃ l, q = l ++ [r]
  nodup : q.Nodup
  lt : ∀ x ∈ q, x < G.length
  closed : ∀ x ∈ q, ∀ w ∈ row G x, w ∈ q

theorem Fin.post {G : List (List Nat)} {back : Bool} {k r : Nat} {s' : Nat → Bool} {q : List Nat} (hG : InR G) (hr : r < G.length) (h : Fin G back k r 0 (upd (fun _ => false) r true) [] s' q) : Post G r q ∧ ∀ x, s' x = true ↔ x ∈ q := by
  obtain ⟨l, h1, h2, h3, h4, h5, h6⟩ := h.spec hG
  simp only [List.nil_append] at h1
  subst h1
  have hrl : r ∉ l := fun hm => by have := (h4 r hm).1; rw [upd_same] at this; cases this
  have hs : ∀ x, s' x = true ↔ x ∈ l ++ [r] := fun x => by
    rw [h3]
    by_cases e : x = r
    · subst e; simp [upd_same]
    · rw [upd_ne _ _ e]; simp [e]
  refine ⟨⟨⟨l, rfl⟩, ?_, fun x hx => ?_, fun x hx w hw => ?_⟩, hs⟩
  · rw [List.nodup_append]
    refine ⟨h2, by simp, fun x hx y hy => ?_⟩
    simp at hy; subst hy; rintro rfl; exact hrl hx
  · simp at hx
    rcases hx with hx | rfl
    · exact (h4 x hx).2
    · exact hr
  · rw [← hs]
    simp at hx
    rcases hx with hx | rfl
    · exact h5 x hx w hw
    · obtain ⟨i, hi, rfl⟩ := mem_nth (back := back) hw
      exact h6 i (Nat.zero_le _) hi
end CY
end Go.Proofs.Qxb6003137a
