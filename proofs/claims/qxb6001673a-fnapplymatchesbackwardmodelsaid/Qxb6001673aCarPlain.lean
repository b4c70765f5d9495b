/- Plain laws for FnCarrySpec: no Go in sight. -/
import Derived.KernelRfl
namespace Go.Proofs.Qxb6001673a.Car

/-- The index of the first place of s in ss, or -1. -/
def idx : List ByteArray → ByteArray → Int
  | [], _ => -1
  | x :: xs, s => if x = s then 0 else if idx xs s < 0 then -1 else idx xs s + 1

theorem idx_bd (ss : List ByteArray) (s : ByteArray) : -1 ≤ idx ss s ∧ idx ss s < ss.length := by
  induction ss with
  | nil => simp [idx]
  | cons x xs ih =>
    simp only [idx, List.length_cons]
    split
    · omega
    · split <;> omega

theorem idx_neg_iff (ss : List ByteArray) (s : ByteArray) : idx ss s < 0 ↔ s ∉ ss := by
  induction ss with
  | nil => simp [idx]
  | cons x xs ih =>
    simp only [idx, List.mem_cons, not_or]
    have := (idx_bd xs s).1
    by_cases h : x = s
    · simp [h]
    · rw [if_neg h]
      by_cases h2 : idx xs s < 0
      · rw [if_pos h2]
        exact ⟨fun _ => ⟨fun e => h e.symm, ih.1 h2⟩, fun _ => by omega⟩
      · rw [if_neg h2]
        exact ⟨fun e => by omega, fun e => absurd (ih.2 e.2) h2⟩

theorem idx_hit (s : ByteArray) : ∀ (ss : List ByteArray) (k : Nat), k < ss.length → ss.getD k ByteArray.empty = s → (∀ j, j < k → ss.getD j ByteArray.empty ≠ s) → idx ss s = k
  | [], k, hk, _, _ => absurd hk (Nat.not_lt_zero _)
  | x :: xs, 0, _, h, _ => by
    have : x = s := by simpa using h
    simp [idx, this]
  | x :: xs, k + 1, hk, h, hne => by
    have hx : x ≠ s := by simpa using hne 0 (Nat.succ_pos _)
    have := idx_hit s xs k (by simpa using hk) (by simpa using h) (fun j hj => by simpa using hne (j + 1) (by omega))
    rw [idx, if_neg hx, this, if_neg (by omega)]
    omega

theorem idx_miss (ss : List ByteArray) (s : ByteArray) (h : ∀ j, j < ss.length → ss.getD j ByteArray.empty ≠ s) : idx ss s = -1 := by
  have h1 := (idx_bd ss s).1
  have h2 : idx ss s < 0 := (idx_neg_iff ss s).2 (fun hm => by
    obtain ⟨i, hi, he⟩ := List.getElem_of_mem hm
    exact h i hi (by simp [List.getD, hi, he]))
  omega

theorem idx_append_mem (a b : List ByteArray) (s : ByteArray) (h : s ∈ a) : idx (a ++ b) s = idx a s := by
  induction a with
  | nil => simp at h
  | cons x xs ih =>
    simp only [List.cons_append, idx]
    by_cases hx : x = s
    · simp [hx]
    · rw [if_neg hx, if_neg hx]
      have : s ∈ xs := by
        rcases List.mem_cons.1 h with e | e
        · exact absurd e.symm hx
        · exact e
      rw [ih this]

theorem idx_append_new (a : List ByteArray) (s : ByteArray) (h : s ∉ a) : idx (a ++ [s]) s = a.length := by
  induction a with
  | nil => simp [idx]
  | cons x xs ih =>
    simp only [List.mem_cons, not_or] at h
    simp only [List.cons_append, idx, List.length_cons]
    rw [if_neg (fun e => h.1 e.symm), ih h.2, if_neg (by omega)]
    omega

/-- One tag carried. -/
def step (tags : List ByteArray) (t : ByteArray) : List ByteArray := if idx tags t < 0 then tags ++ [t] else tags

theorem step_mem {tags : List ByteArray} {t : ByteArray} (h : t ∈ tags) : step tags t = tags := by
  rw [step, if_neg (fun e => (idx_neg_iff tags t).1 e h)]

theorem step_new {tags : List ByteArray} {t : ByteArray} (h : t ∉ tags) : step tags t = tags ++ [t] := by
  rw [step, if_pos ((idx_neg_iff tags t).2 h)]

def carry (A own : List ByteArray) : List ByteArray := own.foldl step A

theorem carry_snoc (A own : List ByteArray) (x : ByteArray) : carry A (own ++ [x]) = step (carry A own) x := by
  simp [carry, List.foldl_append]

theorem carry_take_succ (A own : List ByteArray) (k : Nat) (h : k < own.length) : carry A (own.take (k + 1)) = step (carry A (own.take k)) own[k] := by
  rw [List.take_succ_eq_append_getElem h, carry_snoc]

theorem step_len (tags : List ByteArray) (t : ByteArray) : tags.length ≤ (step tags t).length ∧ (step tags t).length ≤ tags.length + 1 := by
  unfold step; split <;> simp

theorem carry_len (A : List ByteArray) : ∀ own : List ByteArray, A.length ≤ (carry A own).length ∧ (carry A own).length ≤ A.length + own.length := by
  intro own
  induction own generalizing A with
  | nil => simp [carry]
  | cons x xs ih =>
    have h1 := ih (step A x)
    have h2 := step_len A x
    have e : carry A (x :: xs) = carry (step A x) xs := rfl
    rw [e]
    simp only [List.length_cons]
    omega

/-- What the tail of a carried list is. -/
structure Tail (A own T : List ByteArray) : Prop where
  eq : carry A own = A ++ T
  notA : ∀ i (h : i < T.length), T[i] ∉ A
  first : ∀ i (h : i < T.length), T[i] ∉ T.take i
  inOwn : ∀ i (h : i < T.length), T[i] ∈ own
  order : ∀ i (h : i + 1 < T.length), idx own T[i] < idx own T[i + 1]
  all : ∀ x ∈ own, x ∈ A ++ T

theorem tail_nil (A : List ByteArray) : Tail A [] [] :=
  ⟨by simp [carry], by simp, by simp, by simp, by simp, by simp⟩

theorem tail_snoc {A own T : List ByteArray} (x : ByteArray) (h : Tail A own T) : ∃ T', Tail A (own ++ [x]) T' := by
  by_cases hx : x ∈ A ++ T
  · refine ⟨T, ⟨?_, h.notA, h.first, fun i hi => List.mem_append_left _ (h.inOwn i hi), fun i hi => ?_, fun y hy => ?_⟩⟩
    · rw [carry_snoc, h.eq, step_mem hx]
    · rw [idx_append_mem _ _ _ (h.inOwn i (by omega)), idx_append_mem _ _ _ (h.inOwn (i + 1) hi)]
      exact h.order i hi
    · rcases List.mem_append.1 hy with e | e
      · exact h.all y e
      · simp only [List.mem_singleton] at e; subst e; exact hx
  · have hxo : x ∉ own := fun e => hx (h.all x e)
    simp only [List.mem_append, not_or] at hx
    refine ⟨T ++ [x], ⟨?_, ?_, ?_, ?_, ?_, ?_⟩⟩
    · rw [carry_snoc, h.eq, step_new (by simp [hx]), List.append_assoc]
    · intro i hi
      by_cases hl : i < T.length
      · rw [List.getElem_append_left hl]; exact h.notA i hl
      · rw [List.getElem_append_right (by omega)]; simpa using hx.1
    · intro i hi
      by_cases hl : i < T.length
      · rw [List.getElem_append_left hl, List.take_append_of_le_length (by omega)]; exact h.first i hl
      · have hi' : i = T.length := by simp at hi; omega
        subst hi'
        rw [List.getElem_append_right (by omega)]
        simpa using hx.2
    · intro i hi
      by_cases hl : i < T.length
      · rw [List.getElem_append_left hl]; exact List.mem_append_left _ (h.inOwn i hl)
      · rw [List.getElem_append_right (by omega)]; simp
    · intro i hi
      have hl : i < T.length := by simp at hi; omega
      rw [List.getElem_append_left hl, idx_append_mem _ _ _ (h.inOwn i hl)]
      by_cases hl2 : i + 1 < T.length
      · rw [List.getElem_append_left hl2, idx_append_mem _ _ _ (h.inOwn _ hl2)]
        exact h.order i hl2
      · rw [List.getElem_append_right (by omega)]
        have := (idx_bd own T[i]).2
        simp only [List.getElem_singleton]
        rw [idx_append_new own x hxo]
        exact this
    · intro y hy
      rcases List.mem_append.1 hy with e | e
      · have := h.all y e
        rcases List.mem_append.1 this with e2 | e2 <;> simp [e2]
      · simp only [List.mem_singleton] at e; subst e; simp

theorem tail_exists (A own : List ByteArray) : ∃ T, Tail A own T := by
  have H : ∀ n (own : List ByteArray), own.length = n → ∃ T, Tail A own T := by
    intro n
    induction n with
    | zero => intro own h; obtain rfl := List.eq_nil_of_length_eq_zero h; exact ⟨[], tail_nil A⟩
    | succ n ih =>
      intro own h
      have hne : own ≠ [] := by intro e; simp [e] at h
      obtain ⟨T, hT⟩ := ih own.dropLast (by simp [h])
      have := tail_snoc (own.getLast hne) hT
      rwa [List.dropLast_concat_getLast hne] at this
  exact H _ own rfl

/-- Sum of 16 and the length of each string. -/
def tot : List ByteArray → Int
  | [] => 0
  | s :: ss => 16 + s.size + tot ss

theorem tot_snoc (ss : List ByteArray) (s : ByteArray) : tot (ss ++ [s]) = tot ss + (16 + s.size) := by
  induction ss with
  | nil => simp [tot]
  | cons x xs ih => simp only [List.cons_append, tot, ih]; omega

theorem tot_bd (M : Nat) : ∀ (ss : List ByteArray), (∀ s ∈ ss, s.size ≤ M) → 0 ≤ tot ss ∧ tot ss ≤ ss.length * (16 + M) := by
  intro ss
  induction ss with
  | nil => intro _; simp [tot]
  | cons x xs ih =>
    intro h
    have h1 := ih (fun s hs => h s (List.mem_cons_of_mem _ hs))
    have h2 := h x (List.mem_cons_self)
    simp only [tot, List.length_cons]
    have e : ((xs.length + 1 : Nat) : Int) * (16 + (M : Int)) = xs.length * (16 + M) + (16 + M) := by
      rw [Int.natCast_add, Int.add_mul]; simp
    rw [e]
    omega

theorem take_snoc (ss : List ByteArray) (k : Nat) (h : k < ss.length) : ss.take (k + 1) = ss.take k ++ [ss[k]] := List.take_succ_eq_append_getElem h

end Go.Proofs.Qxb6001673a.Car
