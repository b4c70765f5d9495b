/- The plain law of a line's end. -/
import Derived.Test.Qxb6001700aEndL
namespace Go.Proofs.Qxb6001700a
set_option linter.unusedVariables false
set_option linter.unusedSimpArgs false
namespace EL

/-- A line's bytes from its first one that is no blank on, ended. -/
def fin (B : List UInt8) : List UInt8 := if B.take (trimTo B 0 B.length) = [46] then [] else B.take (trimTo B 0 B.length)
/-- A line as the model makes it. -/
def trimmed (xs : List UInt8) : List UInt8 := fin (xs.drop (lead xs))

theorem trimTo_shift (A B : List UInt8) : ∀ n, trimTo (A ++ B) A.length (A.length + n) = A.length + trimTo B 0 n
  | 0 => by rw [Nat.add_zero, trimTo_stop _ _ _ (Nat.le_refl _)]; rfl
  | n + 1 => by
    have ih := trimTo_shift A B n
    have e : (A ++ B).getD (A.length + n) 0 = B.getD n 0 := by simp [List.getD, List.getElem?_append_right]
    rw [← Nat.add_assoc]
    unfold trimTo
    rw [e, ih]
    by_cases hb : blank (B.getD n 0) = true
    · rw [if_pos ⟨by omega, hb⟩, if_pos ⟨by omega, hb⟩]
    · rw [if_neg (fun h => hb h.2), if_neg (fun h => hb h.2)]; omega

theorem one_of (u : List UInt8) : (u.length = 1 ∧ u.getD 0 0 = 46) ↔ u = [46] := by
  constructor
  · rintro ⟨h1, h2⟩
    match u, h1 with
    | [x], _ => simp at h2; rw [h2]
  · rintro rfl; exact ⟨rfl, rfl⟩

theorem endOf_app (A B : List UInt8) : endOf (A ++ B) A.length = A ++ fin B := by
  have e1 : (A ++ B).take (trimTo (A ++ B) A.length (A ++ B).length) = A ++ B.take (trimTo B 0 B.length) := by
    rw [List.length_append, trimTo_shift, List.take_length_add_append]
  unfold endOf fin
  rw [e1]
  have e2 : (A ++ B.take (trimTo B 0 B.length)).getD A.length 0 = (B.take (trimTo B 0 B.length)).getD 0 0 := by simp [List.getD, List.getElem?_append_right]
  rw [e2, List.length_append]
  generalize B.take (trimTo B 0 B.length) = u
  by_cases hu : u = [46]
  · rw [if_pos hu, if_pos (by subst hu; exact ⟨rfl, rfl⟩)]
    simp
  · rw [if_neg hu, if_neg (fun h => hu ((one_of u).1 ⟨by omega, h.2⟩))]

theorem trimTo_last (B : List UInt8) : ∀ n, trimTo B 0 n = 0 ∨ ∃ k, trimTo B 0 n = k + 1 ∧ blank (B.getD k 0) = false
  | 0 => .inl rfl
  | n + 1 => by
    unfold trimTo
    by_cases hb : blank (B.getD n 0) = true
    · rw [if_pos ⟨by omega, hb⟩]; exact trimTo_last B n
    · rw [if_neg (fun h => hb h.2)]
      exact .inr ⟨n, rfl, by simpa using hb⟩

theorem fin_fin (B : List UInt8) : fin (fin B) = fin B := by
  have hle := trimTo_le B 0 B.length
  have key : ∀ u, u = B.take (trimTo B 0 B.length) → trimTo u 0 u.length = u.length := by
    intro u hu
    have hlen : u.length = trimTo B 0 B.length := by rw [hu, List.length_take]; omega
    rcases trimTo_last B B.length with h0 | ⟨k, h0, hb⟩
    · rw [hlen, h0]; rfl
    · rw [hlen, h0]
      refine trimTo_keep u 0 k ?_
      have : u.getD k 0 = B.getD k 0 := by
        rw [hu, h0]
        simp [List.getD, List.getElem?_take]
      rw [this]; exact hb
  have hk := key _ rfl
  unfold fin
  generalize B.take (trimTo B 0 B.length) = u at *
  by_cases hu : u = [46]
  · rw [if_pos hu]; rfl
  · rw [if_neg hu, hk, List.take_length, if_neg hu]

theorem fin_len (B : List UInt8) : (fin B).length ≤ B.length := by
  unfold fin
  split
  · simp
  · simp; omega
theorem trimmed_len (xs : List UInt8) : (trimmed xs).length ≤ xs.length := by
  have := fin_len (xs.drop (lead xs))
  simp at this
  unfold trimmed
  omega

theorem lead_app_all (a b : List UInt8) (h : lead a = a.length) : lead (a ++ b) = a.length + lead b := by
  induction a with
  | nil => simp
  | cons c a ih =>
    simp only [lead, List.cons_append, List.length_cons] at h ⊢
    by_cases hc : blank c = true
    · rw [if_pos hc] at h ⊢
      rw [ih (by omega)]; omega
    · rw [if_neg hc] at h; omega
theorem lead_app_some (a b : List UInt8) (h : lead a < a.length) : lead (a ++ b) = lead a := by
  induction a with
  | nil => simp at h
  | cons c a ih =>
    simp only [lead, List.cons_append, List.length_cons] at h ⊢
    by_cases hc : blank c = true
    · rw [if_pos hc] at h ⊢
      rw [if_pos hc, ih (by omega)]
    · rw [if_neg hc, if_neg hc]

/-- A line written in two parts is the line written whole. -/
theorem parts_agree (xs : List UInt8) (k : Nat) : part true (xs.take k) ++ part (still true (xs.take k)) (xs.drop k) = part true xs := by
  have e : xs.take k ++ xs.drop k = xs := List.take_append_drop k xs
  generalize xs.take k = a at *
  generalize xs.drop k = b at *
  subst e
  have hle := lead_le a
  by_cases h : lead a = a.length
  · have h1 : a.drop (lead a) = [] := List.drop_eq_nil_of_le (by omega)
    have h2 : still true a = true := by simp [still, h1]
    rw [h2]
    simp only [part, if_true, h1, List.nil_append]
    rw [lead_app_all a b h, List.drop_append]
    simp
  · have h1 : lead a < a.length := by omega
    have h2 : still true a = false := by
      simp only [still, Bool.true_and]
      rw [Bool.eq_false_iff]
      intro hh
      have := List.isEmpty_iff.1 hh
      have := congrArg List.length this
      simp at this
      omega
    rw [h2]
    simp only [part, if_true, Bool.false_eq_true, if_false]
    rw [lead_app_some a b h1, List.drop_append_of_le_length hle]
end EL
end Go.Proofs.Qxb6001700a
