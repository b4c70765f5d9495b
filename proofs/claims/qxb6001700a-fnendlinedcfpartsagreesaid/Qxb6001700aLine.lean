/- startLine, writeLine. -/
import Derived.Test.Qxb6001700aWr46
namespace Go.Proofs.Qxb6001700a
open Go.ChangeShapes Go.WideShapes Go.ChangeAt Go.RowKit
set_option linter.unusedVariables false
set_option linter.unusedSimpArgs false
namespace EL

/-- SPACE or TAB. -/
def blank (c : UInt8) : Bool := c == 32 || c == 9
/-- How many blanks xs starts with. -/
def lead : List UInt8 → Nat
  | [] => 0
  | c :: xs => if blank c then lead xs + 1 else 0

theorem lead_le : ∀ xs : List UInt8, lead xs ≤ xs.length
  | [] => Nat.le_refl _
  | c :: xs => by
    unfold lead
    have := lead_le xs
    split <;> simp <;> omega

theorem lead_eq : ∀ (xs : List UInt8) (k : Nat), k ≤ xs.length → (∀ j (h : j < xs.length), j < k → blank xs[j] = true) → (∀ h : k < xs.length, blank xs[k] = false) → lead xs = k
  | [], k, hk, _, _ => by simp at hk; simp [lead, hk]
  | c :: xs, 0, _, _, h2 => by
    have := h2 (by simp)
    simp at this
    simp [lead, this]
  | c :: xs, k + 1, hk, h1, h2 => by
    have h0 := h1 0 (by simp) (by omega)
    simp at h0
    have := lead_eq xs k (by simpa using hk) (fun j h hj => by have := h1 (j + 1) (by simpa using h) (by omega); simpa using this) (fun h => by have := h2 (by simpa using h); simpa using this)
    simp [lead, h0, this]

theorem toNat_eq (a b : UInt8) : ((a.toNat : Int) == (b.toNat : Int)) = (a == b) := by
  rw [Bool.eq_iff_iff]
  simp only [beq_iff_eq]
  constructor
  · intro h; exact UInt8.toNat_inj.1 (by omega)
  · intro h; rw [h]

set_option maxHeartbeats 400000 in
theorem blankStart50 (xs : List UInt8) (b off c : Nat) (w : World) (hsrc : BS w b off xs) (hc : xs.length ≤ 4194304) :
    Calls Try.prog 50 #[.slice (some ⟨b, off, none⟩) xs.length c] w fun e w' => e = .returned (.int .i64 (lead xs)) ∧ w' = w := by
  have HS : Hid (BS w b off xs) := hsrc
  clear hsrc
  go_enter Try.func50, Try.ntmps50
  go_wp2
  go_loop [3] (fun i => ∃ k : Nat, k ≤ xs.length ∧ i = .int .i64 k ∧ Hid (∀ j (h : j < xs.length), j < k → blank xs[j] = true)) (fun i => xs.length - (intOf i).toNat)
  case atStart => exact ⟨0, Nat.zero_le _, rfl, fun j _ hj => absurd hj (Nat.not_lt_zero _)⟩
  case round =>
    obtain ⟨k, hk, rfl, hbl⟩ := hrel
    by_cases hlt : k < xs.length
    · have hcell := HS.out k hlt
      have q1 : ((xs[k].toNat : Int) == 32) = (xs[k] == 32) := toNat_eq _ 32
      have q2 : ((xs[k].toNat : Int) == 9) = (xs[k] == 9) := toNat_eq _ 9
      have NX : Hid (blank xs[k] = true → ∀ j (h : j < xs.length), j < k + 1 → blank xs[j] = true) := fun hb j h hj => by
        by_cases e : j = k
        · subst e; exact hb
        · exact hbl.out j h (by omega)
      have ST : Hid (blank xs[k] = false → lead xs = k) := fun hb => lead_eq xs k hk hbl.out (fun _ => hb)
      have hBL : Hid (blank xs[k] = (xs[k] == 32 || xs[k] == 9)) := rfl
      unfold bv at hcell
      generalize xs[k] = x at *
      generalize x.toNat = xn at *
      cases hb1 : (x == 32) with
      | true =>
        have q3 := q1.trans hb1
        have HB : Hid (blank x = true) := by rw [hBL.out, hb1]; rfl
        clear q1 q2 hb1
        go_wp2
        go_round
        case rel => exact ⟨k + 1, by omega, by go_num, NX.out HB.out⟩
        case measure => simp [intOf]; omega
      | false =>
        have q3 := q1.trans hb1
        cases hb2 : (x == 9) with
        | true =>
          have q4 := q2.trans hb2
          have HB : Hid (blank x = true) := by rw [hBL.out, hb1, hb2]; rfl
          clear q1 q2 hb1 hb2
          go_wp2
          go_round
          case rel => exact ⟨k + 1, by omega, by go_num, NX.out HB.out⟩
          case measure => simp [intOf]; omega
        | false =>
          have q4 := q2.trans hb2
          have HB : Hid (blank x = false) := by rw [hBL.out, hb1, hb2]; rfl
          clear q1 q2 hb1 hb2
          go_wp2
          go_ret
          exact ⟨ret_int (by rw [ST.out HB.out]), rfl⟩
    · go_wp2
      go_ret
      exact ⟨ret_int (by rw [lead_eq xs k hk hbl.out (fun h => absurd h hlt)]), rfl⟩
end EL
end Go.Proofs.Qxb6001700a
