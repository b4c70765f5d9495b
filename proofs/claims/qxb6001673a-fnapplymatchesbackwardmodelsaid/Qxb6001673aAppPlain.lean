/- Plain laws for FnApplyMatchesBackwardModel: no Go in sight. -/
import Derived.KernelRfl
namespace Go.Proofs.Qxb6001673a.App

/-- The plain picture of an option. -/
structure O where
  tags : List ByteArray
  att : Int
  win : Int
  grp : ByteArray
  grd : Bool

def zero : O := { tags := [], att := 0, win := 0, grp := { data := #[] }, grd := false }

/-- Does it set a Flaky? -/
def O.set (o : O) : Bool := (o.att != 0) || (o.win != 0)

/-- One option gathered. -/
def step (a o : O) : O :=
  { tags := a.tags ++ o.tags, att := if o.set then o.att else a.att, win := if o.set then o.win else a.win, grp := if o.grd then o.grp else a.grp, grd := if o.grd then true else a.grd }

def gather (os : List O) : O := os.foldl step zero

theorem gather_take_succ (os : List O) (k : Nat) (h : k < os.length) : gather (os.take (k + 1)) = step (gather (os.take k)) os[k] := by
  rw [List.take_succ_eq_append_getElem h, gather, List.foldl_append]; rfl

theorem gather_tags (os : List O) : (gather os).tags = os.flatMap O.tags := by
  have H : ∀ (os : List O) (a : O), (os.foldl step a).tags = a.tags ++ os.flatMap O.tags := by
    intro os
    induction os with
    | nil => intro a; simp
    | cons o os ih => intro a; rw [List.foldl_cons, ih]; simp [step]
  exact H os zero

/-- The sum of the numbers of tags. -/
def tagCount : List O → Nat
  | [] => 0
  | o :: os => o.tags.length + tagCount os

theorem tagCount_snoc (os : List O) (o : O) : tagCount (os ++ [o]) = tagCount os + o.tags.length := by
  induction os with
  | nil => simp [tagCount]
  | cons x xs ih => simp only [List.cons_append, tagCount, ih]; omega

theorem tagCount_len (os : List O) : (os.flatMap O.tags).length = tagCount os := by
  induction os with
  | nil => simp [tagCount]
  | cons x xs ih => simp [tagCount, ih]

theorem tagCount_take_succ (os : List O) (k : Nat) (h : k < os.length) : tagCount (os.take (k + 1)) = tagCount (os.take k) + os[k].tags.length := by
  rw [List.take_succ_eq_append_getElem h, tagCount_snoc]

theorem tagCount_take_le (os : List O) (k : Nat) : tagCount (os.take k) ≤ tagCount os := by
  induction os generalizing k with
  | nil => simp [tagCount]
  | cons x xs ih =>
    cases k with
    | zero => simp [tagCount]
    | succ k => simp only [List.take_succ_cons, tagCount]; have := ih k; omega

/-- All tags of the first k options, in order. -/
def allTags (os : List O) (k : Nat) : List ByteArray := (os.take k).flatMap O.tags

theorem allTags_succ (os : List O) (k : Nat) (h : k < os.length) : allTags os (k + 1) = allTags os k ++ os[k].tags := by
  unfold allTags; rw [List.take_succ_eq_append_getElem h, List.flatMap_append, List.flatMap_singleton]

theorem allTags_len (os : List O) (k : Nat) : (allTags os k).length = tagCount (os.take k) := by
  unfold allTags; rw [tagCount_len]

end Go.Proofs.Qxb6001673a.App
