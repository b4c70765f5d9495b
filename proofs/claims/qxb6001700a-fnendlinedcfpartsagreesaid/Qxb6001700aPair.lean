/- Two buffers apart, and a source of bytes apart from both. -/
import Derived.Test.Qxb6001700aJoinD
import Derived.Test.Qxb6001700aKeep
import Derived.Test.Qxb6001700aEndL
import Derived.Lib.ConvBytes
namespace Go.Proofs.Qxb6001700a
open Go.ChangeShapes Go.WideShapes Go.ChangeAt Go.RowKit
set_option linter.unusedVariables false
set_option linter.unusedSimpArgs false
namespace EL

/-- Two buffers (at p and at q) that share no block, above the block c of the world w0. -/
structure Pair (c p q : Nat) (w0 wr : World) (L M : List UInt8) (A B : Nat → Prop) (ls ls' : Int) (ts ts' : Bool) : Prop where
  l : Holds wr p A L true ls ts
  r : Holds wr q B M true ls' ts'
  apart : ∀ g, A g → ¬ B g
  cp : c ≤ p
  cq : c ≤ q
  bel : Below c w0 wr
  cz : c ≤ wr.heap.size

theorem Pair.swap {c p q : Nat} {w0 wr : World} {L M : List UInt8} {A B : Nat → Prop} {ls ls' : Int} {ts ts' : Bool} (h : Pair c p q w0 wr L M A B ls ls' ts ts') : Pair c q p w0 wr M L B A ls' ls ts' ts :=
  ⟨h.r, h.l, fun g hb ha => h.apart g ha hb, h.cq, h.cp, h.bel, h.cz⟩

theorem Pair.left {c p q : Nat} {w0 wr w' : World} {L L' M : List UInt8} {A A' B : Nat → Prop} {ls ls' ls2 : Int} {ts ts' ts2 : Bool} (h : Pair c p q w0 wr L M A B ls ls' ts ts') (h' : Holds w' p A' L' true ls2 ts2) (hk : Kept A A' wr w') : Pair c p q w0 w' L' M A' B ls2 ls' ts2 ts' := by
  obtain ⟨h1, h2⟩ := h.r.kept hk (fun g hb ha => h.apart g ha hb)
  exact ⟨h', h1, fun g ha hb => h2 g hb ha, h.cp, h.cq, h.bel.trans (kept_below hk (fun g hg => Nat.le_trans h.cp (h.l.lt hg).1) h.cz), Nat.le_trans h.cz hk.size⟩

theorem Pair.below {c p q : Nat} {w0 wr w' : World} {L M : List UInt8} {A B : Nat → Prop} {ls ls' : Int} {ts ts' : Bool} (h : Pair c p q w0 wr L M A B ls ls' ts ts') (hb : Below wr.heap.size wr w') : Pair c p q w0 w' L M A B ls ls' ts ts' :=
  ⟨h.l.of_heap (fun g hg => hb.block g (h.l.lt hg).2), h.r.of_heap (fun g hg => hb.block g (h.r.lt hg).2), h.apart, h.cp, h.cq, h.bel.trans (hb.mono h.cz), Nat.le_trans h.cz hb.size⟩

def PS (c p q : Nat) (w0 wr : World) (L M : List UInt8) (ls ls' : Int) (ts ts' : Bool) : Prop := ∃ A B, Pair c p q w0 wr L M A B ls ls' ts ts'
def PX (c p q b : Nat) (xs : List UInt8) (w0 wr : World) (L M : List UInt8) (ls ls' : Int) (ts ts' : Bool) : Prop := ∃ A B, Pair c p q w0 wr L M A B ls ls' ts ts' ∧ BS wr b 0 xs ∧ ¬ A b ∧ ¬ B b ∧ b < wr.heap.size
def PN (c p q b : Nat) (xs : List UInt8) (w0 : World) (L M : List UInt8) (ls ls' : Int) (ts ts' : Bool) (e : Ending) (w' : World) : Prop := e = .returned (.tuple #[]) ∧ PX c p q b xs w0 w' L M ls ls' ts ts'

theorem PX.swap {c p q b : Nat} {xs : List UInt8} {w0 wr : World} {L M : List UInt8} {ls ls' : Int} {ts ts' : Bool} (h : PX c p q b xs w0 wr L M ls ls' ts ts') : PX c q p b xs w0 wr M L ls' ls ts' ts := by
  obtain ⟨A, B, h1, h2, h3, h4, h5⟩ := h
  exact ⟨B, A, h1.swap, h2, h4, h3, h5⟩
theorem PX.drop {c p q b : Nat} {xs : List UInt8} {w0 wr : World} {L M : List UInt8} {ls ls' : Int} {ts ts' : Bool} (h : PX c p q b xs w0 wr L M ls ls' ts ts') : PS c p q w0 wr L M ls ls' ts ts' := by
  obtain ⟨A, B, h1, _⟩ := h
  exact ⟨A, B, h1⟩
theorem PN.swap {c p q b : Nat} {xs : List UInt8} {w0 : World} {L M : List UInt8} {ls ls' : Int} {ts ts' : Bool} {e : Ending} {w' : World} (h : PN c p q b xs w0 L M ls ls' ts ts' e w') : PN c q p b xs w0 M L ls' ls ts' ts e w' := ⟨h.1, h.2.swap⟩

/-- A string's bytes are laid: a source of its own. -/
theorem PS.conv {c p q : Nat} {w0 wr : World} {L M : List UInt8} {ls ls' : Int} {ts ts' : Bool} (h : PS c p q w0 wr L M ls ls' ts ts') (x : ByteArray) : PX c p q wr.heap.size (bytesOf x) w0 (Lib.bytesWorld wr 5 x) L M ls ls' ts ts' := by
  obtain ⟨A, B, h⟩ := h
  refine ⟨A, B, h.below (bytesWorld_below wr x), bytesWorld_bs wr x, fun hg => ?_, fun hg => ?_, by rw [Lib.bytesWorld_size]; omega⟩
  · have := (h.l.lt hg).2; omega
  · have := (h.r.lt hg).2; omega

theorem PX.left {c p q b : Nat} {xs : List UInt8} {w0 wr : World} {L M : List UInt8} {A B : Nat → Prop} {ls ls' : Int} {ts ts' : Bool} (h : Pair c p q w0 wr L M A B ls ls' ts ts') (hs : BS wr b 0 xs) (hA : ¬ A b) (hB : ¬ B b) (hb : b < wr.heap.size) {L' : List UInt8} {ls2 : Int} {ts2 : Bool} {e : Ending} {w' : World} (hN : Now p A wr L' true ls2 ts2 e w') : PN c p q b xs w0 L' M ls2 ls' ts2 ts' e w' := by
  obtain ⟨he, A', h1, hk⟩ := hN
  exact ⟨he, A', B, h.left h1 hk, hs.kept hk hA, hk.not hA hb, hB, Nat.lt_of_lt_of_le hb hk.size⟩

theorem start_l {c p q b : Nat} {xs : List UInt8} {w0 w : World} {L M : List UInt8} {ls ls' : Int} {ts ts' : Bool} (h : PX c p q b xs w0 w L M ls ls' ts ts') (first : Bool) (off cap : Nat) (ys : List UInt8) (hy : ∀ w, BS w b 0 xs → BS w b off ys) (hb : L.length + ys.length < 4194304) (hc : ys.length ≤ cap) (hc2 : cap ≤ 9223372036854775807) :
    Calls Try.prog 23 #[.pointer (some ⟨p, 0, none⟩), .bool first, .slice (some ⟨b, off, none⟩) ys.length cap] w (PN c p q b xs w0 (begun first L ++ part true ys) M ((begun first L).length : Nat) ls' (still true ys) ts') := by
  obtain ⟨A, B, h1, h2, h3, h4, h5⟩ := h
  exact (start23t p A L ys first b off cap ls ts w h1.l (hy _ h2) h3 h5 hb hc hc2).mono fun e w' hN => PX.left h1 h2 h3 h4 h5 hN

theorem start_r {c p q b : Nat} {xs : List UInt8} {w0 w : World} {L M : List UInt8} {ls ls' : Int} {ts ts' : Bool} (h : PX c p q b xs w0 w L M ls ls' ts ts') (first : Bool) (off cap : Nat) (ys : List UInt8) (hy : ∀ w, BS w b 0 xs → BS w b off ys) (hb : M.length + ys.length < 4194304) (hc : ys.length ≤ cap) (hc2 : cap ≤ 9223372036854775807) :
    Calls Try.prog 23 #[.pointer (some ⟨q, 0, none⟩), .bool first, .slice (some ⟨b, off, none⟩) ys.length cap] w (PN c p q b xs w0 L (begun first M ++ part true ys) ls ((begun first M).length : Nat) ts (still true ys)) :=
  (start_l h.swap first off cap ys hy hb hc hc2).mono fun e w' hN => hN.swap

theorem write_l {c p q b : Nat} {xs : List UInt8} {w0 w : World} {L M : List UInt8} {ls ls' : Int} {ts ts' : Bool} (h : PX c p q b xs w0 w L M ls ls' ts ts') (off cap : Nat) (ys : List UInt8) (hy : ∀ w, BS w b 0 xs → BS w b off ys) (hb : L.length + ys.length ≤ 4194304) (hc : ys.length ≤ cap) (hc2 : cap ≤ 9223372036854775807) :
    Calls Try.prog 29 #[.pointer (some ⟨p, 0, none⟩), .slice (some ⟨b, off, none⟩) ys.length cap] w (PN c p q b xs w0 (L ++ part ts ys) M ls ls' (still ts ys) ts') := by
  obtain ⟨A, B, h1, h2, h3, h4, h5⟩ := h
  exact (write29 p A L ys b off cap true ls ts w h1.l (hy _ h2) h3 hb hc hc2).mono fun e w' hN => PX.left h1 h2 h3 h4 h5 hN

theorem end24_l {c p q b : Nat} {xs : List UInt8} {w0 w : World} {L M : List UInt8} {st : Nat} {ls' : Int} {ts ts' : Bool} (h : PX c p q b xs w0 w L M (st : Int) ls' ts ts') (hb : L.length ≤ 4194304) (hst : st ≤ L.length) :
    Calls Try.prog 24 #[.pointer (some ⟨p, 0, none⟩)] w (PN c p q b xs w0 (endOf L st) M (st : Int) ls' ts ts') := by
  obtain ⟨A, B, h1, h2, h3, h4, h5⟩ := h
  exact (end24t p A L st ts w h1.l hb hst).mono fun e w' hN => PX.left h1 h2 h3 h4 h5 hN

theorem end24_r {c p q b : Nat} {xs : List UInt8} {w0 w : World} {L M : List UInt8} {st : Nat} {ls : Int} {ts ts' : Bool} (h : PX c p q b xs w0 w L M ls (st : Int) ts ts') (hb : M.length ≤ 4194304) (hst : st ≤ M.length) :
    Calls Try.prog 24 #[.pointer (some ⟨q, 0, none⟩)] w (PN c p q b xs w0 L (endOf M st) ls (st : Int) ts ts') :=
  (end24_l h.swap hb hst).mono fun e w' hN => hN.swap

theorem end34_l {c p q b : Nat} {xs : List UInt8} {w0 w : World} {L M : List UInt8} {st : Nat} {ls' : Int} {ts ts' : Bool} (h : PX c p q b xs w0 w L M (st : Int) ls' ts ts') (hb : L.length ≤ 4194304) (hst : st ≤ L.length) :
    Calls Try.prog 34 #[.pointer (some ⟨p, 0, none⟩)] w (PN c p q b xs w0 (endOf L st) M (st : Int) ls' ts ts') := by
  obtain ⟨A, B, h1, h2, h3, h4, h5⟩ := h
  exact (end34 p A L st true ts w h1.l hb hst).mono fun e w' hN => PX.left h1 h2 h3 h4 h5 hN

theorem end34_r {c p q b : Nat} {xs : List UInt8} {w0 w : World} {L M : List UInt8} {st : Nat} {ls : Int} {ts ts' : Bool} (h : PX c p q b xs w0 w L M ls (st : Int) ts ts') (hb : M.length ≤ 4194304) (hst : st ≤ M.length) :
    Calls Try.prog 34 #[.pointer (some ⟨q, 0, none⟩)] w (PN c p q b xs w0 L (endOf M st) ls (st : Int) ts ts') :=
  (end34_l h.swap hb hst).mono fun e w' hN => hN.swap

/-- Two new buffers. -/
theorem two_new (w1 : World) : PS w1.heap.size w1.heap.size (w1.heap.size + 1) w1 ((w1.alloc (.cells #[.slice none 0 0, .slice none 0 0, .bool true, .int .i64 0, .bool false] 53)).alloc (.cells #[.slice none 0 0, .slice none 0 0, .bool true, .int .i64 0, .bool false] 53)) [] [] 0 0 false false := by
  have h1 := new_holds true w1
  have b1 : Below w1.heap.size w1 (w1.alloc (.cells #[.slice none 0 0, .slice none 0 0, .bool true, .int .i64 0, .bool false] 53)) := (Below.refl _ _).alloc (Nat.le_refl _) _
  have hz : (w1.alloc (.cells #[.slice none 0 0, .slice none 0 0, .bool true, .int .i64 0, .bool false] 53)).heap.size = w1.heap.size + 1 := by simp
  generalize w1.alloc (.cells #[.slice none 0 0, .slice none 0 0, .bool true, .int .i64 0, .bool false] 53) = w2 at *
  have h2 := new_holds true w2
  have b2 : Below w2.heap.size w2 (w2.alloc (.cells #[.slice none 0 0, .slice none 0 0, .bool true, .int .i64 0, .bool false] 53)) := (Below.refl _ _).alloc (Nat.le_refl _) _
  generalize w2.alloc (.cells #[.slice none 0 0, .slice none 0 0, .bool true, .int .i64 0, .bool false] 53) = w3 at *
  rw [hz] at h2 b2
  exact ⟨_, _, h1.of_heap (fun g hg => b2.block g (by omega)), h2, fun g ha hb => by omega, Nat.le_refl _, by omega, b1.trans (b2.mono (by omega)), by have := b2.size; omega⟩
end EL
end Go.Proofs.Qxb6001700a
