/- endLineValue. -/
import Derived.Test.Qxb6001700aTrim2
import Derived.Deep.RegionWith
namespace Go.Proofs.Qxb6001700a
open Go.ChangeShapes Go.WideShapes Go.ChangeAt Go.RowKit
set_option linter.unusedVariables false
set_option linter.unusedSimpArgs false
namespace EL

def AtX (P : Nat) (i : Nat) (v : Value) (w : World) : Prop := ∃ a : Addr, w.cell? a = some v ∧ ∀ n, Calls Try.prog 49 #[.pointer (some ⟨P, 0, none⟩), .int .i64 i] (w.drewN n) fun e w' => e = .returned (.pointer (some a)) ∧ w' = w.drewN n

set_option maxHeartbeats 400000 in
theorem at49x (p : Nat) (s : St) (ln : Bool) (ls : Int) (ts : Bool) (w : World) (h : Buf w p s ln ls ts) (hb : s.bytes.length ≤ 4194304) (i : Nat) (hi : i < s.bytes.length) : AtX p i (bv s.bytes[i]) w := by
  have hl := h.len
  have c0 := h.c0
  have c1 := h.c1
  have hm : bits .and .i64 (i : Int) 65535 = (i : Int) % 65536 := andMask _
  by_cases hk : i / 65536 < s.fulls.length
  · obtain ⟨g, cap, h1, _, _⟩ := h.own0.form (by omega)
    have hown := h.own0
    rw [h1] at c0 hown
    have hc := hown.cellAt (i / 65536) (by omega)
    have HX := h.get_full i _ (List.getElem?_eq_getElem hk)
    have hx := h.each _ (List.getElem_mem hk)
    rw [List.getElem?_map, List.getElem?_eq_getElem hk] at hc
    have hc2 := hx.cellAt (i % 65536) (by omega)
    rw [List.getElem?_map, ← HX, List.getElem?_eq_getElem hi] at hc2
    simp only [Option.map_some, fullV] at hc hc2
    refine ⟨⟨(s.fulls[i / 65536]).1, i % 65536, none⟩, hc2, fun n => ?_⟩
    have c0' : (w.drewN n).cell? ⟨p, 0, none⟩ = some (.slice (some ⟨g, 0, none⟩) s.fulls.length cap) := c0
    have hc' : (w.drewN n).cell? ⟨g, i / 65536, none⟩ = some (.slice (some ⟨s.fulls[i / 65536].1, 0, none⟩) 65536 65536) := hc
    clear hc2 hx HX hown h1 c0 c1 hc h
    generalize w.drewN n = w' at *
    generalize s.fulls[i / 65536].1 = g2 at *
    go_enter Try.func49, Try.ntmps49
    go_wp2
    go_ret
    exact ⟨rfl, rfl⟩
  · have hpos : 0 < s.last.length := by omega
    obtain ⟨g, cap, h1, _, _⟩ := h.own1.form hpos
    obtain ⟨a0, k0, h0⟩ := ownsRow_form h.own0
    rw [h0] at c0
    have hown := h.own1
    rw [h1] at c1 hown
    have hcl : s.last.length ≤ 65536 := Nat.le_trans (le_cap h.own1) h.cap
    have hF : i / 65536 = s.fulls.length := by omega
    have HX := h.get_last i (by omega)
    have hq : i - 65536 * s.fulls.length = i % 65536 := by omega
    rw [hq] at HX
    have hc2 := hown.cellAt (i % 65536) (by omega)
    rw [List.getElem?_map, ← HX, List.getElem?_eq_getElem hi] at hc2
    simp only [Option.map_some] at hc2
    refine ⟨⟨g, i % 65536, none⟩, hc2, fun n => ?_⟩
    have c0' : (w.drewN n).cell? ⟨p, 0, none⟩ = some (.slice a0 s.fulls.length k0) := c0
    have c1' : (w.drewN n).cell? ⟨p, 1, none⟩ = some (.slice (some ⟨g, 0, none⟩) s.last.length cap) := c1
    have hlt : i % 65536 < s.last.length := by omega
    have hF2 : ¬ ((i : Int) / 65536 < (s.fulls.length : Int)) := by omega
    clear hc2 HX hown h1 h0 h c0 c1
    generalize w.drewN n = w' at *
    go_enter Try.func49, Try.ntmps49
    go_wp2
    go_ret
    exact ⟨rfl, rfl⟩

theorem hAtX (p : Nat) (A : Nat → Prop) (L : List UInt8) (ln : Bool) (ls : Int) (ts : Bool) (w : World) (h : Holds w p A L ln ls ts) (hb : L.length ≤ 4194304) (i : Nat) (hi : i < L.length) : AtX p i (bv (L.getD i 0)) w := by
  obtain ⟨s, hB, rfl, rfl, h2⟩ := h
  have := at49x p s ln ls ts w hB hb i hi
  simpa [hi] using this

/-- The value when a line is ended. -/
def endOf (L : List UInt8) (start : Nat) : List UInt8 :=
  if (L.take (trimTo L start L.length)).length = start + 1 ∧ (L.take (trimTo L start L.length)).getD start 0 = 46 then (L.take (trimTo L start L.length)).take start else L.take (trimTo L start L.length)

theorem quiet_more' {P : Program} {f : Nat} {args : Array Value} {w : World} {n x : Nat} {v : Value} (h : Calls P f args (w.drewN (n + x)) fun e w' => e = .returned v ∧ ∃ k, w' = (w.drewN (n + x)).drewN k) :
    Calls P f args (w.drewN (n + x)) fun e w'' => e = .returned v ∧ ∃ m, w'' = w.drewN (n + m) := h.mono (by rintro e w' ⟨rfl, k, rfl⟩; exact ⟨rfl, x + k, by simp [World.drewN, Nat.add_assoc]⟩)
end EL
end Go.Proofs.Qxb6001700a
