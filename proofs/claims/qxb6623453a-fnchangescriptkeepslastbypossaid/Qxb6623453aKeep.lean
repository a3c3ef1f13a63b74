/- What stays along the law's walk. -/
import Derived.Test.Qxb6623453aLast
namespace Go.Proofs.Qxb6623453a
open Go.ChangeShapes Go.WideShapes Go.ChangeAt Go.RowKit
set_option linter.unusedVariables false

/-- A slice of the call's own whose block holds no scan.Change. -/
structure InT (w : World) (a : Option Addr) (n size : Nat) (F : Nat → Value) : Prop where
  cells : In w a n size F
  ty : 0 < n → ∃ b cur t, a = some ⟨b, 0, none⟩ ∧ w.heap[b]? = some (.cells cur t (0, 0)) ∧ t ≠ 41

theorem Cl.inT {w w' : World} {a a' : Option Addr} {n size : Nat} {F : Nat → Value} (h : Cl w w' a a' n size F) : InT w' a' n size F := ⟨h.cells, h.ty⟩

theorem block_lt {w : World} {b : Nat} {o : Obj} (h : w.heap[b]? = some o) : b < w.heap.size := (Array.getElem?_eq_some_iff.1 h).1

theorem InT.below {w w' : World} {a : Option Addr} {n size : Nat} {F : Nat → Value} (h : InT w a n size F) (hb : Below w.heap.size w w') : InT w' a n size F :=
  ⟨h.cells.below hb, fun q => by
    obtain ⟨b, cur, t, e, hh, ht⟩ := h.ty q
    exact ⟨b, cur, t, e, (hb.block b (block_lt hh)).trans hh, ht⟩⟩

/-- Blocks of w that hold no scan.Change are as they were. -/
structure Kp (w w' : World) : Prop where
  size : w.heap.size ≤ w'.heap.size
  block : ∀ b, b < w.heap.size → (∀ cur, w.heap[b]? ≠ some (.cells cur 41 (0, 0))) → w'.heap[b]? = w.heap[b]?

theorem InT.kp {w w' : World} {a : Option Addr} {n size : Nat} {F : Nat → Value} (h : InT w a n size F) (hk : Kp w w') : InT w' a n size F := by
  refine ⟨⟨h.cells.1, fun q => ?_⟩, fun q => ?_⟩
  · obtain ⟨b, cur, t, e, hh, ht⟩ := h.ty q
    obtain ⟨b', o, e', hr⟩ := h.cells.2 q
    rw [e] at e'
    cases e'
    have hbk := hk.block b (block_lt hh) (fun cur' hc => by rw [hh] at hc; cases hc; exact ht rfl)
    exact ⟨b, 0, e, fun i hi => (World.cell?_of_block (w := w) (w' := w') (a := ⟨b, 0 + i, none⟩) hbk).trans (hr i hi)⟩
  · obtain ⟨b, cur, t, e, hh, ht⟩ := h.ty q
    exact ⟨b, cur, t, e, (hk.block b (block_lt hh) (fun cur' hc => by rw [hh] at hc; cases hc; exact ht rfl)).trans hh, ht⟩

theorem Kp.alloc (w : World) (o : Obj) : Kp w (w.alloc o) := ⟨by simp, fun b hb _ => Below.heap_alloc w o b hb⟩

theorem Kp.below {w w1 w2 : World} (h : Kp w w1) (hb : Below w1.heap.size w1 w2) : Kp w w2 :=
  ⟨Nat.le_trans h.size hb.size, fun b hb' hn => (hb.block b (Nat.lt_of_lt_of_le hb' h.size)).trans (h.block b hb' hn)⟩

theorem Kp.turned {w w1 w2 : World} {base n : Nat} {v : Value} {xs : List Value} (h : Kp w w1) (ho : w1.ownsRow base 41 5 v n xs) (ht : Turned w1 w2 w.heap.size v.ownBlock) : Kp w w2 := by
  refine ⟨Nat.le_trans h.size ht.size, fun b hb hn => ?_⟩
  have e := h.block b hb hn
  rw [ht.block b (Nat.lt_of_lt_of_le hb h.size) (by omega) ?_, e]
  intro hrow
  rcases ho.2 with ⟨h0, _⟩ | ⟨g, cap', cur, h0, _, hg, _⟩
  · subst h0; cases hrow
  · subst h0
    have : b = g := by injection hrow
    subst this
    rw [e] at hg
    exact hn cur hg

theorem below_turned {w0 w1 w2 : World} {base E n : Nat} {v : Value} {xs : List Value} (h : Below w0.heap.size w0 w1) (hE : w0.heap.size ≤ E) (hb : w0.heap.size ≤ base) (ho : w1.ownsRow base 41 5 v n xs) (ht : Turned w1 w2 E v.ownBlock) : Below w0.heap.size w0 w2 :=
  h.trans ⟨ht.os, ht.tape, ht.output, ht.size, fun k hk => ht.block k (Nat.lt_of_lt_of_le hk h.size) (by omega) (fun e => by have := (ho.lt k e.symm).1; omega)⟩

end Go.Proofs.Qxb6623453a
