/- The world along 'zzAncestorMax''s search: small laws outside the walk. -/
import Derived.Test.Qxb6617469aFwd
namespace Go.Proofs.Qxb6617469a
open Go.ChangeShapes Go.WideShapes Go.ChangeAt Go.RowKit
set_option linter.unusedVariables false

theorem cell_lt {w : World} {a : Addr} {v : Value} (h : w.cell? a = some v) : a.block < w.heap.size := by
  by_cases hlt : a.block < w.heap.size
  · exact hlt
  · have : w.heap[a.block]? = none := by simp; omega
    simp [World.cell?, this] at h

theorem run_make_bools (N : Nat) (c : Int) (hc : c = (N : Int)) (hN : N ≤ 4096) (w : World) : (Instr.makeSlice 35 (.int .i64 c) (.int .i64 c)).run Try.prog w = .ok (.slice (some ⟨w.heap.size, 0, none⟩) N N) (w.alloc (.cells (madeCells #[.bool false] N) 4)) := by
  subst hc
  exact run_make_row' (P := Try.prog) 35 4 (.bool false) 1 Try.underlying35 Try.info4 rfl .i64 .i64 N (by omega) (by omega) w

theorem run_make_stack (N : Nat) (c : Int) (hc : c = (N : Int)) (hN : N ≤ 4096) (w : World) : (Instr.makeSlice 23 (.int .i64 0) (.int .i64 c)).run Try.prog w = .ok (.slice (some ⟨w.heap.size, 0, none⟩) 0 N) (w.alloc (.cells (madeCells #[.int .i32 0] N) 21)) := by
  subst hc
  obtain ⟨i0, hi, hz0, hz1, hz2⟩ := info_parts Try.info21
  have := run_make (P := Try.prog) w 23 21 i0 (.int .i32 0) Try.underlying23 hi hz0 .i64 .i64 0 N (by omega) (by omega) (by rw [hz2]; omega) (by omega)
  have hc : (Value.int IntKind.i32 0).cells = #[.int .i32 0] := rfl
  simpa [hz1, hc] using this

theorem one_new_at (w : World) (x : Value) (t : TypeId) (b : Nat) (hb : b = w.heap.size) : ∀ j u, [x][j]? = some u → (w.alloc (.cells #[x] t)).cell? ((⟨b, 0, none⟩ : Addr).add j) = some u := by
  subst hb
  exact cell_one_new w x t

theorem one_cell_i32 (n : Int) : ∀ u ∈ [Value.int .i32 n], u.oneCell' = true := by
  intro u hu
  simp at hu
  subst hu
  rfl

/-- The cells of a stack of places. -/
def stCells (st : List Nat) : List Value := st.map fun (p : Nat) => Value.int .i32 (p : Int)
theorem stCells_len (st : List Nat) : (stCells st).length = st.length := by simp [stCells]
theorem stCells_snoc (st : List Nat) (p : Nat) : stCells (st ++ [p]) = stCells st ++ [.int .i32 (p : Int)] := by simp [stCells]

/-- The world along the search: what was there is as it was; 'want' holds F; the marks; the stack. -/
structure Wd (w : World) (F : Nat → Int) (nl N bv bs : Nat) (vis : Nat → Bool) (st : List Nat) (m : Nat) (wx : World) : Prop where
  bel : Below w.heap.size w wx
  want : wx.rowIs w.heap.size 21 nl (fun j => .int .i32 (F j))
  vrow : wx.rowIs bv 4 N (fun q => .bool (vis q))
  len : st.length = m
  own : wx.ownsRow bs 21 1 (.slice (some ⟨bs, 0, none⟩) m N) m (stCells st)
  lt1 : w.heap.size < bv
  lt2 : bv < bs
  lt3 : bs < wx.heap.size

namespace Wd
variable {w wx : World} {F : Nat → Int} {nl N bv bs m : Nat} {vis : Nat → Bool} {st : List Nat}

theorem cell (h : Wd w F nl N bv bs vis st m wx) {a : Addr} {v : Value} (hc : w.cell? a = some v) : wx.cell? a = some v := (h.bel.cell (cell_lt hc)).trans hc

theorem alloc (h : Wd w F nl N bv bs vis st m wx) (o : Obj) : Wd w F nl N bv bs vis st m (wx.alloc o) :=
  ⟨h.bel.alloc h.bel.size o, h.want.alloc o, h.vrow.alloc o, h.len, h.own.alloc o, h.lt1, h.lt2, by have := h.lt3; simp; omega⟩

/-- A place is marked. -/
theorem mark (h : Wd w F nl N bv bs vis st m wx) (q : Nat) : Wd w F nl N bv bs (fun x => if x = q then true else vis x) st m (wx.setCell ⟨bv, q, none⟩ (.bool true)) := by
  refine ⟨h.bel.setCell (by have := h.lt1; show _ ≤ bv; omega) _, h.want.setOther (by have := h.lt1; show _ ≠ bv; omega) _, (h.vrow.set q (.bool true)).congr (fun i _ => ?_), h.len, ownsRow_setCell_below h.own (by exact h.lt2) _, h.lt1, h.lt2, by simpa [World.setCell] using h.lt3⟩
  by_cases e : i = q
  · simp [e]
  · simp [e]

/-- Behind an append within the capacity. -/
theorem push (h : Wd w F nl N bv bs vis st m wx) {p : Nat} {w1 : World} (ho : w1.ownsRow bs 21 1 (.slice (some ⟨bs, 0, none⟩) (m + 1) N) (m + 1) (stCells st ++ [.int .i32 (p : Int)])) (hg : wx.grownBy w1 (some bs)) :
    Wd w F nl N bv bs vis (st ++ [p]) (m + 1) w1 := by
  have h1 := h.lt1
  have h2 := h.lt2
  have h3 := h.lt3
  exact ⟨h.bel.grown hg h.bel.size (fun k e => by cases e; omega), h.want.of_block (hg.block _ (by omega) (by simp; omega)), h.vrow.of_block (hg.block _ (by omega) (by simp; omega)), by simp [h.len], by rw [stCells_snoc]; exact ho, h1, h2, Nat.lt_of_lt_of_le h3 hg.size⟩

theorem top {j : Nat} (h : Wd w F nl N bv bs vis (st ++ [j]) (m + 1) wx) : wx.cell? ⟨bs, m, none⟩ = some (.int .i32 (j : Int)) := by
  have hl : st.length = m := by have := h.len; simpa using this
  rw [h.own.cellAt m (by omega), stCells_snoc, List.getElem?_append_right (by simp [stCells, hl])]
  simp [stCells, hl]

theorem pop {j : Nat} (h : Wd w F nl N bv bs vis (st ++ [j]) (m + 1) wx) : Wd w F nl N bv bs vis st m wx := by
  have hl : st.length = m := by have := h.len; simpa using this
  refine ⟨h.bel, h.want, h.vrow, hl, ?_, h.lt1, h.lt2, h.lt3⟩
  have := h.own
  rw [stCells_snoc] at this
  exact ownsRow_pop (by simp [stCells, hl]) this

theorem room (h : Wd w F nl N bv bs vis st m wx) : m ≤ N := by
  rcases h.own.2 with ⟨h0, _⟩ | ⟨g, cap, cur, hv, _, _, hn, _⟩
  · cases h0
  · cases hv; exact hn

end Wd

/-- The first marks, the first stack. -/
theorem wd_start {w wr : World} {F : Nat → Int} {nl N k : Nat} (hB : Below w.heap.size w wr) (hz : w.heap.size < wr.heap.size) (hR : wr.rowIs w.heap.size 21 nl (fun j => .int .i32 (F j))) (hk : k < N) (hN : N ≤ 4096) :
    Wd w F nl N wr.heap.size (wr.heap.size + 1) (fun q => decide (q = k)) [] 0 ((wr.alloc (.cells ((madeCells #[.bool false] N).setIfInBounds k (.bool true)) 4)).alloc (.cells (madeCells #[.int .i32 0] N) 21)) := by
  refine ⟨(hB.alloc (by omega) _).alloc (by simp; omega) _, (hR.alloc _).alloc _, ?_, rfl, ?_, hz, by omega, by simp⟩
  · have h0 : (wr.alloc (.cells ((madeCells #[.bool false] N).setIfInBounds k (.bool true)) 4)).rowIs wr.heap.size 4 ((madeCells #[.bool false] N).setIfInBounds k (.bool true)).size (fun q => .bool (decide (q = k))) := by
      refine World.rowIs_alloc wr _ 4 _ fun i hi => ?_
      have hi' : i < N := by simpa [size_madeCells] using hi
      rw [Array.getElem?_setIfInBounds]
      by_cases e : i = k
      · subst e; simp [size_madeCells, hk]
      · rw [if_neg (fun h => e h.symm)]
        simp [madeCells, hi', Nat.mod_one, e]
    have e0 : ((madeCells #[Value.bool false] N).setIfInBounds k (.bool true)).size = N := by simp [size_madeCells]
    rw [e0] at h0
    exact h0.alloc _
  · have := World.ownsRow_made (base := wr.heap.size + 1) (e := 21) (size := 1) (wr.alloc (.cells ((madeCells #[.bool false] N).setIfInBounds k (.bool true)) 4)) (madeCells #[.int .i32 0] N) N (by simp) (by unfold maxLen; omega) (by simp [size_madeCells])
    simpa [stCells] using this

end Go.Proofs.Qxb6617469a
