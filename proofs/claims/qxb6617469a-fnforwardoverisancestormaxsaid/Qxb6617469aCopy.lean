/- 'copy' of a whole row into a row just made, of elements of whatever number of cells. -/
import Derived.Test.Qxb6617469aWd
import Derived.Laws.CopyOwn
namespace Go.Proofs.Qxb6617469a
open Go.ChangeShapes Go.WideShapes Go.ChangeAt Go.RowKit

theorem setRow_new (w : World) (cur cs : Array Value) (t : TypeId) : (w.alloc (.cells cur t)).setRow w.heap.size cs = w.alloc (.cells cs t) := by
  simp only [World.setRow, World.alloc]
  congr 1
  apply Array.ext
  · simp
  · intro i h1 h2
    simp only [Array.size_push] at h2
    simp [Array.getElem_modify, Array.getElem_push]
    split <;> rename_i h
    · subst h; simp
    · split
      · rfl
      · omega

theorem run_copy_new {P : Program} (w : World) (dT sT ty elem : TypeId) (size n dCap : Nat) (sp : Option Addr) (sCap : Nat) (cur : Array Value) (t : TypeId) (cs : List Value)
    (hu : P.underlying dT = some (.slice elem)) (hs : (P.info? elem).map (·.size) = some size) (hcur : cur.size = n * size) (hn : cs.length = n * size)
    (hpos : 0 < n → ∃ ad, sp = some ad ∧ ∀ j v, cs[j]? = some v → (w.alloc (.cells cur t)).cell? (ad.add j) = some v) (h1 : ∀ v ∈ cs, v.oneCell' = true) :
    (Builtin.copy_ #[dT, sT] ty #[.slice (some ⟨w.heap.size, 0, none⟩) n dCap, .slice sp n sCap]).run P (w.alloc (.cells cur t)) = .ok (goInt n) (w.alloc (.cells cs.toArray t)) := by
  have hg : (w.alloc (.cells cur t)).heap[w.heap.size]? = some (.cells cur t (0, 0)) := heap_alloc_new w _
  cases hq : P.info? elem with
  | none => simp [hq] at hs
  | some i =>
    have hi : i.size = size := by simpa [hq] using hs
    by_cases h0 : n = 0
    · subst h0
      have hcs : cs = [] := List.eq_nil_of_length_eq_zero (by omega)
      have hcu : cur = #[] := Array.eq_empty_of_size_eq_zero (by omega)
      subst hcs
      subst hcu
      have hl : ∀ (x : Addr), (loadCells x 0).run P (w.alloc (.cells #[] t)) = .ok #[] (w.alloc (.cells #[] t)) := fun x => by simpa using run_loadCells_list (P := P) (w.alloc (.cells #[] t)) x [] (by simp)
      cases sp <;> simp [Builtin.copy_, run_underlying hu, Builtin.lenOf, Builtin.firstCells, sizeOf, typeInfo, hq, storeCells, hl]
    · obtain ⟨ad, rfl, hsrc⟩ := hpos (by omega)
      have hl := run_loadCells_list (P := P) (w.alloc (.cells cur t)) ad cs hsrc
      have hst := run_storeCells_at P w.heap.size 0 t cs 0 cur (w.alloc (.cells cur t)) hg (by omega) h1
      have hrow : (cur.toList.take (0 + 0) ++ cs ++ cur.toList.drop (0 + 0 + cs.length)).toArray = cs.toArray := by
        rw [List.drop_eq_nil_of_le (by simp; omega)]
        simp
      rw [hrow, setRow_new] at hst
      simp [Builtin.copy_, run_underlying hu, Builtin.lenOf, Builtin.firstCells, sizeOf, typeInfo, hq, hi, ← hn, hl, hst]

theorem wpList_copy_new {P : Program} {ops : Array Oper} {rest : List Oper} {o : Oper} {a : Act} {Q : Exit → Act → World → Prop} (w : World) (hgd : o.guard = none) (d s : Operand) (dT sT : TypeId)
    (ho : o.op = .call { callee := .builtin .copy, args := #[d, s], argTypes := #[dT, sT] }) (elem : TypeId) (size n dCap : Nat) (sp : Option Addr) (sCap : Nat) (cur : Array Value) (t : TypeId) (cs : List Value)
    (hd : a.eval d = .slice (some ⟨w.heap.size, 0, none⟩) n dCap) (hs : a.eval s = .slice sp n sCap)
    (hu : P.underlying dT = some (.slice elem)) (hsz : (P.info? elem).map (·.size) = some size) (hcur : cur.size = n * size) (hn : cs.length = n * size)
    (hpos : 0 < n → ∃ ad, sp = some ad ∧ ∀ j v, cs[j]? = some v → (w.alloc (.cells cur t)).cell? (ad.add j) = some v) (h1 : ∀ v ∈ cs, v.oneCell' = true)
    (h : wpList P ops Q rest (a.put o.dst (goInt n)) (w.alloc (.cells cs.toArray t))) : wpList P ops Q (o :: rest) a (w.alloc (.cells cur t)) := by
  refine wpList_plain hgd fun K hK => ?_
  have hrun := run_copy_new (P := P) w dT sT o.type elem size n dCap sp sCap cur t cs hu hsz hcur hn hpos h1
  unfold Oper.wp
  simp [execOp, ho, resolve, invoke, builtin, hd, hs, hrun, Result.andThen]
  exact hK _ _ h

theorem cell_alloc {w : World} {a : Addr} {v : Value} (o : Obj) (h : w.cell? a = some v) : (w.alloc o).cell? a = some v := (World.cell?_alloc_lt w o a (cell_lt h)).trans h

/-! ### Rows of int32 and of [2]int32 as lists of cells -/
def cells1 (n : Nat) (f : Nat → Int) : List Value := (List.range n).map fun i => Value.int .i32 (f i)
def cells2 (n : Nat) (f g : Nat → Int) : List Value := (List.range (n * 2)).map fun q => Value.int .i32 (if q % 2 = 0 then f (q / 2) else g (q / 2))
theorem cells1_len (n : Nat) (f : Nat → Int) : (cells1 n f).length = n * 1 := by simp [cells1]
theorem cells2_len (n : Nat) (f g : Nat → Int) : (cells2 n f g).length = n * 2 := by simp [cells2]
theorem cells1_one (n : Nat) (f : Nat → Int) : ∀ v ∈ cells1 n f, v.oneCell' = true := by
  intro v hv; simp [cells1] at hv; obtain ⟨i, _, rfl⟩ := hv; rfl
theorem cells2_one (n : Nat) (f g : Nat → Int) : ∀ v ∈ cells2 n f g, v.oneCell' = true := by
  intro v hv; simp only [cells2, List.mem_map] at hv; obtain ⟨i, _, rfl⟩ := hv; rfl

theorem cells1_src {w : World} {b off n : Nat} {f : Nat → Int} (h : I32At w b off n f) (o : Obj) : ∀ j v, (cells1 n f)[j]? = some v → (w.alloc o).cell? ((⟨b, off, none⟩ : Addr).add j) = some v := by
  intro j v hj
  simp only [cells1, List.getElem?_map, Option.map_eq_some_iff] at hj
  obtain ⟨i, hi, rfl⟩ := hj
  obtain ⟨hlt, rfl⟩ := List.getElem?_eq_some_iff.1 hi
  simp only [List.length_range] at hlt
  simp only [List.getElem_range]
  rw [add_plain]
  exact cell_alloc _ (h j hlt)

theorem cells2_src {w : World} {b off n : Nat} {f g : Nat → Int} (h : P32At w b off n f g) (o : Obj) : ∀ j v, (cells2 n f g)[j]? = some v → (w.alloc o).cell? ((⟨b, off, none⟩ : Addr).add j) = some v := by
  intro j v hj
  simp only [cells2, List.getElem?_map, Option.map_eq_some_iff] at hj
  obtain ⟨i, hi, rfl⟩ := hj
  obtain ⟨hlt, rfl⟩ := List.getElem?_eq_some_iff.1 hi
  simp only [List.length_range] at hlt
  simp only [List.getElem_range]
  rw [add_plain]
  refine cell_alloc _ ?_
  have hq := h (j / 2) (by omega)
  by_cases e : j % 2 = 0
  · rw [if_pos e, show off + j = off + j / 2 * 2 by omega]
    exact hq.1
  · rw [if_neg e, show off + j = off + j / 2 * 2 + 1 by omega]
    exact hq.2

theorem cells1_at (w : World) (t n : Nat) (f : Nat → Int) : I32At (w.alloc (.cells (cells1 n f).toArray t)) w.heap.size 0 n f := by
  intro i hi
  have h := World.rowIs_alloc w (cells1 n f).toArray t (fun i => .int .i32 (f i)) (fun i hi => by
    have hi' : i < n := by simpa [cells1] using hi
    simp [cells1, hi'])
  have := h.cell (i := i) (by simpa [cells1] using hi)
  simpa using this

theorem cells2_at (w : World) (t n : Nat) (f g : Nat → Int) : P32At (w.alloc (.cells (cells2 n f g).toArray t)) w.heap.size 0 n f g := by
  intro i hi
  have h := World.rowIs_alloc w (cells2 n f g).toArray t (fun q => .int .i32 (if q % 2 = 0 then f (q / 2) else g (q / 2))) (fun i hi => by
    have hi' : i < n * 2 := by simpa [cells2] using hi
    simp [cells2, hi'])
  have q0 := h.cell (i := i * 2) (by simp [cells2]; omega)
  have q1 := h.cell (i := i * 2 + 1) (by simp [cells2]; omega)
  have h2 : (i * 2 + 1) % 2 = 1 := by omega
  have h3 : (i * 2 + 1) / 2 = i := by omega
  simp only [h2, h3] at q1
  exact ⟨by simpa using q0, by simpa using q1⟩

end Go.Proofs.Qxb6617469a
