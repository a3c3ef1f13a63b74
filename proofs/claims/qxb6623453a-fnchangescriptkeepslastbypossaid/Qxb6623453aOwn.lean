/- Rows of changes that the call itself has made, of either of the two types. -/
import Derived.Test.Qxb6623453aSteps
namespace Go.Proofs.Qxb6623453a
open Go.ChangeShapes Go.WideShapes Go.ChangeAt Go.RowKit
set_option linter.unusedVariables false
set_option linter.unusedSimpArgs false

/-- A slice value at the head of a row of the call's own, the changes L in it. -/
abbrev OwnT (t : TypeId) (w : World) (base g n cap : Nat) (L : List Ch) : Prop := w.ownsRow base t 5 (.slice (some ⟨g, 0, none⟩) n cap) n (chL L)

theorem OwnT.len {t : TypeId} {w : World} {base g n cap : Nat} {L : List Ch} (h : OwnT t w base g n cap L) : L.length = n := by
  have := h.1
  rw [chL_len] at this
  omega

theorem OwnT.row {t : TypeId} {w : World} {base g n cap : Nat} {L : List Ch} (h : OwnT t w base g n cap L) : RowAt w g 0 (n * 5) (chF fun i => L.getD i zeroCh) := fun q hq => by
  rw [Nat.zero_add, h.cellAt q hq, chL_get L q (by rw [h.len]; exact hq)]
  rfl

theorem OwnT.five {t : TypeId} {w : World} {base g n cap : Nat} {L : List Ch} (h : OwnT t w base g n cap L) {i : Nat} (hi : i < n) {c : Ch} (hc : L.getD i zeroCh = c) :
    w.cell? ⟨g, i * 5, none⟩ = some (.string c.name) ∧ w.cell? ⟨g, i * 5 + 1, none⟩ = some (.int .i64 c.nth) ∧ w.cell? ⟨g, i * 5 + 2, none⟩ = some (.int .i64 c.pos) ∧ w.cell? ⟨g, i * 5 + 3, none⟩ = some (.string c.val) ∧ w.cell? ⟨g, i * 5 + 4, none⟩ = some (.string c.who) := by
  have := ch5 h.row hi
  simp only [Nat.zero_add, hc] at this
  exact this

theorem OwnT.set {t : TypeId} {w : World} {base g n cap : Nat} {L : List Ch} (h : OwnT t w base g n cap L) {i : Nat} (hi : i < n) (c : Ch) : OwnT t (set5 w g i c) base g n cap (L.set i c) := by
  have h5 := (((((h.stored (i * 5) (.string c.name)).1.stored (i * 5 + 1) (.int .i64 c.nth)).1.stored (i * 5 + 2) (.int .i64 c.pos)).1.stored (i * 5 + 3) (.string c.val)).1.stored (i * 5 + 4) (.string c.who)).1
  rw [set5_list L i c (by rw [h.len]; exact hi)] at h5
  exact h5

theorem OwnT.lt {t : TypeId} {w : World} {base g n cap : Nat} {L : List Ch} (h : OwnT t w base g n cap L) : base ≤ g ∧ g < w.heap.size := World.ownsRow.lt h g rfl

/-- A row that another block's writes leave alone. -/
theorem OwnT.other {t : TypeId} {w w' : World} {base g n cap : Nat} {L : List Ch} (h : OwnT t w base g n cap L) {row : Option Nat} (hg : w.grownBy w' row) (hne : some g ≠ row) : OwnT t w' base g n cap L :=
  World.ownsRow.kept h hg (.inr hne)

theorem src_new (w : World) (c : Ch) (t : TypeId) (b : Nat) (hb : b = w.heap.size) : ∀ j u, (ch1 c)[j]? = some u → (w.alloc (chBlk c t)).cell? ((⟨b, 0, none⟩ : Addr).add j) = some u := by
  subst hb
  intro j u hj
  have hg : (w.alloc (chBlk c t)).heap[w.heap.size]? = some (.cells (ch1 c).toArray t (0, 0)) := heap_alloc_new w _
  rw [add_plain, Nat.zero_add, cell_of hg]
  simpa using hj

theorem run_make_zero (t e : TypeId) (z : Value) (size bytes : Nat) (ht : Try.prog.underlying t = some (.slice e)) (hinfo : (Try.prog.info? e).map (fun i => (i.zero, i.size, i.bytes)) = some (some z, size, bytes)) (hb : bytes ≤ 1024)
    (n : Nat) (C : Int) (hC : C = (n : Int)) (hn : n ≤ 16384) (w : World) : (Instr.makeSlice t (.int .i64 0) (.int .i64 C)).run Try.prog w = .ok (.slice (some ⟨w.heap.size, 0, none⟩) 0 n) (w.alloc (.cells (made z (n * size)) e)) := by
  subst hC
  obtain ⟨i0, hi, hz0, hz1, hz2⟩ := info_parts hinfo
  have hb' : i0.bytes * n ≤ 1024 * 16384 := Nat.mul_le_mul (by omega) hn
  have := run_make (P := Try.prog) w t e i0 z ht hi hz0 .i64 .i64 0 n (by omega) (by omega) (by rw [← Int.natCast_mul]; omega) (by omega)
  simpa [hz1, made] using this

theorem own_made (w : World) (t : TypeId) (n base : Nat) (z : Value) (hb : base ≤ w.heap.size) (hn : n ≤ maxLen) : OwnT t (w.alloc (.cells (made z (n * 5)) t)) base w.heap.size 0 n [] := by
  have := World.ownsRow_made (base := base) (e := t) (size := 5) w (made z (n * 5)) n hb hn (by rw [made_size])
  exact this

end Go.Proofs.Qxb6623453a
