/- Records as cells; the callees that read alone. -/
import Derived.Test.Qxb6623453aRows
import Derived.WalkKit
import Derived.ProofKit
import Derived.Outline
import Derived.WalkSpells
import Derived.WalkLawsBesides
import Derived.Deep.OwnRows
import Derived.Deep.QuietTactic
import Derived.Deep.Light
import Derived.Deep.LoopGhost
import Derived.Deep.DeepCutAuto
import Derived.BigQuiet
import Derived.BigRegion
import Derived.WalkSmall
namespace Go.Proofs.Qxb6623453a
open Go.ChangeShapes Go.WideShapes Go.ChangeAt Go.RowKit

/-- One change. -/
structure Ch where
  name : ByteArray
  nth : Int
  pos : Int
  val : ByteArray
  who : ByteArray

def Ch.cell (c : Ch) : Nat → Value
  | 0 => .string c.name
  | 1 => .int .i64 c.nth
  | 2 => .int .i64 c.pos
  | 3 => .string c.val
  | _ => .string c.who
abbrev Ch.agg (c : Ch) : Value := .agg #[.string c.name, .int .i64 c.nth, .int .i64 c.pos, .string c.val, .string c.who]

/-- The cells of a row of changes, by their number. -/
def chF (f : Nat → Ch) (q : Nat) : Value := (f (q / 5)).cell (q % 5)

/-- m cells from ⟨b, off⟩ on hold F. -/
def RowAt (w : World) (b off m : Nat) (F : Nat → Value) : Prop := ∀ q, q < m → w.cell? ⟨b, off + q, none⟩ = some (F q)

theorem ch5 {w : World} {b off n k : Nat} {f : Nat → Ch} (h : RowAt w b off (n * 5) (chF f)) (hk : k < n) :
    w.cell? ⟨b, off + k * 5, none⟩ = some (.string (f k).name) ∧ w.cell? ⟨b, off + k * 5 + 1, none⟩ = some (.int .i64 (f k).nth) ∧ w.cell? ⟨b, off + k * 5 + 2, none⟩ = some (.int .i64 (f k).pos) ∧
    w.cell? ⟨b, off + k * 5 + 3, none⟩ = some (.string (f k).val) ∧ w.cell? ⟨b, off + k * 5 + 4, none⟩ = some (.string (f k).who) := by
  have e : ∀ j, j < 5 → w.cell? ⟨b, off + k * 5 + j, none⟩ = some ((f k).cell j) := fun j hj => by
    have := h (k * 5 + j) (by omega)
    rw [chF, show (k * 5 + j) / 5 = k by omega, show (k * 5 + j) % 5 = j by omega] at this
    rw [Nat.add_assoc]
    exact this
  exact ⟨e 0 (by omega), e 1 (by omega), e 2 (by omega), e 3 (by omega), e 4 (by omega)⟩

/-- The worlds part in draws alone. -/
def Same (w w' : World) : Prop := w'.heap = w.heap ∧ w'.os = w.os ∧ w'.tape = w.tape ∧ w'.output = w.output
theorem Same.refl (w : World) : Same w w := ⟨rfl, rfl, rfl, rfl⟩
theorem Same.cell {w w' : World} (h : Same w w') (a : Addr) : w'.cell? a = w.cell? a := by simp [World.cell?, h.1]
theorem Same.below {w w' : World} (h : Same w w') (B : Nat) : Below B w w' := ⟨h.2.1, h.2.2.1, h.2.2.2, by rw [h.1]; exact Nat.le_refl _, fun _ _ => by rw [h.1]⟩
theorem Same.drewN {w w' : World} (h : Same w w') (n : Nat) : Same w (w'.drewN n) := h
theorem RowAt.same {w w' : World} {b off m : Nat} {F : Nat → Value} (h : RowAt w b off m F) (hs : Same w w') : RowAt w' b off m F := fun q hq => by rw [hs.cell]; exact h q hq

/-- A slice that came in: nil and empty, or with its cells. -/
def In (w : World) (a : Option Addr) (l size : Nat) (F : Nat → Value) : Prop := (a = none → l = 0) ∧ (0 < l → ∃ b o, a = some ⟨b, o, none⟩ ∧ RowAt w b o (l * size) F)
theorem In.same {w w' : World} {a : Option Addr} {l size : Nat} {F : Nat → Value} (h : In w a l size F) (hs : Same w w') : In w' a l size F :=
  ⟨h.1, fun q => by obtain ⟨b, o, e, r⟩ := h.2 q; exact ⟨b, o, e, r.same hs⟩⟩

/-- Strictly by position. -/
def Strict (f : Nat → Ch) (n : Nat) : Prop := ∀ i, 1 ≤ i → i < n → (f (i - 1)).pos < (f i).pos

set_option maxHeartbeats 1000000 in
theorem strictly (a : Option Addr) (n c : Nat) (f : Nat → Ch) (hn : n ≤ 4096) (w : World) (h : Hid (In w a n 5 (chF f))) :
    Calls Try.prog 6 #[.slice a n c] w fun x w' => ∃ r, x = .returned (.bool r) ∧ (r = true → Strict f n) ∧ Same w w' := by
  go_enter Try.func6, Try.ntmps6
  go_wp2
  go_loopw [3] (fun i wr => ∃ k : Nat, 1 ≤ k ∧ i = .int .i64 k ∧ Hid (Same w wr) ∧ Hid (Strict f k) ∧ k ≤ n + 1) (fun i _ => n + 1 - (intOf i).toNat)
  case atStart => exact ⟨1, by omega, rfl, Same.refl w, (fun i h1 h2 => by omega), by omega⟩
  case round =>
    obtain ⟨k, hk1, rfl, hs, hst, hk2⟩ := hrel
    by_cases hlt : k < n
    · obtain ⟨b, o, rfl, hr⟩ := h.out.2 (by omega)
      obtain ⟨_, _, p0, _, _⟩ := ch5 (hr.same hs.out) (show k - 1 < n by omega)
      obtain ⟨_, _, p1, _, _⟩ := ch5 (hr.same hs.out) hlt
      clear hr
      have b0 : (k : Int) < (n : Int) := by omega
      have b1 : (k : Int) - 1 < (n : Int) := by omega
      have b2 : 0 ≤ (k : Int) - 1 := by omega
      by_cases hp : (f k).pos ≤ (f (k - 1)).pos
      · go_wp2
        go_quiet (fail)
        go_wp2
        go_ret
        exact ⟨false, rfl, (fun h => by cases h), hs.out.drewN _⟩
      · go_wp2
        go_quiet (fail)
        go_wp2
        go_roundw
        case rel => exact ⟨k + 1, by omega, by go_num, hs.out.drewN _, (fun i h1 h2 => by
          by_cases e : i = k
          · subst e; omega
          · exact hst.out i h1 (by omega)), by omega⟩
        case measure => simp [intOf]; omega
    · go_wp2
      go_ret
      exact ⟨true, rfl, fun _ => (fun i h1 h2 => hst.out i h1 (by omega)), hs.out⟩

theorem Try.info43 : (Try.prog.info? 43).map (fun i => (i.zero, i.size, i.bytes)) = some (some (.agg #[.string ⟨#[]⟩, .int .i64 0, .int .i64 0, .string ⟨#[]⟩, .string ⟨#[]⟩]), 5, 64) := by kernel_rfl

/-- What 'make' lays, of elements of several cells. -/
def made (z : Value) (m : Nat) : Array Value := madeCells z.cells m
theorem made_size (z : Value) (m : Nat) : (made z m).size = m := size_madeCells _ _

theorem run_make_recs (t e : TypeId) (z : Value) (size bytes : Nat) (ht : Try.prog.underlying t = some (.slice e)) (hinfo : (Try.prog.info? e).map (fun i => (i.zero, i.size, i.bytes)) = some (some z, size, bytes)) (hb : bytes ≤ 1024)
    (n : Nat) (hn : n ≤ 16384) (w : World) : (Instr.makeSlice t (.int .i64 n) (.int .i64 n)).run Try.prog w = .ok (.slice (some ⟨w.heap.size, 0, none⟩) n n) (w.alloc (.cells (made z (n * size)) e)) := by
  obtain ⟨i0, hi, hz0, hz1, hz2⟩ := info_parts hinfo
  have hb' : i0.bytes * n ≤ 1024 * 16384 := Nat.mul_le_mul (by omega) hn
  have := run_make (P := Try.prog) w t e i0 z ht hi hz0 .i64 .i64 n n (by omega) (by omega) (by rw [← Int.natCast_mul]; omega) (by omega)
  simpa [hz1, made] using this

/-- A cell that is there lies in a block that is there. -/
theorem cell_lt {w : World} {a : Addr} {v : Value} (h : w.cell? a = some v) : a.block < w.heap.size := by
  by_cases hlt : a.block < w.heap.size
  · exact hlt
  · have : w.heap[a.block]? = none := by simp; omega
    simp [World.cell?, this] at h

theorem RowAt.below {w w' : World} {b off m : Nat} {F : Nat → Value} (h : RowAt w b off m F) (hb : Below w.heap.size w w') : RowAt w' b off m F :=
  fun q hq => (hb.cell (cell_lt (h q hq))).trans (h q hq)
theorem In.below {w w' : World} {a : Option Addr} {l size : Nat} {F : Nat → Value} (h : In w a l size F) (hb : Below w.heap.size w w') : In w' a l size F :=
  ⟨h.1, fun q => by obtain ⟨b, o, e, r⟩ := h.2 q; exact ⟨b, o, e, r.below hb⟩⟩
theorem RowAt.of_row {w : World} {b m t : Nat} {F : Nat → Value} (h : w.rowIs b t m F) : RowAt w b 0 m F := fun q hq => by rw [Nat.zero_add]; exact h.cell hq

def zeroCh : Ch := ⟨⟨#[]⟩, 0, 0, ⟨#[]⟩, ⟨#[]⟩⟩

theorem made_get (z : Value) (zs : Array Value) (hz : z.cells = zs) (hpos : 0 < zs.size) (m i : Nat) (hi : i < m) : (made z m)[i]? = some (zs[i % zs.size]'(Nat.mod_lt _ hpos)) := by
  subst hz
  simp [made, madeCells, hi, Nat.mod_lt _ hpos]

/-- A row of changes just made. -/
theorem made_ch (w : World) (t n : Nat) : (w.alloc (.cells (made (.agg #[.string ⟨#[]⟩, .int .i64 0, .int .i64 0, .string ⟨#[]⟩, .string ⟨#[]⟩]) (n * 5)) t)).rowIs w.heap.size t (n * 5) (chF fun _ => zeroCh) := by
  have h := World.rowIs_alloc w (made (.agg #[.string ⟨#[]⟩, .int .i64 0, .int .i64 0, .string ⟨#[]⟩, .string ⟨#[]⟩]) (n * 5)) t (chF fun _ => zeroCh) (fun i hi => by
    have hi' : i < n * 5 := by simpa [made_size] using hi
    rw [made_get _ #[.string ⟨#[]⟩, .int .i64 0, .int .i64 0, .string ⟨#[]⟩, .string ⟨#[]⟩] rfl (by simp) _ i hi']
    congr 1
    show _ = zeroCh.cell (i % 5)
    have h5 : i % 5 = 0 ∨ i % 5 = 1 ∨ i % 5 = 2 ∨ i % 5 = 3 ∨ i % 5 = 4 := by omega
    have e5 : #[Value.string ⟨#[]⟩, .int .i64 0, .int .i64 0, .string ⟨#[]⟩, .string ⟨#[]⟩].size = 5 := rfl
    simp only [e5]
    rcases h5 with e | e | e | e | e <;> simp [e, Ch.cell, zeroCh])
  rw [made_size] at h
  exact h

def upd {α : Type} (f : Nat → α) (k : Nat) (c : α) (i : Nat) : α := if i = k then c else f i

/-- A store of one change, cell by cell. -/
abbrev set5 (w : World) (b k : Nat) (c : Ch) : World :=
  ((((w.setCell ⟨b, k * 5, none⟩ (.string c.name)).setCell ⟨b, k * 5 + 1, none⟩ (.int .i64 c.nth)).setCell ⟨b, k * 5 + 2, none⟩ (.int .i64 c.pos)).setCell ⟨b, k * 5 + 3, none⟩ (.string c.val)).setCell ⟨b, k * 5 + 4, none⟩ (.string c.who)

theorem rowIs_set5 {w : World} {b t m : Nat} {f : Nat → Ch} (h : w.rowIs b t m (chF f)) (k : Nat) (c : Ch) : (set5 w b k c).rowIs b t m (chF (upd f k c)) := by
  have h5 := ((((h.set (k * 5) (.string c.name)).set (k * 5 + 1) (.int .i64 c.nth)).set (k * 5 + 2) (.int .i64 c.pos)).set (k * 5 + 3) (.string c.val)).set (k * 5 + 4) (.string c.who)
  refine h5.congr fun q _ => ?_
  unfold chF upd
  by_cases e : q / 5 = k
  · have h5 : q % 5 = 0 ∨ q % 5 = 1 ∨ q % 5 = 2 ∨ q % 5 = 3 ∨ q % 5 = 4 := by omega
    rw [if_pos e]
    rcases h5 with e1 | e1 | e1 | e1 | e1
    · obtain rfl : q = k * 5 := by omega
      simp [e1, Ch.cell]
    · obtain rfl : q = k * 5 + 1 := by omega
      simp [e1, Ch.cell]
    · obtain rfl : q = k * 5 + 2 := by omega
      simp [e1, Ch.cell]
    · obtain rfl : q = k * 5 + 3 := by omega
      simp [e1, Ch.cell]
    · obtain rfl : q = k * 5 + 4 := by omega
      simp [e1, Ch.cell]
  · rw [if_neg e]
    rw [if_neg (by omega), if_neg (by omega), if_neg (by omega), if_neg (by omega), if_neg (by omega)]

theorem set5_size (w : World) (b k : Nat) (c : Ch) : (set5 w b k c).heap.size = w.heap.size := by simp [World.setCell]
theorem set5_below {B : Nat} {w0 w : World} (h : Below B w0 w) {b : Nat} (hb : B ≤ b) (k : Nat) (c : Ch) : Below B w0 (set5 w b k c) :=
  ((((h.setCell hb _).setCell hb _).setCell hb _).setCell hb _).setCell hb _

/-- A clone, or what another type's slice was made of it: as nil as it was; the same records; nothing that was there has turned. -/
structure Cl (w w' : World) (a a' : Option Addr) (n size : Nat) (F : Nat → Value) : Prop where
  nil : a'.isNone = a.isNone
  cells : In w' a' n size F
  bel : Below w.heap.size w w'
  ty : 0 < n → ∃ b cur t, a' = some ⟨b, 0, none⟩ ∧ w'.heap[b]? = some (.cells cur t (0, 0)) ∧ t ≠ 41

set_option maxHeartbeats 1000000 in
theorem cloneCh (a : Option Addr) (n c : Nat) (f : Nat → Ch) (hn : n ≤ 4096) (w : World) (h : Hid (In w a n 5 (chF f))) :
    Calls Try.prog 8 #[.slice a n c] w fun x w' => ∃ a' c', x = .returned (.slice a' n c') ∧ Cl w w' a a' n 5 (chF f) := by
  have hmk := run_make_recs 23 43 _ 5 64 Try.underlying23 Try.info43 (by omega) n (by omega)
  have heq := fun w a l c => Lib.run_eql_slice_nil (P := Try.prog) w 23 43 a l c 0 0 Try.underlying23
  cases a with
  | none =>
    have h0 : n = 0 := h.out.1 rfl
    subst h0
    go_enter Try.func8, Try.ntmps8
    go_wp2
    go_ret
    exact ⟨none, 0, rfl, rfl, ⟨fun _ => rfl, fun q => by omega⟩, Below.refl _ _, fun q => by omega⟩
  | some x =>
    go_enter Try.func8, Try.ntmps8
    go_wp2
    go_loopw [4] (fun i wr => ∃ (k : Nat) (g : Nat → Ch), k ≤ n ∧ i = .int .i64 k ∧ Hid (wr.rowIs w.heap.size 43 (n * 5) (chF g) ∧ (∀ j, j < k → g j = f j) ∧ Below w.heap.size w wr)) (fun i _ => n - (intOf i).toNat)
    case atStart => exact ⟨0, _, Nat.zero_le _, rfl, made_ch w 43 n, (fun j hj => by omega), (Below.refl _ _).alloc (Nat.le_refl _) _⟩
    case round =>
      obtain ⟨k, g, hk, rfl, hR⟩ := hrel
      by_cases hlt : k < n
      · obtain ⟨b, o, e1, hr⟩ := h.out.2 (by omega)
        cases e1
        obtain ⟨q0, q1, q2, q3, q4⟩ := ch5 (hr.below hR.out.2.2) hlt
        have hF := hR.out.1
        have d0 := hF.cell (i := k * 5) (by omega)
        have d1 := hF.cell (i := k * 5 + 1) (by omega)
        have d2 := hF.cell (i := k * 5 + 2) (by omega)
        have d3 := hF.cell (i := k * 5 + 3) (by omega)
        have d4 := hF.cell (i := k * 5 + 4) (by omega)
        have z0 := hF.frozen (k * 5)
        have z1 := hF.frozen (k * 5 + 1)
        have z2 := hF.frozen (k * 5 + 2)
        have z3 := hF.frozen (k * 5 + 3)
        have z4 := hF.frozen (k * 5 + 4)
        clear hF hr
        go_wp2
        go_roundw
        case rel => exact ⟨k + 1, upd g k (f k), by omega, by go_num, rowIs_set5 hR.out.1 k (f k), (fun j hj => by
          unfold upd
          by_cases e : j = k
          · rw [if_pos e, e]
          · rw [if_neg e]; exact hR.out.2.1 j (by omega)), set5_below hR.out.2.2 (Nat.le_refl _) k (f k)⟩
        case measure => simp [intOf]; omega
      · obtain rfl : k = n := by omega
        go_wp2
        go_ret
        refine ⟨some ⟨w.heap.size, 0, none⟩, k, rfl, rfl, ⟨(fun e => by cases e), fun _ => ⟨w.heap.size, 0, rfl, ?_⟩⟩, hR.out.2.2, fun _ => by obtain ⟨cur, hb, _⟩ := hR.out.1; exact ⟨w.heap.size, cur, 43, rfl, hb, by decide⟩⟩
        refine RowAt.of_row (hR.out.1.congr fun q hq => ?_)
        show (g (q / 5)).cell (q % 5) = (f (q / 5)).cell (q % 5)
        rw [hR.out.2.1 (q / 5) (by omega)]

end Go.Proofs.Qxb6623453a
