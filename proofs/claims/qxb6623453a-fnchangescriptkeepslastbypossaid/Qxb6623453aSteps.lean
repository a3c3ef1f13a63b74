/- 'ZZChange' and 'zzToChanges'. -/
import Derived.Test.Qxb6623453aChange
namespace Go.Proofs.Qxb6623453a
open Go.ChangeShapes Go.WideShapes Go.ChangeAt Go.RowKit
set_option linter.unusedVariables false
set_option linter.unusedSimpArgs false

theorem zzChange (E base n cap : Nat) (fv rv : Value) (s3 s4 s5 s6 : ByteArray) (a : Option Addr) (L : List Ch) (c : Ch) (w : World) (hE : Hid (w.heap[E]? = some (edBlk fv (.slice a n cap) rv s3 s4 s5 s6))) (hn : Hid (L.length = n)) (hn8 : n ≤ 8191) (hb : base ≤ w.heap.size)
    (ho : Hid (w.ownsRow base 41 5 (.slice a n cap) n (chL L))) (hs : Hid (SortedL L)) :
    Calls Try.prog 13 #[.pointer (some ⟨E, 0, none⟩), c.agg] w (Changed E base fv rv s3 s4 s5 s6 (.slice a n cap) L c w) := by
  have hElt : E < w.heap.size := (Array.getElem?_eq_some_iff.1 hE.out).1
  have C : Hid (Calls Try.prog 20 #[.pointer (some ⟨E, 0, none⟩), c.agg] (w.alloc (chBlk c 41)) (Changed E base fv rv s3 s4 s5 s6 (.slice a n cap) L c (w.alloc (chBlk c 41)))) :=
    change E base n cap fv rv s3 s4 s5 s6 a L c _ ((Below.heap_alloc w _ E hElt).trans hE.out) hn hn8 (Nat.le_trans hb (by simp)) (ho.out.alloc _) hs
  clear hE ho hs hn
  go_enter Try.func13, Try.ntmps13
  go_wp2_with fail
  refine C.out.mono ?_
  rintro x w' ⟨rfl, a', cap', h1, h2, h3⟩
  have FI : Hid (Changed E base fv rv s3 s4 s5 s6 (.slice a n cap) L c w (.returned (.tuple #[])) w') := by
    refine ⟨rfl, a', cap', h1, h2, h3.os, h3.tape, h3.output, ?_, fun k hk hkE hrow => ?_⟩
    · have := h3.size; simp at this; omega
    · rw [h3.block k (by simp; omega) hkE hrow, Below.heap_alloc w _ k hk]
  clear h1 h2 h3
  go_wp2
  go_end0
  exact FI.out

theorem own_of_row {w : World} {b n base : Nat} {f : Nat → Ch} (h : w.rowIs b 41 (n * 5) (chF f)) (hb : base ≤ b) (hn : n ≤ maxLen) : w.ownsRow base 41 5 (.slice (some ⟨b, 0, none⟩) n n) n (chL ((List.range n).map f)) := by
  obtain ⟨cur, hg, hs, hc⟩ := h
  refine ⟨by simp [chL_len], .inr ⟨b, n, cur, rfl, hb, hg, Nat.le_refl _, hn, hs, ?_⟩⟩
  apply List.ext_getElem?
  intro q
  by_cases hq : q < n * 5
  · rw [chL_get _ q (by simpa using hq), List.getElem?_take, if_pos hq, Array.getElem?_toList, hc q hq]
    simp only [chF]
    rw [List.getD, List.getElem?_map, List.getElem?_range (by omega)]
    rfl
  · rw [List.getElem?_take, if_neg hq, List.getElem?_eq_none (by rw [chL_len]; simpa using Nat.le_of_not_lt hq)]

set_option maxHeartbeats 2000000 in
theorem toChanges (a : Option Addr) (n c : Nat) (f : Nat → Ch) (hn : n ≤ 4096) (w : World) (h : Hid (In w a n 5 (chF f))) :
    Calls Try.prog 11 #[.slice a n c] w fun x w' => ∃ a' c', x = .returned (.slice a' n c') ∧ w'.ownsRow w.heap.size 41 5 (.slice a' n c') n (chL ((List.range n).map f)) ∧ Below w.heap.size w w' := by
  have hmk := run_make_recs 33 41 _ 5 64 Try.underlying33 Try.info41 (by omega) n (by omega)
  have heq := fun w a l c => Lib.run_eql_slice_nil (P := Try.prog) w 23 43 a l c 0 0 Try.underlying23
  cases a with
  | none =>
    have h0 : n = 0 := h.out.1 rfl
    subst h0
    go_enter Try.func11, Try.ntmps11
    go_wp2
    go_ret
    exact ⟨none, 0, rfl, World.ownsRow_nil _ _ _ _, Below.refl _ _⟩
  | some x =>
    go_enter Try.func11, Try.ntmps11
    go_wp2
    go_loopw [4] (fun i wr => ∃ (k : Nat) (g : Nat → Ch), k ≤ n ∧ i = .int .i64 k ∧ w.heap.size < wr.heap.size ∧ Hid (wr.rowIs w.heap.size 41 (n * 5) (chF g) ∧ (∀ j, j < k → g j = f j) ∧ Below w.heap.size w wr)) (fun i _ => n - (intOf i).toNat)
    case atStart => exact ⟨0, _, Nat.zero_le _, rfl, by simp, made_ch w 41 n, (fun j hj => by omega), (Below.refl _ _).alloc (Nat.le_refl _) _⟩
    case round =>
      obtain ⟨k, g, hk, rfl, hlt', hR⟩ := hrel
      by_cases hlt : k < n
      · obtain ⟨b, o, e1, hr⟩ := h.out.2 (by omega)
        cases e1
        obtain ⟨q0, q1, q2, q3, q4⟩ := ch5 (hr.below hR.out.2.2) hlt
        have hF := hR.out.1
        have d0 := hF.cell (i := k * 5) (by omega)
        have d1 := hF.cell (i := k * 5 + 1) (by omega)
        have d2 := hF.cell (i := k * 5 + 2) (by omega)
        have d3 := hF.cell (i := k * 5 + 3) (by omega)
        have d4 := hF.cell (i := k * 5 + 4) (by omega)
        have z0 := hF.frozen (k * 5)
        have z1 := hF.frozen (k * 5 + 1)
        have z2 := hF.frozen (k * 5 + 2)
        have z3 := hF.frozen (k * 5 + 3)
        have z4 := hF.frozen (k * 5 + 4)
        clear hF hr
        go_wp2_with (go_at_call 14; refine (toChange (f k) _).mono ?_; rintro e w' ⟨rfl, rfl⟩)
        go_roundw
        case rel => exact ⟨k + 1, upd g k (f k), by omega, by go_num, by simp [World.setCell]; omega, ((rowIs_set5 hR.out.1 k (f k)).alloc _).alloc _, (fun j hj => by
          unfold upd
          by_cases e : j = k
          · rw [if_pos e, e]
          · rw [if_neg e]; exact hR.out.2.1 j (by omega)), ((set5_below hR.out.2.2 (Nat.le_refl _) k (f k)).alloc (by rw [set5_size]; omega) _).alloc (by rw [World.size_alloc, set5_size]; omega) _⟩
        case measure => simp [intOf]; omega
      · obtain rfl : k = n := by omega
        go_wp2
        go_ret
        refine ⟨some ⟨w.heap.size, 0, none⟩, k, rfl, ?_, hR.out.2.2⟩
        have : (List.range k).map f = (List.range k).map g := List.map_congr_left fun j hj => (hR.out.2.1 j (by simpa using hj)).symm
        rw [this]
        exact own_of_row hR.out.1 (Nat.le_refl _) (by unfold maxLen; omega)

end Go.Proofs.Qxb6623453a
