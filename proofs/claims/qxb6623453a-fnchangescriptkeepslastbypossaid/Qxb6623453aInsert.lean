/- 'slices.Insert' at scan.Change. -/
import Derived.Test.Qxb6623453aSearch
import Derived.Lib.AppendZerosOnto
import Derived.Lib.Overlaps
import Derived.Laws.Externs
import Derived.Laws.CopyOwn
import Derived.Deep.RegionLaw
namespace Go.Proofs.Qxb6623453a
open Go.ChangeShapes Go.WideShapes Go.ChangeAt Go.RowKit
set_option linter.unusedVariables false
set_option linter.unusedSimpArgs false

/-- One change's cells; a list's. -/
def ch1 (c : Ch) : List Value := [.string c.name, .int .i64 c.nth, .int .i64 c.pos, .string c.val, .string c.who]
def chL (L : List Ch) : List Value := L.flatMap ch1
theorem ch1_len (c : Ch) : (ch1 c).length = 5 := rfl
theorem chL_len (L : List Ch) : (chL L).length = L.length * 5 := by
  induction L with
  | nil => rfl
  | cons c L ih => simp [chL, ch1] at ih ⊢; omega
theorem chL_append (L M : List Ch) : chL (L ++ M) = chL L ++ chL M := by simp [chL]
theorem chL_one (c : Ch) : chL [c] = ch1 c := by simp [chL]
theorem ch1_one (c : Ch) : ∀ v ∈ ch1 c, v.oneCell' = true := by
  intro v hv; simp [ch1] at hv; rcases hv with rfl | rfl | rfl | rfl | rfl <;> rfl
theorem chL_oneCell (L : List Ch) : ∀ v ∈ chL L, v.oneCell' = true := by
  intro v hv; simp only [chL, List.mem_flatMap] at hv; obtain ⟨c, _, h⟩ := hv; exact ch1_one c v h
theorem chL_take (L : List Ch) (i : Nat) : chL (L.take i) = (chL L).take (i * 5) := by
  induction L generalizing i with
  | nil => simp [chL]
  | cons c L ih =>
    cases i with
    | zero => simp [chL]
    | succ i =>
      rw [List.take_succ_cons]
      show ch1 c ++ chL (L.take i) = (ch1 c ++ chL L).take ((i + 1) * 5)
      rw [List.take_append, List.take_of_length_le (l := ch1 c) (by rw [ch1_len]; omega), ch1_len, ih i, show (i + 1) * 5 - 5 = i * 5 by omega]
theorem chL_drop (L : List Ch) (i : Nat) : chL (L.drop i) = (chL L).drop (i * 5) := by
  induction L generalizing i with
  | nil => simp [chL]
  | cons c L ih =>
    cases i with
    | zero => simp [chL]
    | succ i =>
      rw [List.drop_succ_cons]
      show chL (L.drop i) = (ch1 c ++ chL L).drop ((i + 1) * 5)
      rw [List.drop_append, List.drop_eq_nil_of_le (show (ch1 c).length ≤ (i + 1) * 5 by rw [ch1_len]; omega), ch1_len, ih i, show (i + 1) * 5 - 5 = i * 5 by omega]
      rfl

theorem Try.info41 : (Try.prog.info? 41).map (fun i => (i.zero, i.size, i.bytes)) = some (some (.agg #[.string ⟨#[]⟩, .int .i64 0, .int .i64 0, .string ⟨#[]⟩, .string ⟨#[]⟩]), 5, 64) := by kernel_rfl
theorem Try.size41 : (Try.prog.info? 41).map (·.size) = some 5 := by kernel_rfl

/-- copy, of elements of several cells, into a row that is known whole. -/
theorem run_copy_rowK {P : Program} (w : World) (dT sT ty elem : TypeId) (size g o dLen dCap : Nat) (a : Addr) (sLen sCap : Nat) (cur : Array Value) (t : TypeId) (cs : List Value)
    (hu : P.underlying dT = some (.slice elem)) (hs : (P.info? elem).map (·.size) = some size)
    (hg : w.heap[g]? = some (.cells cur t (0, 0))) (hn : cs.length = Nat.min sLen dLen * size)
    (hsrc : ∀ j v, cs[j]? = some v → w.cell? (a.add j) = some v) (hfit : o + cs.length ≤ cur.size) (h1 : ∀ v ∈ cs, v.oneCell' = true) :
    (Builtin.copy_ #[dT, sT] ty #[.slice (some ⟨g, o, none⟩) dLen dCap, .slice (some a) sLen sCap]).run P w =
      .ok (goInt (Nat.min sLen dLen)) (w.setRow g (cur.toList.take o ++ cs ++ cur.toList.drop (o + cs.length)).toArray) := by
  have hl := run_loadCells_list (P := P) w a cs hsrc
  have hst := run_storeCells_at P g o t cs 0 cur w hg (by simpa using hfit) h1
  cases hq : P.info? elem with
  | none => simp [hq] at hs
  | some i =>
    have hi : i.size = size := by simpa [hq] using hs
    simp [Builtin.copy_, run_underlying hu, Builtin.lenOf, Builtin.firstCells, sizeOf, typeInfo, hq, hi, ← hn, hl, hst]

/-- A copy as one step of a region that draws, its run known by an equation. -/
theorem step_copy_run {P : Program} {ops : Array Oper} {o : Oper} {a : Act} {w : World} {K : Act → World → Prop} {Q : Exit → Act → World → Prop} {E : Prop}
    (hg : o.guard = none) (d x : Operand) (dT sT : TypeId) (hop : o.op = Op.call { callee := Callee.builtin Builtin.copy, args := #[d, x], argTypes := #[dT, sT] })
    (v u : Value) (hd : a.eval d = v) (hx : a.eval x = u) {v' : Value} {w' : World} (hr : (Builtin.copy_ #[dT, sT] o.type #[v, u]).run P w = .ok v' w') (hK : K (a.put o.dst v') w') :
    if Region.wanted o (yielded ops a.tmps) = true then Oper.wp P o a w K Q else E := by
  have hw : Region.wanted o (yielded ops a.tmps) = true := by simp [Region.wanted, hg]
  rw [if_pos hw]
  unfold Oper.wp
  simp [execOp, hop, resolve, invoke, builtin, hd, hx, hr, Result.andThen]
  exact hK

/-- What 'slices.Insert' of one change leaves. -/
def Inserted (base : Nat) (L : List Ch) (i : Nat) (c : Ch) (v : Value) (w : World) (x : Ending) (w' : World) : Prop :=
  ∃ v', x = .returned v' ∧ w'.ownsRow base 41 5 v' (L.length + 1) (chL (L.take i ++ [c] ++ L.drop i)) ∧ w.grownBy w' v.ownBlock

/-- The row behind the two copies in place. -/
theorem shift_row (Cu C c5 : List Value) (n i cap : Nat) (hC : Cu.take (n * 5) = C) (hCl : C.length = n * 5) (hc : c5.length = 5) (hl : Cu.length = cap * 5) (hi : i < n) (hroom : n + 1 ≤ cap) (R1 : List Value)
    (hR0 : R1 = Cu.take ((i + 1) * 5) ++ C.drop (i * 5) ++ Cu.drop ((i + 1) * 5 + (C.drop (i * 5)).length)) :
    R1.take (i * 5) ++ c5 ++ R1.drop (i * 5 + c5.length) = C.take (i * 5) ++ c5 ++ C.drop (i * 5) ++ Cu.drop ((n + 1) * 5) := by
  have hXl : (C.drop (i * 5)).length = (n - i) * 5 := by rw [List.length_drop, hCl]; omega
  have h1 : (Cu.take ((i + 1) * 5)).length = (i + 1) * 5 := by rw [List.length_take]; omega
  have hR : R1 = Cu.take ((i + 1) * 5) ++ (C.drop (i * 5) ++ Cu.drop ((n + 1) * 5)) := by
    rw [hR0, hXl, show (i + 1) * 5 + (n - i) * 5 = (n + 1) * 5 by omega, List.append_assoc]
  have e1 : R1.take (i * 5) = C.take (i * 5) := by
    rw [hR, List.take_append_of_le_length (by omega), List.take_take, Nat.min_eq_left (by omega), ← hC, List.take_take, Nat.min_eq_left (by omega)]
  have e2 : R1.drop (i * 5 + c5.length) = C.drop (i * 5) ++ Cu.drop ((n + 1) * 5) := by
    rw [hR, hc, show i * 5 + 5 = (i + 1) * 5 by omega, List.drop_append, List.drop_eq_nil_of_le (show (Cu.take ((i + 1) * 5)).length ≤ (i + 1) * 5 by omega), h1, Nat.sub_self]
    rfl
  rw [e1, e2]
  simp [List.append_assoc]

theorem grown_setRow (w : World) (g : Nat) (cs : Array Value) : w.grownBy (w.setRow g cs) (some g) :=
  ⟨rfl, rfl, rfl, by simp [World.setRow], fun k _ hne => setRow_other w g k cs (fun e => hne (by rw [e]))⟩

theorem shape_of {w : World} {g : Nat} {cur : Array Value} {t : TypeId} (h : w.heap[g]? = some (.cells cur t (0, 0))) : w.shape? g = some (t, cur.size) := by
  simp [World.shape?, h]

theorem frozen_of {w : World} {g : Nat} {cur : Array Value} {t : TypeId} (h : w.heap[g]? = some (.cells cur t (0, 0))) (o : Nat) : w.frozen? ⟨g, o, none⟩ = false := by
  simp [World.frozen?, h]

theorem cell_of {w : World} {g : Nat} {cur : Array Value} {t : TypeId} (h : w.heap[g]? = some (.cells cur t (0, 0))) (o : Nat) : w.cell? ⟨g, o, none⟩ = cur[o]? := by
  simp [World.cell?, h]

theorem sizeOf41 : ∀ w, (Go.sizeOf 41).run Try.prog w = .ok 5 w := fun w => by
  obtain ⟨i0, hi, hz0, hz1, hz2⟩ := info_parts Try.info41
  simp [sizeOf, typeInfo, hi, hz1]

set_option maxHeartbeats 4000000 in
set_option maxRecDepth 100000 in
theorem insert_shift (base g n cap i vb : Nat) (cur : Array Value) (L : List Ch) (c : Ch) (w : World) (hn : L.length = n) (hn8 : n ≤ 8192) (hi : i < n) (hroom : n + 1 ≤ cap) (hcap : cap ≤ maxLen) (hvb : vb ≠ g) (hbg : base ≤ g)
    (hg : w.heap[g]? = some (.cells cur 41 (0, 0))) (hsz : cur.size = cap * 5) (htk : cur.toList.take (n * 5) = chL L) (hv : w.heap[vb]? = some (.cells (ch1 c).toArray 41 (0, 0))) :
    Calls Try.prog 24 #[.slice (some ⟨g, 0, none⟩) n cap, .int .i64 i, .slice (some ⟨vb, 0, none⟩) 1 1] w (Inserted base L i c (.slice (some ⟨g, 0, none⟩) n cap) w) := by
  have hcap' := hcap
  unfold maxLen at hcap
  have hov : ∀ lb cb, (callFunc 26 #[.slice (some ⟨vb, 0, none⟩) 1 1, .slice (some ⟨g, (i + 1) * 5, none⟩) lb cb]).run Try.prog w = .ok (.value (.bool false)) w := fun lb cb => by
    rw [run_callFunc_extern Try.func26 (by kernel_rfl) (by kernel_rfl) (by kernel_rfl) (e := Extern.SlicesOverlaps.overlaps #[33, 33] #[4]) (by kernel_rfl),
      Lib.run_overlaps_apart w 33 4 41 Try.underlying33 5 sizeOf41 ⟨vb, 0, none⟩ ⟨g, (i + 1) * 5, none⟩ 1 1 lb cb hvb 41 41 5 (cap * 5) (by rw [shape_of hv]; rfl) (by rw [shape_of hg, hsz]) (by omega) (frozen_of hv 0) (frozen_of hv 5)]
    rfl
  have hCl : (chL L).length = n * 5 := by rw [chL_len, hn]
  have hXl : ((chL L).drop (i * 5)).length = (n - i) * 5 := by rw [List.length_drop, hCl]; omega
  have hcul : cur.toList.length = cap * 5 := by rw [Array.length_toList, hsz]
  have hcells : ∀ j v, (chL L)[j]? = some v → w.cell? ⟨g, j, none⟩ = some v := fun j v hj => by
    rw [cell_of hg, ← Array.getElem?_toList]
    rw [← htk, List.getElem?_take] at hj
    split at hj
    · exact hj
    · cases hj
  obtain ⟨R1, hR1⟩ : ∃ R1, R1 = cur.toList.take ((i + 1) * 5) ++ (chL L).drop (i * 5) ++ cur.toList.drop ((i + 1) * 5 + ((chL L).drop (i * 5)).length) := ⟨_, rfl⟩
  have hR1l : R1.length = cap * 5 := by
    rw [hR1]; simp only [List.length_append, List.length_take, List.length_drop, hcul, hCl]; omega
  have hcp1 : ∀ ty dc sc, (Builtin.copy_ #[33, 33] ty #[.slice (some ⟨g, (i + 1) * 5, none⟩) (n - i) dc, .slice (some ⟨g, i * 5, none⟩) (n + 1 - i) sc]).run Try.prog w.drew = .ok (goInt ((n - i : Nat) : Int)) (w.drew.setRow g R1.toArray) := fun ty dc sc => by
    have hmin : Nat.min (n + 1 - i) (n - i) = n - i := by simp only [Nat.min_def]; split <;> omega
    have := run_copy_rowK (P := Try.prog) w.drew 33 33 ty 41 5 g ((i + 1) * 5) (n - i) dc ⟨g, i * 5, none⟩ (n + 1 - i) sc cur 41 ((chL L).drop (i * 5)) Try.underlying33 Try.size41 hg (by rw [hXl, hmin])
      (fun j v hj => by rw [add_plain]; exact hcells _ v (by rwa [List.getElem?_drop] at hj)) (by rw [hXl, hsz]; omega) (fun v hv => chL_oneCell L v (List.mem_of_mem_drop hv))
    rw [hmin, ← hR1] at this
    exact this
  have hrow := shift_row cur.toList (chL L) (ch1 c) n i cap htk hCl rfl hcul hi hroom R1 hR1
  have hg1 : (w.drew.setRow g R1.toArray).heap[g]? = some (.cells R1.toArray 41 (0, 0)) := setRow_heap w.drew g cur _ 41 (0, 0) hg
  have hv1 : (w.drew.setRow g R1.toArray).heap[vb]? = some (.cells (ch1 c).toArray 41 (0, 0)) := (setRow_other w.drew g vb _ hvb).trans hv
  have hcp2 : ∀ ty dc, (Builtin.copy_ #[33, 33] ty #[.slice (some ⟨g, i * 5, none⟩) (n + 1 - i) dc, .slice (some ⟨vb, 0, none⟩) 1 1]).run Try.prog (w.drew.setRow g R1.toArray) = .ok (goInt 1) (w.drew.setRow g ((chL L).take (i * 5) ++ ch1 c ++ (chL L).drop (i * 5) ++ cur.toList.drop ((n + 1) * 5)).toArray) := fun ty dc => by
    have hmin : Nat.min 1 (n + 1 - i) = 1 := by simp only [Nat.min_def]; split <;> omega
    have := run_copy_rowK (P := Try.prog) (w.drew.setRow g R1.toArray) 33 33 ty 41 5 g (i * 5) (n + 1 - i) dc ⟨vb, 0, none⟩ 1 1 R1.toArray 41 (ch1 c) Try.underlying33 Try.size41 hg1 (by rw [hmin]; rfl)
      (fun j v hj => by rw [add_plain, Nat.zero_add, cell_of hv1]; simpa using hj) (by rw [ch1_len]; simp only [List.size_toArray, hR1l]; omega) (ch1_one c)
    rw [hmin] at this
    simp only at this
    rw [hrow] at this
    rw [this, setRow_setRow]
    rfl
  obtain ⟨ROW, hROW⟩ : ∃ ROW, ROW = (chL L).take (i * 5) ++ ch1 c ++ (chL L).drop (i * 5) ++ cur.toList.drop ((n + 1) * 5) := ⟨_, rfl⟩
  rw [← hROW] at hcp2
  have fin : Hid (Inserted base L i c (.slice (some ⟨g, 0, none⟩) n cap) w (.returned (.slice (some ⟨g, 0, none⟩) (n + 1) cap)) (w.drew.setRow g ROW.toArray)) := by
    refine ⟨_, rfl, ?_, ?_⟩
    · rw [hn]
      have hl : (L.take i ++ [c] ++ L.drop i).length = n + 1 := by simp; omega
      refine ⟨by rw [chL_len, hl], .inr ⟨g, cap, ROW.toArray, rfl, hbg, setRow_heap w.drew g cur _ 41 (0, 0) hg, hroom, hcap', ?_, ?_⟩⟩
      · rw [hROW]; simp only [List.size_toArray, List.length_append, List.length_take, List.length_drop, hcul, hCl, ch1_len]; omega
      · rw [chL_append, chL_append, chL_one, chL_take, chL_drop, List.toList_toArray, hROW, List.take_append_of_le_length (by simp only [List.length_append, List.length_take, List.length_drop, hCl, ch1_len]; omega), List.take_of_length_le (by simp only [List.length_append, List.length_take, List.length_drop, hCl, ch1_len]; omega)]
    · exact ⟨rfl, rfl, rfl, by simp [World.setRow], fun k _ hne => setRow_other w.drew g k _ (fun e => hne (by rw [e]; rfl))⟩
  have hz2 : ((i : Int) == (n : Int)) = false := by simp; omega
  have hb1 : ¬ (cap = i) := by omega
  have hb2 : ¬ (cap = i + 1) := by omega
  have hb3 : (i : Int) ≤ (n : Int) := by omega
  have hb4 : (n : Int) + 1 ≤ (cap : Int) := by omega
  have hw1 : IntKind.i64.wrap ((i : Int) + 1) = (i : Int) + 1 := by rw [IntKind.wrap_i64]; omega
  have hb5 : (0 : Int) ≤ (i : Int) + 1 := by omega
  have htn : ((i : Int) + 1).toNat = i + 1 := by omega
  have hb6 : (i : Int) ≤ (n : Int) + 1 := by omega
  clear hg hv htk hsz hcells hR1 hR1l hrow hg1 hv1 hROW hcul hXl hCl hn
  go_enter Try.func24, Try.ntmps24
  go_wp2_with (simp only [hov])
  go_region
  go_wp2
  go_ret
  exact fin.out

theorem oneCells_src {w : World} {vb : Nat} {c : Ch} (hv : w.heap[vb]? = some (.cells (ch1 c).toArray 41 (0, 0))) : ∀ j u, (ch1 c)[j]? = some u → w.cell? ((⟨vb, 0, none⟩ : Addr).add j) = some u := fun j u hj => by
  rw [add_plain, Nat.zero_add, cell_of hv]; simpa using hj

set_option maxHeartbeats 4000000 in
set_option maxRecDepth 100000 in
/-- At the end: the built-in append. -/
theorem insert_end (base n vb : Nat) (a : Option Addr) (cap : Nat) (L : List Ch) (c : Ch) (w : World) (hn : L.length = n) (hn8 : n ≤ 8192) (hcap : cap ≤ maxLen) (hncap : n ≤ cap) (hb : base ≤ w.heap.size)
    (ho : Hid (w.ownsRow base 41 5 (.slice a n cap) n (chL L))) (hv : Hid (w.heap[vb]? = some (.cells (ch1 c).toArray 41 (0, 0)))) :
    Calls Try.prog 24 #[.slice a n cap, .int .i64 n, .slice (some ⟨vb, 0, none⟩) 1 1] w (Inserted base L n c (.slice a n cap) w) := by
  unfold maxLen at hcap
  obtain ⟨i0, hi, hz0, hz1, hz2⟩ := info_parts Try.info41
  have hb1 : (n : Int) ≤ (cap : Int) := by omega
  have HN : Hid (L.length = n) := hn
  have hb2 : n + 1 ≤ 8193 := by omega
  clear hn
  have fin : Hid (∀ v' w1, w1.ownsRow base 41 5 v' (n + 1) (chL L ++ ch1 c) → w.grownBy w1 (Value.slice a n cap).ownBlock → Inserted base L n c (.slice a n cap) w (.returned v') w1) := fun v' w1 h1 h2 => by
    refine ⟨v', rfl, ?_, h2⟩
    rw [HN.out, List.take_of_length_le (by have := HN.out; omega), List.drop_eq_nil_of_le (by have := HN.out; omega), List.append_nil, chL_append, chL_one]
    exact h1
  cases a with
  | none =>
    go_enter Try.func24, Try.ntmps24
    go_wp2_with (at_builtin; go_must (refine wpList_append_own _ rfl (.tmp 23) (.tmp 24) 33 rfl base 41 i0 _ 5 64 Try.underlying33 hi hz0 hz1 hz2 rfl (by decide) _ n (chL L) rfl ho.out ⟨vb, 0, none⟩ 1 1 (ch1 c) rfl rfl (oneCells_src hv.out) (ch1_one c) (by unfold maxLen; omega) (by omega) hb ?_); intro v' w1 ho' hg' _; have FI : Hid _ := fin.out v' w1 ho' hg'; clear ho' hg')
    all_goals
      go_ret
      exact FI.out
  | some x =>
    obtain ⟨g, hx⟩ : ∃ g, x = ⟨g, 0, none⟩ := by
      rcases ho.out.2 with ⟨h0, _⟩ | ⟨g, cap', cur, h0, _⟩
      · cases h0
      · cases h0; exact ⟨g, rfl⟩
    subst hx
    go_enter Try.func24, Try.ntmps24
    go_wp2_with (at_builtin; go_must (refine wpList_append_own _ rfl (.tmp 23) (.tmp 24) 33 rfl base 41 i0 _ 5 64 Try.underlying33 hi hz0 hz1 hz2 rfl (by decide) _ n (chL L) rfl ho.out ⟨vb, 0, none⟩ 1 1 (ch1 c) rfl rfl (oneCells_src hv.out) (ch1_one c) (by unfold maxLen; omega) (by omega) hb ?_); intro v' w1 ho' hg' _; have FI : Hid _ := fin.out v' w1 ho' hg'; clear ho' hg')
    all_goals
      go_ret
      exact FI.out

/-- The row behind the append of a make and the two copies. -/
theorem grow_row1 (A Z c5 : List Value) (i : Nat) (hA : A.length = i * 5) (hc : c5.length = 5) : (A ++ Z).take (i * 5) ++ c5 ++ (A ++ Z).drop (i * 5 + c5.length) = A ++ c5 ++ Z.drop 5 := by
  rw [List.take_append_of_le_length (by omega), List.take_of_length_le (by omega), List.drop_append, List.drop_eq_nil_of_le (show A.length ≤ i * 5 + c5.length by omega), hA, hc, show i * 5 + 5 - i * 5 = 5 by omega, List.nil_append]
theorem grow_row2 (A c5 X Z : List Value) (n i : Nat) (hA : A.length = i * 5) (hc : c5.length = 5) (hX : X.length = (n - i) * 5) :
    (A ++ c5 ++ Z.drop 5).take ((i + 1) * 5) ++ X ++ (A ++ c5 ++ Z.drop 5).drop ((i + 1) * 5 + X.length) = A ++ c5 ++ X ++ Z.drop (5 + X.length) := by
  have h1 : (A ++ c5).length = (i + 1) * 5 := by simp [hA, hc]; omega
  rw [List.take_append_of_le_length (by omega), List.take_of_length_le (by omega), List.drop_append, List.drop_eq_nil_of_le (show (A ++ c5).length ≤ (i + 1) * 5 + X.length by omega), h1, show (i + 1) * 5 + X.length - (i + 1) * 5 = X.length by omega, List.drop_drop, List.nil_append]

theorem setRow_new (w : World) (cur cs : Array Value) (t : TypeId) : (w.alloc (.cells cur t)).setRow w.heap.size cs = w.alloc (.cells cs t) := by
  simp only [World.setRow, World.alloc]
  congr 1
  apply Array.ext
  · simp
  · intro i h1 h2
    simp only [Array.size_push] at h2
    simp [Array.getElem_modify, Array.getElem_push]
    split <;> rename_i h
    · subst h; simp
    · split
      · rfl
      · omega

set_option maxHeartbeats 4000000 in
set_option maxRecDepth 100000 in
/-- There is no room, i < len(s): a new row. -/
theorem insert_grow (base g n cap i vb : Nat) (cur : Array Value) (L : List Ch) (c : Ch) (w : World) (hn : L.length = n) (hn8 : n ≤ 8192) (hi : i < n) (hnc : n ≤ cap) (hroom : cap < n + 1) (hb : base ≤ w.heap.size)
    (hg : w.heap[g]? = some (.cells cur 41 (0, 0))) (hsz : cur.size = cap * 5) (htk : cur.toList.take (n * 5) = chL L) (hv : w.heap[vb]? = some (.cells (ch1 c).toArray 41 (0, 0))) :
    Calls Try.prog 24 #[.slice (some ⟨g, 0, none⟩) n cap, .int .i64 i, .slice (some ⟨vb, 0, none⟩) 1 1] w (Inserted base L i c (.slice (some ⟨g, 0, none⟩) n cap) w) := by
  obtain ⟨i0, hi0, hz0, hzs, hzb⟩ := info_parts Try.info41
  have hCl : (chL L).length = n * 5 := by rw [chL_len, hn]
  have hXl : ((chL L).drop (i * 5)).length = (n - i) * 5 := by rw [List.length_drop, hCl]; omega
  have hAl : ((chL L).take (i * 5)).length = i * 5 := by rw [List.length_take, hCl]; omega
  have hgw : g < w.heap.size := (Array.getElem?_eq_some_iff.1 hg).1
  have hvw : vb < w.heap.size := (Array.getElem?_eq_some_iff.1 hv).1
  have hcells : ∀ j v, (chL L)[j]? = some v → w.cell? ⟨g, j, none⟩ = some v := fun j v hj => by
    rw [cell_of hg, ← Array.getElem?_toList]
    rw [← htk, List.getElem?_take] at hj
    split at hj
    · exact hj
    · cases hj
  have hik : i + (n + 1 - i) = n + 1 := by omega
  have hkk : (n : Int) + 1 - (i : Int) = ((n + 1 - i : Nat) : Int) := by omega
  have hold : (Builtin.firstCells i0.size i (.slice (some ⟨g, 0, none⟩) i cap)).run Try.prog w.drew = .ok ((chL L).take (i * 5)).toArray w.drew := by
    rw [hzs]
    exact run_firstCells_some w.drew 5 i ⟨g, 0, none⟩ i cap _ hAl (fun j v hj => by
      rw [add_plain, Nat.zero_add]
      rw [List.getElem?_take] at hj
      split at hj
      · exact hcells j v hj
      · cases hj)
  obtain ⟨G, hG⟩ : ∃ G, G = grownCap w (n + 1) cap 41 := ⟨_, rfl⟩
  have hGn : n + 1 ≤ G := by rw [hG]; exact grownCap_ge w _ _ _
  have hGm : G ≤ maxLen := by rw [hG]; exact grownCap_le_maxLen w (n + 1) cap 41 (by unfold maxLen; omega)
  have hG63 : G ≤ 9223372036854775807 := by unfold maxLen at hGm; omega
  obtain ⟨Z, hZ, hZl⟩ : ∃ Z : List Value, (((chL L).take (i * 5)).toArray ++ Builtin.zeroCells (Value.agg #[.string ⟨#[]⟩, .int .i64 0, .int .i64 0, .string ⟨#[]⟩, .string ⟨#[]⟩]).cells (n + 1 - i) ++ Builtin.zeroCells (Value.agg #[.string ⟨#[]⟩, .int .i64 0, .int .i64 0, .string ⟨#[]⟩, .string ⟨#[]⟩]).cells (G - (n + 1))) = ((chL L).take (i * 5) ++ Z).toArray ∧ Z.length = (n + 1 - i) * 5 + (G - (n + 1)) * 5 := by
    refine ⟨(Builtin.zeroCells (Value.agg #[.string ⟨#[]⟩, .int .i64 0, .int .i64 0, .string ⟨#[]⟩, .string ⟨#[]⟩]).cells (n + 1 - i)).toList ++ (Builtin.zeroCells (Value.agg #[.string ⟨#[]⟩, .int .i64 0, .int .i64 0, .string ⟨#[]⟩, .string ⟨#[]⟩]).cells (G - (n + 1))).toList, ?_, ?_⟩
    · apply Array.toList_inj.1
      simp
    · rw [List.length_append, Array.length_toList, Array.length_toList, size_zeroCells, size_zeroCells]
      rfl
  have hrz : ∀ ty, (Builtin.append_ #[33, 3] ty #[.slice (some ⟨g, 0, none⟩) i cap, .int .i64 ((n : Int) + 1 - (i : Int))]).run Try.prog w = .ok (.slice (some ⟨w.heap.size, 0, none⟩) (n + 1) G) (w.drew.alloc (.cells ((chL L).take (i * 5) ++ Z).toArray 41)) := fun ty => by
    have h := Lib.run_append_grow_zeros w 33 3 ty 41 i0 _ .i64 .i64 Try.underlying33 Try.underlying3 hi0 hz0 (some ⟨g, 0, none⟩) i cap _ hold (n + 1 - i) (by omega) (by omega) (by omega) (by omega) (by rw [hzb]; omega) (by rw [hzb, hik]; exact growslice_fits hroom (by omega))
    rw [hik, ← hG, hZ] at h
    rw [hkk]
    exact h
  have hcpA : ∀ ty dc, (Builtin.copy_ #[33, 33] ty #[.slice (some ⟨w.heap.size, i * 5, none⟩) (n + 1 - i) dc, .slice (some ⟨vb, 0, none⟩) 1 1]).run Try.prog (w.alloc (.cells ((chL L).take (i * 5) ++ Z).toArray 41)).drew = .ok (goInt 1) (w.alloc (.cells ((chL L).take (i * 5) ++ ch1 c ++ Z.drop 5).toArray 41)).drew := fun ty dc => by
    have hmin : Nat.min 1 (n + 1 - i) = 1 := by simp only [Nat.min_def]; split <;> omega
    have hN : (w.alloc (.cells ((chL L).take (i * 5) ++ Z).toArray 41)).drew.heap[w.heap.size]? = some (.cells ((chL L).take (i * 5) ++ Z).toArray 41 (0, 0)) := heap_alloc_new w _
    have hv1 : (w.alloc (.cells ((chL L).take (i * 5) ++ Z).toArray 41)).drew.heap[vb]? = some (.cells (ch1 c).toArray 41 (0, 0)) := (Below.heap_alloc w _ vb hvw).trans hv
    have := run_copy_rowK (P := Try.prog) (w.alloc (.cells ((chL L).take (i * 5) ++ Z).toArray 41)).drew 33 33 ty 41 5 w.heap.size (i * 5) (n + 1 - i) dc ⟨vb, 0, none⟩ 1 1 _ 41 (ch1 c) Try.underlying33 Try.size41 hN (by rw [hmin]; rfl)
      (oneCells_src hv1) (by rw [ch1_len]; simp only [List.size_toArray, List.length_append, hAl, hZl]; omega) (ch1_one c)
    rw [hmin] at this
    simp only at this
    rw [grow_row1 _ _ _ i hAl rfl] at this
    rw [this]
    have e : ∀ R, (w.alloc (.cells ((chL L).take (i * 5) ++ Z).toArray 41)).drew.setRow w.heap.size R = ((w.alloc (.cells ((chL L).take (i * 5) ++ Z).toArray 41)).setRow w.heap.size R).drew := fun R => rfl
    rw [e, setRow_new]
    rfl
  have hcpB : ∀ ty dc sc, (Builtin.copy_ #[33, 33] ty #[.slice (some ⟨w.heap.size, (i + 1) * 5, none⟩) (n - i) dc, .slice (some ⟨g, i * 5, none⟩) (n - i) sc]).run Try.prog (w.alloc (.cells ((chL L).take (i * 5) ++ ch1 c ++ Z.drop 5).toArray 41)).drew.drew = .ok (goInt ((n - i : Nat) : Int)) (w.alloc (.cells ((chL L).take (i * 5) ++ ch1 c ++ (chL L).drop (i * 5) ++ Z.drop (5 + ((chL L).drop (i * 5)).length)).toArray 41)).drew.drew := fun ty dc sc => by
    have hmin : Nat.min (n - i) (n - i) = n - i := Nat.min_self _
    have hN : (w.alloc (.cells ((chL L).take (i * 5) ++ ch1 c ++ Z.drop 5).toArray 41)).drew.drew.heap[w.heap.size]? = some (.cells ((chL L).take (i * 5) ++ ch1 c ++ Z.drop 5).toArray 41 (0, 0)) := heap_alloc_new w _
    have hg1 : (w.alloc (.cells ((chL L).take (i * 5) ++ ch1 c ++ Z.drop 5).toArray 41)).drew.drew.heap[g]? = some (.cells cur 41 (0, 0)) := (Below.heap_alloc w _ g hgw).trans hg
    have := run_copy_rowK (P := Try.prog) (w.alloc (.cells ((chL L).take (i * 5) ++ ch1 c ++ Z.drop 5).toArray 41)).drew.drew 33 33 ty 41 5 w.heap.size ((i + 1) * 5) (n - i) dc ⟨g, i * 5, none⟩ (n - i) sc _ 41 ((chL L).drop (i * 5)) Try.underlying33 Try.size41 hN (by rw [hmin, hXl])
      (fun j v hj => by
        rw [add_plain, cell_of hg1, ← cell_of hg]
        exact hcells _ v (by rwa [List.getElem?_drop] at hj)) (by simp only [List.size_toArray, List.length_append, List.length_drop, hAl, hZl, ch1_len, hCl]; omega) (fun v hv => chL_oneCell L v (List.mem_of_mem_drop hv))
    rw [hmin] at this
    simp only at this
    rw [grow_row2 _ _ _ _ n i hAl rfl hXl] at this
    rw [this]
    have e : ∀ R, (w.alloc (.cells ((chL L).take (i * 5) ++ ch1 c ++ Z.drop 5).toArray 41)).drew.drew.setRow w.heap.size R = ((w.alloc (.cells ((chL L).take (i * 5) ++ ch1 c ++ Z.drop 5).toArray 41)).setRow w.heap.size R).drew.drew := fun R => rfl
    rw [e, setRow_new]
  have fin : Hid (Inserted base L i c (.slice (some ⟨g, 0, none⟩) n cap) w (.returned (.slice (some ⟨w.heap.size, 0, none⟩) (n + 1) G)) (w.alloc (.cells ((chL L).take (i * 5) ++ ch1 c ++ (chL L).drop (i * 5) ++ Z.drop (5 + ((chL L).drop (i * 5)).length)).toArray 41)).drew.drew) := by
    refine ⟨_, rfl, ?_, ?_⟩
    · rw [hn]
      have hl : (L.take i ++ [c] ++ L.drop i).length = n + 1 := by simp; omega
      refine ⟨by rw [chL_len, hl], .inr ⟨w.heap.size, G, _, rfl, hb, heap_alloc_new w _, hGn, hGm, ?_, ?_⟩⟩
      · simp only [List.size_toArray, List.length_append, List.length_drop, hAl, hZl, hXl, ch1_len, hCl]; omega
      · rw [chL_append, chL_append, chL_one, chL_take, chL_drop, List.toList_toArray, List.take_append_of_le_length (by simp only [List.length_append, hAl, hXl, ch1_len]; omega), List.take_of_length_le (by simp only [List.length_append, hAl, hXl, ch1_len]; omega)]
    · exact ⟨rfl, rfl, rfl, by simp [World.drew], fun k hk _ => Below.heap_alloc w _ k hk⟩
  obtain ⟨RA, hRA⟩ : ∃ R, R = ((chL L).take (i * 5) ++ Z).toArray := ⟨_, rfl⟩
  obtain ⟨RB, hRB⟩ : ∃ R, R = ((chL L).take (i * 5) ++ ch1 c ++ Z.drop 5).toArray := ⟨_, rfl⟩
  obtain ⟨RC, hRC⟩ : ∃ R, R = ((chL L).take (i * 5) ++ ch1 c ++ (chL L).drop (i * 5) ++ Z.drop (5 + ((chL L).drop (i * 5)).length)).toArray := ⟨_, rfl⟩
  rw [← hRA] at hrz hcpA
  rw [← hRB] at hcpA hcpB
  rw [← hRC] at hcpB fin
  have hz2 : ((i : Int) == (n : Int)) = false := by simp; omega
  have hb0 : (cap : Int) < (n : Int) + 1 := by omega
  have hb1 : ¬ (cap = i) := by omega
  have hb2 : ¬ (G = i) := by omega
  have hb2' : ¬ (G = i + 1) := by omega
  have hb3 : (i : Int) ≤ (n : Int) := by omega
  have hb3' : (i : Int) ≤ (n : Int) + 1 := by omega
  have hw1 : IntKind.i64.wrap ((i : Int) + 1) = (i : Int) + 1 := by rw [IntKind.wrap_i64]; omega
  have hb5 : (0 : Int) ≤ (i : Int) + 1 := by omega
  have htn : ((i : Int) + 1).toNat = i + 1 := by omega
  clear hg hv htk hsz hcells hRA hRB hRC hZ hZl hG hold hkk hik hXl hAl hCl hn
  go_enter Try.func24, Try.ntmps24
  go_wp2_with (at_builtin; go_must (refine Lib.wpList_append_run _ rfl (.tmp 34) (.tmp 39) 33 3 rfl _ _ rfl rfl _ _ (hrz _) ?_))
  go_region
  go_wp2
  go_ret
  exact fin.out

end Go.Proofs.Qxb6623453a
