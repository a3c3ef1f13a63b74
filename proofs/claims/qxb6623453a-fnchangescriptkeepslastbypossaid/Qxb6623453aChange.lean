/- '(*Edits).change' and 'ZZChange'. -/
import Derived.Test.Qxb6623453aInsert
import Derived.Test.Qxb6623453aPlain
import Derived.Deep.RegionWith
namespace Go.Proofs.Qxb6623453a
open Go.ChangeShapes Go.WideShapes Go.ChangeAt Go.RowKit
set_option linter.unusedVariables false
set_option linter.unusedSimpArgs false

/-- 'slices.Insert' of one change, on every road. -/
theorem insert (base n i vb : Nat) (a : Option Addr) (cap : Nat) (L : List Ch) (c : Ch) (w : World) (hn : L.length = n) (hn8 : n ≤ 8192) (hi : i ≤ n) (hb : base ≤ w.heap.size)
    (ho : w.ownsRow base 41 5 (.slice a n cap) n (chL L)) (hv : w.heap[vb]? = some (.cells (ch1 c).toArray 41 (0, 0))) (hvb : ∀ g, (Value.slice a n cap).ownBlock = some g → vb ≠ g) :
    Calls Try.prog 24 #[.slice a n cap, .int .i64 i, .slice (some ⟨vb, 0, none⟩) 1 1] w (Inserted base L i c (.slice a n cap) w) := by
  rcases ho.2 with ⟨h0, h00⟩ | ⟨g, cap', cur, h0, hbg, hg, hnc, hcap, hsz, htk⟩
  · cases h0
    have hi0 : i = 0 := by omega
    subst hi0
    have e : L.length = 0 := hn
    exact insert_end base 0 vb none 0 L c w e (by omega) (by unfold maxLen; omega) (by omega) hb ho hv
  · cases h0
    by_cases hin : i = n
    · subst hin
      exact insert_end base i vb (some ⟨g, 0, none⟩) cap L c w hn hn8 hcap hnc hb ho hv
    · by_cases hr : n + 1 ≤ cap
      · exact insert_shift base g n cap i vb cur L c w hn hn8 (by omega) hr hcap (hvb g rfl) hbg hg hsz htk hv
      · exact insert_grow base g n cap i vb cur L c w hn hn8 (by omega) hnc (by omega) hb hg hsz htk hv

/-- The block of an Edits. -/
abbrev edBlk (fv v rv : Value) (s3 s4 s5 s6 : ByteArray) : Obj := .cells #[fv, v, rv, .string s3, .string s4, .string s5, .string s6] 38

theorem chL_get : ∀ (L : List Ch) (q : Nat), q < L.length * 5 → (chL L)[q]? = some ((L.getD (q / 5) zeroCh).cell (q % 5))
  | [], q, h => by simp at h
  | c :: L, q, h => by
    show (ch1 c ++ chL L)[q]? = _
    by_cases hq : q < 5
    · rw [List.getElem?_append_left (by rw [ch1_len]; exact hq), show q / 5 = 0 by omega, show q % 5 = q by omega]
      have h5 : q = 0 ∨ q = 1 ∨ q = 2 ∨ q = 3 ∨ q = 4 := by omega
      rcases h5 with rfl | rfl | rfl | rfl | rfl <;> rfl
    · rw [List.getElem?_append_right (by rw [ch1_len]; omega), ch1_len, chL_get L (q - 5) (by simp at h; omega), show q / 5 = (q - 5) / 5 + 1 by omega, show (q - 5) % 5 = q % 5 by omega]
      rfl

theorem own_rows {w : World} {base : Nat} {a : Option Addr} {n cap : Nat} {L : List Ch} (hn : L.length = n) (h : w.ownsRow base 41 5 (.slice a n cap) n (chL L)) : In w a n 5 (chF fun i => L.getD i zeroCh) := by
  refine ⟨fun e => ?_, fun hpos => ?_⟩
  · subst e
    rcases h.2 with ⟨h0, h00⟩ | ⟨g, cap', cur, h0, _⟩
    · exact h00
    · cases h0
  · rcases h.2 with ⟨h0, h00⟩ | ⟨g, cap', cur, h0, _⟩
    · omega
    · cases h0
      refine ⟨g, 0, rfl, fun q hq => ?_⟩
      rw [Nat.zero_add, h.cellAt q hq, chL_get L q (by omega)]
      rfl

theorem set5_list : ∀ (L : List Ch) (i : Nat) (c : Ch), i < L.length →
    (((((chL L).set (i * 5) (.string c.name)).set (i * 5 + 1) (.int .i64 c.nth)).set (i * 5 + 2) (.int .i64 c.pos)).set (i * 5 + 3) (.string c.val)).set (i * 5 + 4) (.string c.who) = chL (L.set i c)
  | [], _, _, h => by simp at h
  | x :: L, 0, c, _ => by simp [chL, ch1]
  | x :: L, i + 1, c, h => by
    have ih := set5_list L i c (by simpa using h)
    have e : ∀ (k : Nat) (v : Value) (R : List Value), (ch1 x ++ R).set ((i + 1) * 5 + k) v = ch1 x ++ R.set (i * 5 + k) v := fun k v R => by
      rw [List.set_append_right _ _ (by rw [ch1_len]; omega), ch1_len, show (i + 1) * 5 + k - 5 = i * 5 + k by omega]
    show (((((ch1 x ++ chL L).set ((i + 1) * 5 + 0) _).set ((i + 1) * 5 + 1) _).set ((i + 1) * 5 + 2) _).set ((i + 1) * 5 + 3) _).set ((i + 1) * 5 + 4) _ = ch1 x ++ chL (L.set i c)
    rw [e, e, e, e, e]
    show ch1 x ++ _ = _
    rw [← ih]
    rfl

/-- What a call may have turned: the Edits' own block, the row of its changes; new blocks. -/
structure Turned (w w' : World) (E : Nat) (row : Option Nat) : Prop where
  os : w'.os = w.os
  tape : w'.tape = w.tape
  output : w'.output = w.output
  size : w.heap.size ≤ w'.heap.size
  block : ∀ k, k < w.heap.size → k ≠ E → some k ≠ row → w'.heap[k]? = w.heap[k]?

/-- What 'change' leaves. -/
def Changed (E base : Nat) (fv rv : Value) (s3 s4 s5 s6 : ByteArray) (v : Value) (L : List Ch) (c : Ch) (w : World) (x : Ending) (w' : World) : Prop :=
  x = .returned (.tuple #[]) ∧ ∃ a' cap', w'.heap[E]? = some (edBlk fv (.slice a' (put L c).length cap') rv s3 s4 s5 s6) ∧ w'.ownsRow base 41 5 (.slice a' (put L c).length cap') (put L c).length (chL (put L c)) ∧ Turned w w' E v.ownBlock

theorem grown_of_below {w w' : World} (h : Below w.heap.size w w') (row : Option Nat) : w.grownBy w' row := ⟨h.os, h.tape, h.output, h.size, fun k hk _ => h.block k hk⟩

theorem heap_set5 (w : World) (b k : Nat) (c : Ch) (j : Nat) (h : j ≠ b) : (set5 w b k c).heap[j]? = w.heap[j]? := by
  unfold set5
  rw [Below.heap_setCell _ _ _ _ h, Below.heap_setCell _ _ _ _ h, Below.heap_setCell _ _ _ _ h, Below.heap_setCell _ _ _ _ h, Below.heap_setCell _ _ _ _ h]

/-- The Edits' block is no row of changes. -/
theorem ne_own {w : World} {E base n : Nat} {fv v0 rv : Value} {s3 s4 s5 s6 : ByteArray} {v : Value} {xs : List Value} (hE : w.heap[E]? = some (edBlk fv v0 rv s3 s4 s5 s6)) (h : w.ownsRow base 41 5 v n xs) : some E ≠ v.ownBlock := by
  rcases h.2 with ⟨h0, _⟩ | ⟨g, cap', cur, h0, _, hg, _⟩
  · subst h0; intro e; cases e
  · subst h0
    intro e
    have : E = g := by injection e
    subst this
    rw [hE] at hg
    simp at hg

theorem below_box {w w' : World} {o : Obj} (h : Below (w.alloc o).drew.heap.size (w.alloc o).drew w') : Below (w.heap.size + 1) (w.alloc o) w' := by
  have e : (w.alloc o).heap.size = w.heap.size + 1 := by simp
  rw [← e]
  exact ⟨h.os, h.tape, h.output, h.size, h.block⟩

theorem own_set5 {w : World} {base g n cap : Nat} {L : List Ch} {i : Nat} (h : w.ownsRow base 41 5 (.slice (some ⟨g, 0, none⟩) n cap) n (chL L)) (hi : i < L.length) (c : Ch) :
    (set5 w g i c).ownsRow base 41 5 (.slice (some ⟨g, 0, none⟩) n cap) n (chL (L.set i c)) := by
  have h5 := (((((h.stored (i * 5) (.string c.name)).1.stored (i * 5 + 1) (.int .i64 c.nth)).1.stored (i * 5 + 2) (.int .i64 c.pos)).1.stored (i * 5 + 3) (.string c.val)).1.stored (i * 5 + 4) (.string c.who)).1
  rw [set5_list L i c hi] at h5
  exact h5

/-- 'slices.Insert' once more, its answer written out. -/
def Inserted' (base : Nat) (L : List Ch) (i : Nat) (c : Ch) (n : Nat) (v : Value) (w : World) (x : Ending) (w' : World) : Prop :=
  ∃ g cap, x = .returned (.slice (some ⟨g, 0, none⟩) (n + 1) cap) ∧ w'.ownsRow base 41 5 (.slice (some ⟨g, 0, none⟩) (n + 1) cap) (n + 1) (chL (L.take i ++ [c] ++ L.drop i)) ∧ w.grownBy w' v.ownBlock

theorem insert' (base n i vb : Nat) (a : Option Addr) (cap : Nat) (L : List Ch) (c : Ch) (w : World) (hn : L.length = n) (hn8 : n ≤ 8192) (hi : i ≤ n) (hb : base ≤ w.heap.size)
    (ho : w.ownsRow base 41 5 (.slice a n cap) n (chL L)) (hv : w.heap[vb]? = some (.cells (ch1 c).toArray 41 (0, 0))) (hvb : ∀ g, (Value.slice a n cap).ownBlock = some g → vb ≠ g) :
    Calls Try.prog 24 #[.slice a n cap, .int .i64 i, .slice (some ⟨vb, 0, none⟩) 1 1] w (Inserted' base L i c n (.slice a n cap) w) := by
  refine (insert base n i vb a cap L c w hn hn8 hi hb ho hv hvb).mono fun x w' ⟨v', hx, h1, h2⟩ => ?_
  rw [hn] at h1
  rcases h1.2 with ⟨h0, h00⟩ | ⟨g, cap', cur, h0, _⟩
  · omega
  · subst h0
    exact ⟨g, cap', hx, h1, h2⟩

theorem own_lt {w : World} {base n : Nat} {v : Value} {xs : List Value} (h : w.ownsRow base 41 5 v n xs) : ∀ g, v.ownBlock = some g → w.heap.size ≠ g := fun g hg => by
  have := (h.lt g hg).2
  omega

theorem after_ins {E base n : Nat} {fv v rv : Value} {s3 s4 s5 s6 : ByteArray} {xs : List Value} {w wc w2 : World} {o : Obj} (hE : w.heap[E]? = some (edBlk fv v rv s3 s4 s5 s6)) (hb : Below w.heap.size w wc) (ho : w.ownsRow base 41 5 v n xs) (hg : (wc.alloc o).drew.grownBy w2 v.ownBlock) :
    w2.heap[E]? = some (edBlk fv v rv s3 s4 s5 s6) := by
  have hElt : E < w.heap.size := (Array.getElem?_eq_some_iff.1 hE).1
  have hs := hb.size
  rw [hg.block E (by show E < (wc.alloc o).heap.size; simp; omega) (ne_own hE ho)]
  show (wc.alloc o).heap[E]? = _
  rw [Below.heap_alloc wc o E (by omega), hb.block E hElt, hE]

theorem fin_new {E base n cap i g2 cap2 : Nat} {fv rv : Value} {s3 s4 s5 s6 : ByteArray} {a : Option Addr} {L : List Ch} {c : Ch} {w wc w2 : World} {o : Obj} (hE : w.heap[E]? = some (edBlk fv (.slice a n cap) rv s3 s4 s5 s6)) (hn : L.length = n)
    (hb : Below w.heap.size w wc) (ho : w.ownsRow base 41 5 (.slice a n cap) n (chL L)) (hg : (wc.alloc o).drew.grownBy w2 (Value.slice a n cap).ownBlock) (AI : w2.heap[E]? = some (edBlk fv (.slice a n cap) rv s3 s4 s5 s6))
    (ho2 : w2.ownsRow base 41 5 (.slice (some ⟨g2, 0, none⟩) (n + 1) cap2) (n + 1) (chL (L.take i ++ [c] ++ L.drop i))) (hp : put L c = L.take i ++ [c] ++ L.drop i) (q : Nat) :
    Changed E base fv rv s3 s4 s5 s6 (.slice a n cap) L c w (.returned (.tuple #[])) ((w2.setCell ⟨E, 1, none⟩ (.slice (some ⟨g2, 0, none⟩) (n + 1) cap2)).drewN q) := by
  have hl : (put L c).length = n + 1 := by rw [hp]; simp; omega
  have hne : E ≠ g2 := fun e => ne_own AI ho2 (by rw [e]; rfl)
  have hs := hb.size
  have hs2 : wc.heap.size + 1 ≤ w2.heap.size := by have := hg.size; have e : (wc.alloc o).drew.heap.size = wc.heap.size + 1 := by show (wc.alloc o).heap.size = _; simp
                                                   omega
  refine ⟨rfl, some ⟨g2, 0, none⟩, cap2, ?_, ?_, ?_⟩
  · rw [hl]
    have := heap_setCell_same w2 E 1 _ 38 (.slice (some ⟨g2, 0, none⟩) (n + 1) cap2) AI
    rw [World.heap_drewN, this]
    rfl
  · rw [hl, hp]
    have h3 := ho2.kept (w' := w2.setCell ⟨E, 1, none⟩ (.slice (some ⟨g2, 0, none⟩) (n + 1) cap2)) (row := some E) ⟨rfl, rfl, rfl, by simp [World.setCell], fun k _ hk => Below.heap_setCell _ _ _ _ (fun e => hk (by rw [e]))⟩ (.inr (by simp [Value.ownBlock]; omega))
    exact h3
  · refine ⟨?_, ?_, ?_, ?_, fun k hk hkE hrow => ?_⟩
    · exact hg.os.trans hb.os
    · exact hg.tape.trans hb.tape
    · exact hg.output.trans hb.output
    · rw [World.heap_drewN]; simp [World.setCell]; omega
    · rw [World.heap_drewN, Below.heap_setCell _ _ _ _ hkE, hg.block k (by show k < (wc.alloc o).heap.size; simp; omega) hrow]
      show (wc.alloc o).heap[k]? = _
      rw [Below.heap_alloc wc o k (by omega), hb.block k hk]

theorem heap_drew' (w : World) : w.drew.heap = w.heap := rfl

theorem fin_found {E base n cap g i : Nat} {fv rv : Value} {s3 s4 s5 s6 : ByteArray} {L : List Ch} {c : Ch} {w wx : World} (hE : w.heap[E]? = some (edBlk fv (.slice (some ⟨g, 0, none⟩) n cap) rv s3 s4 s5 s6)) (hn : L.length = n)
    (ho : w.ownsRow base 41 5 (.slice (some ⟨g, 0, none⟩) n cap) n (chL L)) (hb : Below w.heap.size w wx) (hi : i < n) (hp : put L c = L.set i c) :
    Changed E base fv rv s3 s4 s5 s6 (.slice (some ⟨g, 0, none⟩) n cap) L c w (.returned (.tuple #[])) (set5 wx g i c).drew := by
  have hEg : E ≠ g := fun e => ne_own hE ho (by rw [e]; rfl)
  have hElt : E < w.heap.size := (Array.getElem?_eq_some_iff.1 hE).1
  have hl : (put L c).length = n := by rw [hp, List.length_set, hn]
  have ho1 : wx.ownsRow base 41 5 (.slice (some ⟨g, 0, none⟩) n cap) n (chL L) := ho.kept (grown_of_below hb none) (.inr (by simp [Value.ownBlock]))
  have hO := own_set5 ho1 (show i < L.length by omega) c
  rw [← hp] at hO
  have hB := fun k (hk : k ≠ g) => heap_set5 wx g i c k hk
  have hS := set5_size wx g i c
  have hBel := set5_below (Below.refl 0 wx) (Nat.zero_le g) i c
  generalize set5 wx g i c = W at hO hB hS hBel ⊢
  obtain ⟨h1, h2, h3, _, _⟩ := hBel
  refine ⟨rfl, some ⟨g, 0, none⟩, cap, ?_, ?_, ?_⟩
  · rw [hl, heap_drew', hB E hEg, hb.block E hElt, hE]
  · rw [hl]; exact hO.drew
  · refine ⟨h1.trans hb.os, h2.trans hb.tape, h3.trans hb.output, ?_, fun k hk hkE hrow => ?_⟩
    · rw [heap_drew', hS]; exact hb.size
    · rw [heap_drew', hB k (fun e => hrow (by rw [e]; rfl)), hb.block k hk]

set_option maxHeartbeats 4000000 in
set_option maxRecDepth 100000 in
theorem change (E base n cap : Nat) (fv rv : Value) (s3 s4 s5 s6 : ByteArray) (a : Option Addr) (L : List Ch) (c : Ch) (w : World) (hE : Hid (w.heap[E]? = some (edBlk fv (.slice a n cap) rv s3 s4 s5 s6))) (hn : Hid (L.length = n)) (hn8 : n ≤ 8191) (hb : base ≤ w.heap.size)
    (ho : Hid (w.ownsRow base 41 5 (.slice a n cap) n (chL L))) (hs : Hid (SortedL L)) :
    Calls Try.prog 20 #[.pointer (some ⟨E, 0, none⟩), c.agg] w (Changed E base fv rv s3 s4 s5 s6 (.slice a n cap) L c w) := by
  have hElt : E < w.heap.size := (Array.getElem?_eq_some_iff.1 hE.out).1
  have e1 : ∀ o, (w.alloc o).cell? ⟨E, 1, none⟩ = some (.slice a n cap) := fun o => by
    rw [World.cell?_alloc_lt _ _ _ hElt, cell_of hE.out]; rfl
  have hin : Hid (∀ o, In (w.alloc o) a n 5 (chF fun i => L.getD i zeroCh)) := fun o => (own_rows hn.out ho.out).below ((Below.refl _ _).alloc (Nat.le_refl _) _)
  have hst : Hid (Strict (fun i => L.getD i zeroCh) n) := by have := strict_of_sorted hs.out; rw [hn.out] at this; exact this
  go_enter Try.func20, Try.ntmps20
  go_wp2
  go_cut [4, 5] (fun si sf wx => ∃ (i : Nat) (found : Bool), si = .int .i64 i ∧ sf = .bool found ∧ Hid (Lower (fun i => L.getD i zeroCh) n c.pos i) ∧ Hid (found = true ↔ i < n ∧ (L.getD i zeroCh).pos = c.pos) ∧ Hid (Below (w.heap.size + 1) (w.alloc (chBlk c 41)) wx))
  case first =>
    go_region_with (go_at_call 21; refine (search a n cap (fun i => L.getD i zeroCh) c.pos (by omega) _ ?_ hst).mono ?_; exact hin.out _; rintro x w' ⟨i, found, rfl, hlow, hfound, hbel⟩)
    all_goals
      go_wp2
      go_meet
      case rel => exact ⟨i, found, rfl, rfl, hlow, hfound, below_box hbel⟩
  case rest =>
    obtain ⟨i, found, rfl, rfl, hlow, hfound, hbel⟩ := hcut
    have hBw : Hid (Below w.heap.size w wc) := ((Below.refl _ _).alloc (Nat.le_refl _) _).trans (hbel.out.mono (by omega))
    have E1 : wc.cell? ⟨E, 1, none⟩ = some (.slice a n cap) := (hbel.out.cell (p := ⟨E, 1, none⟩) (by show E < _; omega)).trans (e1 _)
    have x0 : wc.cell? ⟨w.heap.size, 0, none⟩ = some (.string c.name) := (hbel.out.cell (p := ⟨w.heap.size, 0, none⟩) (by show w.heap.size < _; omega)).trans (by rw [cell_of (heap_alloc_new w _)]; rfl)
    have x1 : wc.cell? ⟨w.heap.size, 1, none⟩ = some (.int .i64 c.nth) := (hbel.out.cell (p := ⟨w.heap.size, 1, none⟩) (by show w.heap.size < _; omega)).trans (by rw [cell_of (heap_alloc_new w _)]; rfl)
    have x2 : wc.cell? ⟨w.heap.size, 2, none⟩ = some (.int .i64 c.pos) := (hbel.out.cell (p := ⟨w.heap.size, 2, none⟩) (by show w.heap.size < _; omega)).trans (by rw [cell_of (heap_alloc_new w _)]; rfl)
    have x3 : wc.cell? ⟨w.heap.size, 3, none⟩ = some (.string c.val) := (hbel.out.cell (p := ⟨w.heap.size, 3, none⟩) (by show w.heap.size < _; omega)).trans (by rw [cell_of (heap_alloc_new w _)]; rfl)
    have x4 : wc.cell? ⟨w.heap.size, 4, none⟩ = some (.string c.who) := (hbel.out.cell (p := ⟨w.heap.size, 4, none⟩) (by show w.heap.size < _; omega)).trans (by rw [cell_of (heap_alloc_new w _)]; rfl)
    clear e1 hin
    cases found with
    | true =>
      obtain ⟨hi, hp0⟩ := hfound.out.1 rfl
      obtain ⟨g, hg⟩ : ∃ g, a = some ⟨g, 0, none⟩ := by
        rcases ho.out.2 with ⟨h0, h00⟩ | ⟨g, cap', cur, h0, _⟩
        · omega
        · cases h0; exact ⟨g, rfl⟩
      subst hg
      have FI : Hid (Changed E base fv rv s3 s4 s5 s6 (.slice (some ⟨g, 0, none⟩) n cap) L c w (.returned (.tuple #[])) (set5 wc g i c).drew) := fin_found hE.out hn.out ho.out hBw.out hi (put_found L c i hlow.out.2.1 (by have := hn.out; omega) hp0)
      obtain ⟨b', o', hbo, hrow⟩ := (own_rows hn.out (ho.out.kept (grown_of_below hBw.out none) (.inr (by simp [Value.ownBlock])))).2 (by omega)
      cases hbo
      obtain ⟨q0, q1, q2, q3, q4⟩ := ch5 hrow hi
      simp only [Nat.zero_add] at q0 q1 q2 q3 q4
      have hfz := fun j => (ho.out.kept (grown_of_below hBw.out none) (.inr (by simp [Value.ownBlock]))).frozenAt j
      have z0 := hfz (i * 5)
      have z1 := hfz (i * 5 + 1)
      have z2 := hfz (i * 5 + 2)
      have z3 := hfz (i * 5 + 3)
      have z4 := hfz (i * 5 + 4)
      have bi : (i : Int) < (n : Int) := by omega
      clear hfz hrow hp0
      go_wp2
      go_region
      all_goals
        go_wp2
        go_end0
        exact FI.out
    | false =>
      have hnf : ¬ (i < n ∧ (L.getD i zeroCh).pos = c.pos) := fun h => by have := hfound.out.2 h; cases this
      have hput := put_new L c i (by have := hlow.out.1; have := hn.out; omega) hlow.out.2.1 (fun h => by have h1 := hlow.out.2.2 i (Nat.le_refl _) (by have := hn.out; omega); have h2 : ¬ (L.getD i zeroCh).pos = c.pos := fun e => hnf ⟨by have := hn.out; omega, e⟩; simp only at h1; omega)
      have HP : Hid (put L c = L.take i ++ [c] ++ L.drop i) := hput
      have hi : i ≤ n := hlow.out.1
      have oW : Hid (wc.ownsRow base 41 5 (.slice a n cap) n (chL L)) := ho.out.kept (grown_of_below hBw.out none) (by
        rcases ho.out.2 with ⟨h0, h00⟩ | ⟨g, cap', cur, h0, _⟩
        · left; rw [h0]; rfl
        · right; rw [h0]; simp [Value.ownBlock])
      clear hput hnf
      have hEc : E < wc.heap.size := Nat.lt_of_lt_of_le hElt hBw.out.size
      have E1a : ∀ o, (wc.alloc o).cell? ⟨E, 1, none⟩ = some (.slice a n cap) := fun o => by rw [World.cell?_alloc_lt _ _ _ hEc]; exact E1
      go_wp2
      go_region_with (go_at_call 24; go_must (refine (insert' base n i wc.heap.size a cap L c _ hn.out (by omega) hi ?_ ?_ ?_ ?_).mono ?_; exact Nat.le_trans hb (Nat.le_trans hBw.out.size (by simp)); exact (oW.out.alloc _).drew; exact heap_alloc_new wc _; exact own_lt oW.out; rintro x w2 ⟨g2, cap2, rfl, ho2, hg2⟩; have AI := after_ins hE.out hBw.out ho.out hg2; have E2 : w2.cell? ⟨E, 1, none⟩ = some (.slice a n cap) := cell_of AI 1; have F2 := frozen_of AI 1; have FI : Hid (∀ q, Changed E base fv rv s3 s4 s5 s6 (.slice a n cap) L c w (.returned (.tuple #[])) ((w2.setCell ⟨E, 1, none⟩ (.slice (some ⟨g2, 0, none⟩) (n + 1) cap2)).drewN q)) := fun q => fin_new hE.out hn.out hBw.out ho.out hg2 AI ho2 HP.out q; clear AI ho2 hg2))
      all_goals
        go_wp2
        go_end0
        exact FI.out 0

end Go.Proofs.Qxb6623453a
