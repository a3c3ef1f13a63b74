/- The law. -/
import Derived.Test.Qxb6617469aAnc
import Derived.Test.Qxb6617469aCopy
namespace Go.Proofs.Qxb6617469a
open Go.ChangeShapes Go.WideShapes Go.ChangeAt Go.RowKit
set_option linter.unusedVariables false

theorem Try.info25 : (Try.prog.info? 25).map (fun i => (i.zero, i.size, i.bytes)) = some (some (.agg #[.int .i32 0, .int .i32 0]), 2, 8) := by kernel_rfl
theorem Try.size25 : (Try.prog.info? 25).map (·.size) = some 2 := by kernel_rfl
theorem Try.size21 : (Try.prog.info? 21).map (·.size) = some 1 := by kernel_rfl

def made2 (n : Nat) : Array Value := madeCells (Value.agg #[.int .i32 0, .int .i32 0]).cells (n * 2)
theorem made2_size (n : Nat) : (made2 n).size = n * 2 := size_madeCells _ _
def made1 (n : Nat) : Array Value := madeCells #[.int .i32 0] n
theorem made1_size (n : Nat) : (made1 n).size = n * 1 := by rw [Nat.mul_one]; exact size_madeCells _ _

theorem run_make_pairs (n : Nat) (hn : n ≤ 4096) (w : World) : (Instr.makeSlice 22 (.int .i64 n) (.int .i64 n)).run Try.prog w = .ok (.slice (some ⟨w.heap.size, 0, none⟩) n n) (w.alloc (.cells (made2 n) 25)) := by
  obtain ⟨i0, hi, hz0, hz1, hz2⟩ := info_parts Try.info25
  have := run_make (P := Try.prog) w 22 25 i0 _ Try.underlying22 hi hz0 .i64 .i64 n n (by omega) (by omega) (by rw [hz2]; omega) (by omega)
  simpa [hz1, made2] using this

theorem run_make_ints (n : Nat) (hn : n ≤ 4096) (w : World) : (Instr.makeSlice 23 (.int .i64 n) (.int .i64 n)).run Try.prog w = .ok (.slice (some ⟨w.heap.size, 0, none⟩) n n) (w.alloc (.cells (made1 n) 21)) :=
  run_make_row' (P := Try.prog) 23 21 (.int .i32 0) 4 Try.underlying23 Try.info21 rfl .i64 .i64 n (by omega) (by omega) w

/-- A slice that came in, of [2]int32: nil and empty, or with its cells. -/
def In2 (w : World) (a : Option Addr) (l : Nat) (f g : Nat → Int) : Prop := (a = none → l = 0) ∧ (0 < l → ∃ b o, a = some ⟨b, o, none⟩ ∧ P32At w b o l f g)
def In1 (w : World) (a : Option Addr) (l : Nat) (f : Nat → Int) : Prop := (a = none → l = 0) ∧ (0 < l → ∃ b o, a = some ⟨b, o, none⟩ ∧ I32At w b o l f)

theorem I32At.below {w w' : World} {b off n : Nat} {f : Nat → Int} (h : I32At w b off n f) (hb : Below w.heap.size w w') : I32At w' b off n f :=
  fun i hi => (hb.cell (cell_lt (h i hi))).trans (h i hi)
theorem P32At.below {w w' : World} {b off n : Nat} {f g : Nat → Int} (h : P32At w b off n f g) (hb : Below w.heap.size w w') : P32At w' b off n f g :=
  fun i hi => ⟨(hb.cell (cell_lt (h i hi).1)).trans (h i hi).1, (hb.cell (cell_lt (h i hi).2)).trans (h i hi).2⟩

/-- .. and once it was copied. -/
def Now2 (w : World) (a : Option Addr) (l : Nat) (f g : Nat → Int) : Prop := 0 < l → ∃ b, a = some ⟨b, 0, none⟩ ∧ P32At w b 0 l f g
def Now1 (w : World) (a : Option Addr) (l : Nat) (f : Nat → Int) : Prop := 0 < l → ∃ b, a = some ⟨b, 0, none⟩ ∧ I32At w b 0 l f

theorem reads_of {w3 wX : World} {ba s e s' e' : Nat} {H : Hist} {a0 a1 a2 : Option Addr} {l0 l1 l2 : Nat} (n0 : Now2 w3 a0 l0 H.I0 H.I1) (n1 : Now1 w3 a1 l1 H.C) (n2 : Now1 w3 a2 l2 H.P) (hF : Fits H s e)
    (p0 : e ≤ l0) (p1 : e ≤ l1) (p2 : e ≤ l2) (hb : Below w3.heap.size w3 wX) (hba : w3.heap.size ≤ ba) (hs : s ≤ s') (he : e' ≤ e) : Reads wX ba H s' e' a0 a1 a2 l0 l1 l2 := by
  intro hlt
  obtain ⟨b0, rfl, t0⟩ := n0 (by omega)
  obtain ⟨b1, rfl, t1⟩ := n1 (by omega)
  obtain ⟨b2, rfl, t2⟩ := n2 (by omega)
  have x0 := cell_lt (t0 0 (by omega)).1
  have x1 := cell_lt (t1 0 (by omega))
  have x2 := cell_lt (t2 0 (by omega))
  simp only at x0 x1 x2
  exact ⟨by omega, by omega, by omega, ⟨b0, 0, rfl, by omega, t0.below hb⟩, ⟨b1, 0, rfl, by omega, t1.below hb⟩, ⟨b2, 0, rfl, by omega, t2.below hb⟩, fun i h1 h2 => hF i (by omega) (by omega)⟩

theorem row_at {w : World} {b n : Nat} {f : Nat → Int} (h : w.rowIs b 21 n (fun j => .int .i32 (f j))) : I32At w b 0 n f := fun i hi => by
  rw [Nat.zero_add]; exact h.cell hi

theorem I32At.same {w w' : World} {b off n : Nat} {f : Nat → Int} (h : I32At w b off n f) (hs : Same w w') : I32At w' b off n f := fun i hi => by rw [hs.cell]; exact h i hi

theorem fwd_cut {H : Hist} {L : Nat → Int} {s m e : Nat} (h1 : s ≤ m) (h2 : m ≤ e) {j : Nat} : fwd H (fwd H L s (m - s)) m (e - m) j = fwd H L s (e - s) j := by
  have := fwd_add H L s (m - s) (e - m)
  rw [show s + (m - s) = m by omega, show m - s + (e - m) = e - s by omega] at this
  rw [this]

set_option maxHeartbeats 4000000 in
set_option maxRecDepth 100000 in
theorem lawMain (a0 a1 a2 : Option Addr) (l0 c0 l1 c1 l2 c2 bl ol l3 c3 : Nat) (H : Hist) (s m e : Nat) (L : Nat → Int) (w : World) (q0 : l0 ≤ 4096) (q1 : l1 ≤ 4096) (q2 : l2 ≤ 4096) (q3 : l3 ≤ 4097) (r1 : s ≤ m) (r2 : m ≤ e)
    (p0 : e ≤ l0) (p1 : e ≤ l1) (p2 : e ≤ l2) (p3 : e < l3) (h0 : Hid (In2 w a0 l0 H.I0 H.I1)) (h1 : Hid (In1 w a1 l1 H.C)) (h2 : Hid (In1 w a2 l2 H.P)) (h3 : Hid (I32At w bl ol l3 L)) :
    Calls Try.prog 3 #[.slice a0 l0 c0, .slice a1 l1 c1, .slice a2 l2 c2, .slice (some ⟨bl, ol, none⟩) l3 c3, .int .i32 H.t, .int .i32 s, .int .i32 m, .int .i32 e] w fun x w' => x = .returned (.bool true) ∧ Below w.heap.size w w' := by
  have hmk0 := run_make_pairs l0 q0
  have hmk1 := run_make_ints l1 q1
  have hmk2 := run_make_ints l2 q2
  have hne := fun w a l c => run_neq_slice_nil_any (P := Try.prog) w 22 25 a l c 0 0 Try.underlying22
  have hne' := fun w a l c => run_neq_slice_nil_any (P := Try.prog) w 23 21 a l c 0 0 Try.underlying23
  go_enter Try.func3, Try.ntmps3
  go_wp2_with fail
  refine (bytes _ _ _ _ _ _ _ _ _ _ _ _ _ _ _ _ _ (by unfold maxLen; omega) (by unfold maxLen; omega) (by unfold maxLen; omega) (by unfold maxLen; omega)).mono ?_
  rintro x w' ⟨r, rfl, rfl⟩
  cases r
  · go_wp2
    go_ret
    exact ⟨rfl, Below.refl _ _⟩
  obtain ⟨w, rfl⟩ : ∃ w0 : World, w0 = w' := ⟨_, rfl⟩
  go_upto_if 91 with (fail)
  go_cut [0] (fun v wx => ∃ a c, v = .slice a l0 c ∧ Hid (Now2 wx a l0 H.I0 H.I1) ∧ Hid (Below w.heap.size w wx))
  case first =>
    cases a0 with
    | none =>
      go_wp2
      go_meet
      case rel => exact ⟨_, _, rfl, (fun h => absurd h (by have := h0.out.1 rfl; omega)), Below.refl _ _⟩
    | some x =>
      have hp : 0 < l0 → ∃ ad, some x = some ad ∧ ∀ j v, (cells2 l0 H.I0 H.I1)[j]? = some v → (w.alloc (.cells (made2 l0) 25)).cell? (ad.add j) = some v := fun h => by
        obtain ⟨b, o, e1, h4⟩ := h0.out.2 h
        cases e1
        exact ⟨_, rfl, cells2_src h4 _⟩
      have hcp := run_copy_new (P := Try.prog) w 22 22 3 25 2 l0 l0 (some x) c0 (made2 l0) 25 (cells2 l0 H.I0 H.I1) Try.underlying22 Try.size25 (made2_size _) (cells2_len _ _ _) hp (cells2_one _ _ _)
      clear hp
      go_wp2
      go_meet
      case rel => exact ⟨_, _, rfl, (fun _ => ⟨w.heap.size, rfl, cells2_at _ _ _ _ _⟩), (Below.refl _ _).alloc (Nat.le_refl _) _⟩
  case rest =>
    obtain ⟨a0', c0', rfl, n0, k0⟩ := hcut
    clear h0 hmk0 hne
    obtain ⟨w1, rfl⟩ : ∃ wi : World, wi = wc := ⟨_, rfl⟩
    go_upto_if 100 with (fail)
    go_cut [1] (fun v wx => ∃ a c, v = .slice a l1 c ∧ Hid (Now1 wx a l1 H.C) ∧ Hid (Below w1.heap.size w1 wx))
    case first =>
      cases a1 with
      | none =>
        go_wp2
        go_meet
        case rel => exact ⟨_, _, rfl, (fun h => absurd h (by have := h1.out.1 rfl; omega)), Below.refl _ _⟩
      | some x =>
        have hp : 0 < l1 → ∃ ad, some x = some ad ∧ ∀ j v, (cells1 l1 H.C)[j]? = some v → (w1.alloc (.cells (made1 l1) 21)).cell? (ad.add j) = some v := fun h => by
          obtain ⟨b, o, e1, h4⟩ := h1.out.2 h
          cases e1
          exact ⟨_, rfl, cells1_src (h4.below k0.out) _⟩
        have hcp := run_copy_new (P := Try.prog) w1 23 23 3 21 1 l1 l1 (some x) c1 (made1 l1) 21 (cells1 l1 H.C) Try.underlying23 Try.size21 (made1_size _) (cells1_len _ _) hp (cells1_one _ _)
        clear hp
        go_wp2
        go_meet
        case rel => exact ⟨_, _, rfl, (fun _ => ⟨w1.heap.size, rfl, cells1_at _ _ _ _⟩), (Below.refl _ _).alloc (Nat.le_refl _) _⟩
    case rest =>
      obtain ⟨a1', c1', rfl, n1, k1⟩ := hcut
      clear h1 hmk1
      obtain ⟨w2, rfl⟩ : ∃ wi : World, wi = wc := ⟨_, rfl⟩
      go_upto_if 109 with (fail)
      go_cut [2] (fun v wx => ∃ a c, v = .slice a l2 c ∧ Hid (Now1 wx a l2 H.P) ∧ Hid (Below w2.heap.size w2 wx))
      case first =>
        cases a2 with
        | none =>
          go_wp2
          go_meet
          case rel => exact ⟨_, _, rfl, (fun h => absurd h (by have := h2.out.1 rfl; omega)), Below.refl _ _⟩
        | some x =>
          have hp : 0 < l2 → ∃ ad, some x = some ad ∧ ∀ j v, (cells1 l2 H.P)[j]? = some v → (w2.alloc (.cells (made1 l2) 21)).cell? (ad.add j) = some v := fun h => by
            obtain ⟨b, o, e1, h4⟩ := h2.out.2 h
            cases e1
            exact ⟨_, rfl, cells1_src ((h4.below k0.out).below k1.out) _⟩
          have hcp := run_copy_new (P := Try.prog) w2 23 23 3 21 1 l2 l2 (some x) c2 (made1 l2) 21 (cells1 l2 H.P) Try.underlying23 Try.size21 (made1_size _) (cells1_len _ _) hp (cells1_one _ _)
          clear hp
          go_wp2
          go_meet
          case rel => exact ⟨_, _, rfl, (fun _ => ⟨w2.heap.size, rfl, cells1_at _ _ _ _⟩), (Below.refl _ _).alloc (Nat.le_refl _) _⟩
      case rest =>
        obtain ⟨a2', c2', rfl, n2, k2⟩ := hcut
        clear h2 hmk2 hne'
        obtain ⟨w3, rfl⟩ : ∃ wi : World, wi = wc := ⟨_, rfl⟩
        have kk : Hid (Below w.heap.size w w3) := (k0.out.trans (k1.out.mono k0.out.size)).trans (k2.out.mono (Nat.le_trans k0.out.size k1.out.size))
        have N0 : Hid (Now2 w3 a0' l0 H.I0 H.I1) := fun h => by
          obtain ⟨b, e1, q⟩ := n0.out h
          exact ⟨b, e1, (q.below k1.out).below k2.out⟩
        have N1 : Hid (Now1 w3 a1' l1 H.C) := fun h => by
          obtain ⟨b, e1, q⟩ := n1.out h
          exact ⟨b, e1, q.below k2.out⟩
        have HL : Hid (I32At w3 bl ol l3 L) := h3.out.below kk.out
        have hbl : bl < w3.heap.size := by have := cell_lt (HL.out 0 (by omega)); exact this
        clear n0 n1 k0 k1 k2 h3
        go_wp2
        go_loop [20] (fun i => ∃ k : Nat, s ≤ k ∧ k ≤ e ∧ i = .int .i32 k ∧ Hid (Fits H s k)) (fun i => e - (intOf i).toNat)
        case atStart => exact ⟨s, Nat.le_refl _, by omega, rfl, fun i h1 h2 => by omega⟩
        case round =>
          obtain ⟨k, hk1, hk2, rfl, hF⟩ := hrel
          by_cases hlt : k < e
          · obtain ⟨b, rfl, t0⟩ := N0.out (by omega)
            have c1 := (t0 k (by omega)).1
            have c2 := (t0 k (by omega)).2
            rw [Nat.zero_add] at c1 c2
            have b0 : (k : Int) < (l0 : Int) := by omega
            clear t0
            have hcase : H.I0 k < 0 ∨ (0 ≤ H.I0 k ∧ (k : Int) < H.I0 k) ∨ (0 ≤ H.I0 k ∧ H.I0 k ≤ k ∧ H.I1 k < 0) ∨ (0 ≤ H.I0 k ∧ H.I0 k ≤ k ∧ 0 ≤ H.I1 k ∧ (k : Int) < H.I1 k) ∨ (0 ≤ H.I0 k ∧ H.I0 k ≤ k ∧ 0 ≤ H.I1 k ∧ H.I1 k ≤ k) := by omega
            rcases hcase with d | ⟨d, d1⟩ | ⟨d, d1, d2⟩ | ⟨d, d1, d2, d3⟩ | ⟨d, d1, d2, d3⟩
            · go_wp2
              go_ret
              exact ⟨rfl, kk.out⟩
            · go_wp2
              go_ret
              exact ⟨rfl, kk.out⟩
            · go_wp2
              go_ret
              exact ⟨rfl, kk.out⟩
            · go_wp2
              go_ret
              exact ⟨rfl, kk.out⟩
            · go_wp2
              go_round
              case rel => exact ⟨k + 1, by omega, by omega, by go_num, fun i h1 h2 => by
                by_cases ei : i = k
                · subst ei; exact ⟨d, d1, d2, d3⟩
                · exact hF.out i h1 (by omega)⟩
              case measure => simp [intOf]; omega
          · obtain rfl : k = e := by omega
            have RD : Hid (∀ (wX : World) (ba s' e' : Nat), Below w3.heap.size w3 wX → w3.heap.size ≤ ba → s ≤ s' → e' ≤ k → Reads wX ba H s' e' a0' a1' a2' l0 l1 l2) := fun wX ba s' e' hb hba hs' he' => reads_of N0.out N1.out n2.out hF.out p0 p1 p2 hb hba hs' he'
            clear N0 N1 n2
            go_wp2_with fail
            refine (copy32 bl ol l3 c3 L q3 w3 hbl HL.out).mono ?_
            rintro x w4 ⟨rfl, hR4, hB4, hz4⟩
            have z4 : w3.heap.size < w4.heap.size := by omega
            have R4 : Hid (w4.rowIs w3.heap.size 21 l3 (fun i => .int .i32 (L i))) := hR4
            have B4 : Hid (Below w3.heap.size w3 w4) := hB4
            clear hR4 hB4 hz4
            go_wp2_with fail
            refine (copy32 bl ol l3 c3 L q3 w4 (by omega) (HL.out.below B4.out)).mono ?_
            rintro x w5 ⟨rfl, hR5, hB5, hz5⟩
            have z5 : w4.heap.size < w5.heap.size := by omega
            have R5 : Hid (w5.rowIs w4.heap.size 21 l3 (fun i => .int .i32 (L i))) := hR5
            have R5a : Hid (w5.rowIs w3.heap.size 21 l3 (fun i => .int .i32 (L i))) := R4.out.of_block (hB5.block _ z4)
            have B5 : Hid (Below w3.heap.size w3 w5) := B4.out.trans (hB5.mono (by omega))
            clear hR5 hB5 hz5 R4 B4
            go_wp2_with fail
            refine (zzfo a0' a1' a2' l0 c0' l1 c1' l2 c2' w3.heap.size l3 l3 H s m L w5 r1 (by omega) (by omega) R5a.out (RD.out _ _ _ _ B5.out (Nat.le_refl _) (Nat.le_refl _) (by omega))).mono ?_
            rintro x w6 ⟨rfl, hG6, hR6⟩
            have R6a : Hid (w6.rowIs w3.heap.size 21 l3 (fun j => .int .i32 (fwd H L s (m - s) j))) := hR6
            have R6 : Hid (w6.rowIs w4.heap.size 21 l3 (fun i => .int .i32 (L i))) := R5.out.of_block (hG6.block _ z5 (by simp; omega))
            have B6 : Hid (Below w3.heap.size w3 w6) := B5.out.grown hG6 (by omega) (fun q hq => by cases hq; omega)
            have z6 : w4.heap.size < w6.heap.size := Nat.lt_of_lt_of_le z5 hG6.size
            clear hG6 hR6 R5 R5a B5
            go_wp2_with fail
            refine (zzfo a0' a1' a2' l0 c0' l1 c1' l2 c2' w3.heap.size l3 l3 H m k (fwd H L s (m - s)) w6 r2 (by omega) (by omega) R6a.out (RD.out _ _ _ _ B6.out (Nat.le_refl _) (by omega) (by omega))).mono ?_
            rintro x w7 ⟨rfl, hG7, hR7⟩
            have R7a : Hid (w7.rowIs w3.heap.size 21 l3 (fun j => .int .i32 (fwd H L s (k - s) j))) := hR7.congr (fun i _ => by rw [fwd_cut r1 r2])
            have R7 : Hid (w7.rowIs w4.heap.size 21 l3 (fun i => .int .i32 (L i))) := R6.out.of_block (hG7.block _ z6 (by simp; omega))
            have B7 : Hid (Below w3.heap.size w3 w7) := B6.out.grown hG7 (by omega) (fun q hq => by cases hq; omega)
            have z7 : w4.heap.size < w7.heap.size := Nat.lt_of_lt_of_le z6 hG7.size
            clear hG7 hR7 R6 R6a B6
            go_wp2_with fail
            refine (zzfo a0' a1' a2' l0 c0' l1 c1' l2 c2' w4.heap.size l3 l3 H s k L w7 (by omega) (by omega) (by omega) R7.out (RD.out _ _ _ _ B7.out (by omega) (Nat.le_refl _) (Nat.le_refl _))).mono ?_
            rintro x w8 ⟨rfl, hG8, hR8⟩
            have R8 : Hid (w8.rowIs w4.heap.size 21 l3 (fun j => .int .i32 (fwd H L s (k - s) j))) := hR8
            have R8a : Hid (w8.rowIs w3.heap.size 21 l3 (fun j => .int .i32 (fwd H L s (k - s) j))) := R7a.out.of_block (hG8.block _ (by omega) (by simp; omega))
            have B8 : Hid (Below w3.heap.size w3 w8) := B7.out.grown hG8 (by omega) (fun q hq => by cases hq; omega)
            have z8 : w4.heap.size < w8.heap.size := Nat.lt_of_lt_of_le z7 hG8.size
            clear hG8 hR8 R7 R7a B7
            go_wp2_with fail
            refine (am a0' a1' a2' l0 c0' l1 c1' l2 c2' bl ol l3 c3 H s k L w8 (by omega) (by omega) (by omega) q3 (by omega) (HL.out.below B8.out) (RD.out _ _ _ _ B8.out (by omega) (Nat.le_refl _) (Nat.le_refl _))).mono ?_
            rintro x w9 ⟨rfl, hR9, hB9⟩
            have R9 : Hid (I32At w9 w8.heap.size 0 l3 (fun j => fwd H L s (k - s) j)) := row_at hR9
            have R9b : Hid (I32At w9 w4.heap.size 0 l3 (fun j => fwd H L s (k - s) j)) := row_at (R8.out.of_block (hB9.block _ z8))
            have R9a : Hid (I32At w9 w3.heap.size 0 l3 (fun j => fwd H L s (k - s) j)) := row_at (R8a.out.of_block (hB9.block _ (by omega)))
            have B9 : Hid (Below w3.heap.size w3 w9) := B8.out.trans (hB9.mono (by omega))
            clear hR9 hB9 R8 R8a B8
            go_wp2_with fail
            refine (equal32 w4.heap.size 0 l3 w8.heap.size 0 l3 l3 _ _ q3 (fun _ _ => rfl) w9 R9b.out R9.out).mono ?_
            rintro x w10 ⟨rfl, hS⟩
            have S10 : Hid (Same w9 w10) := hS
            clear hS
            go_wp2_with fail
            refine (equal32 w3.heap.size 0 l3 w8.heap.size 0 l3 l3 _ _ q3 (fun _ _ => rfl) w10 (R9a.out.same S10.out) (R9.out.same S10.out)).mono ?_
            rintro x w11 ⟨rfl, hS⟩
            have S11 : Hid (Same w10 w11) := hS
            clear hS
            go_wp2
            go_ret
            exact ⟨rfl, kk.out.trans ((((B9.out.trans (S10.out.below _)).trans (S11.out.below _))).mono kk.out.size)⟩

end Go.Proofs.Qxb6617469a
