/- 'forwardOver' and 'ZZForwardOver'. -/
import Derived.Test.Qxb6617469aBase
import Derived.Test.Qxb6617469aPlain
namespace Go.Proofs.Qxb6617469a
open Go.ChangeShapes Go.WideShapes Go.ChangeAt Go.RowKit

/-- A row of [2]int32 that is read. -/
def P32At (w : World) (b off n : Nat) (f g : Nat → Int) : Prop := ∀ i, i < n → w.cell? ⟨b, off + i * 2, none⟩ = some (.int .i32 (f i)) ∧ w.cell? ⟨b, off + i * 2 + 1, none⟩ = some (.int .i32 (g i))

theorem I32At.grown {w w' : World} {row : Option Nat} {b off n : Nat} {f : Nat → Int} (h : I32At w b off n f) (hg : w.grownBy w' row) (hne : some b ≠ row) : I32At w' b off n f :=
  fun i hi => hg.cell (h i hi) hne
theorem P32At.grown {w w' : World} {row : Option Nat} {b off n : Nat} {f g : Nat → Int} (h : P32At w b off n f g) (hg : w.grownBy w' row) (hne : some b ≠ row) : P32At w' b off n f g :=
  fun i hi => ⟨hg.cell (h i hi).1 hne, hg.cell (h i hi).2 hne⟩

theorem grown_trans {a b c : World} {row : Option Nat} (h : a.grownBy b row) (k : b.grownBy c row) : a.grownBy c row :=
  ⟨k.os.trans h.os, k.tape.trans h.tape, k.output.trans h.output, Nat.le_trans h.size k.size, fun i hi hne => (k.block i (Nat.lt_of_lt_of_le hi h.size) hne).trans (h.block i hi hne)⟩
theorem grown_setCell (w : World) (b o : Nat) (v : Value) : w.grownBy (w.setCell ⟨b, o, none⟩ v) (some b) :=
  ⟨rfl, rfl, rfl, by simp [World.setCell], fun k _ hne => Below.heap_setCell _ _ _ _ (fun e => hne (by rw [e]))⟩
theorem grown_drewN {a b : World} {row : Option Nat} (h : a.grownBy b row) (n : Nat) : a.grownBy (b.drewN n) row := ⟨h.os, h.tape, h.output, h.size, h.block⟩
theorem grown_drew {a b : World} {row : Option Nat} (h : a.grownBy b row) : a.grownBy b.drew row := ⟨h.os, h.tape, h.output, h.size, h.block⟩

/-- The slices that 'forwardOver' reads, wherever it reads at all. -/
def Reads (w : World) (ba : Nat) (H : Hist) (s e : Nat) (ai ac ap : Option Addr) (li lc lp : Nat) : Prop :=
  s < e → e ≤ li ∧ e ≤ lc ∧ e ≤ lp ∧ (∃ b o, ai = some ⟨b, o, none⟩ ∧ b ≠ ba ∧ P32At w b o li H.I0 H.I1) ∧ (∃ b o, ac = some ⟨b, o, none⟩ ∧ b ≠ ba ∧ I32At w b o lc H.C) ∧ (∃ b o, ap = some ⟨b, o, none⟩ ∧ b ≠ ba ∧ I32At w b o lp H.P) ∧
    ∀ i, s ≤ i → i < e → 0 ≤ H.I0 i ∧ H.I0 i ≤ i ∧ 0 ≤ H.I1 i ∧ H.I1 i ≤ i

set_option maxHeartbeats 4000000 in
theorem fo (E : Nat) (ai ac ap : Option Addr) (li ci lc cc lp cp ba n ca : Nat) (H : Hist) (s e : Nat) (L : Nat → Int) (w : World) (hs : s ≤ e) (he : e ≤ 4096) (hn : e < n) (hEa : E ≠ ba)
    (e0 : w.cell? ⟨E, 0, none⟩ = some (.slice ai li ci)) (e1 : w.cell? ⟨E, 1, none⟩ = some (.slice ac lc cc))
    (e2 : w.cell? ⟨E, 2, none⟩ = some (.slice ap lp cp)) (e4 : w.cell? ⟨E, 4, none⟩ = some (.slice (some ⟨ba, 0, none⟩) n ca))
    (hrow : w.rowIs ba 21 n (fun j => .int .i32 (L j))) (hr : Hid (Reads w ba H s e ai ac ap li lc lp)) :
    Calls Try.prog 9 #[.pointer (some ⟨E, 0, none⟩), .int .i32 H.t, .int .i32 s, .int .i32 e] w fun x w' => x = .returned (.tuple #[]) ∧ w.grownBy w' (some ba) ∧ w'.rowIs ba 21 n (fun j => .int .i32 (fwd H L s (e - s) j)) := by
  go_enter Try.func9, Try.ntmps9
  go_wp2
  go_loopw [9] (fun i wr => ∃ k : Nat, s ≤ k ∧ k ≤ e ∧ i = .int .i32 k ∧ Hid (w.grownBy wr (some ba)) ∧ Hid (wr.rowIs ba 21 n (fun j => .int .i32 (fwd H L s (k - s) j)))) (fun i _ => e - (intOf i).toNat)
  case atStart => exact ⟨s, Nat.le_refl _, hs, rfl, World.grownBy.refl _ _, by rw [Nat.sub_self]; exact hrow⟩
  case round =>
    obtain ⟨k, hk1, hk2, rfl, hg, hR⟩ := hrel
    by_cases hlt : k < e
    · obtain ⟨g1, g2, g3, ⟨bi, oi, rfl, ni, ti⟩, ⟨bc, oc, rfl, nc, tc⟩, ⟨bp, op, rfl, np, tp⟩, hin⟩ := hr.out (by omega)
      have E0 := hg.out.cell e0 (by simpa using hEa)
      have E1 := hg.out.cell e1 (by simpa using hEa)
      have E2 := hg.out.cell e2 (by simpa using hEa)
      have q0 := hg.out.cell (ti k (by omega)).1 (by simpa using ni)
      have q1 := hg.out.cell (ti k (by omega)).2 (by simpa using ni)
      have qc := hg.out.cell (tc k (by omega)) (by simpa using nc)
      have qp := hg.out.cell (tp k (by omega)) (by simpa using np)
      obtain ⟨r0, r0', r1, r1'⟩ := hin k hk1 hlt
      have hj : (k : Int) < (li : Int) := by omega
      have hj' : (k : Int) < (lc : Int) := by omega
      have hj'' : (k : Int) < (lp : Int) := by omega
      have hj0 : H.I0 k < (n : Int) := by omega
      have hj1 : H.I1 k < (n : Int) := by omega
      have hk' : (k : Int) + 1 < (n : Int) := by omega
      have z0 := hR.out.cell (i := (H.I0 k).toNat) (by omega)
      have z1 := hR.out.cell (i := (H.I1 k).toNat) (by omega)
      have zk := hR.out.cell (i := k + 1) (by omega)
      have zf := hR.out.frozen (k + 1)
      obtain ⟨A, hA⟩ : ∃ A, A = fwd H L s (k - s) (H.I0 k).toNat := ⟨_, rfl⟩
      obtain ⟨B, hB⟩ : ∃ B, B = fwd H L s (k - s) (H.I1 k).toNat := ⟨_, rfl⟩
      simp only [← hA] at z0
      simp only [← hB] at z1
      have HA : Hid (A = fwd H L s (k - s) (H.I0 k).toNat ∧ B = fwd H L s (k - s) (H.I1 k).toNat) := ⟨hA, hB⟩
      clear hA hB ti tc tp hin
      have fin : ∀ x, x = step H (fwd H L s (k - s)) k → Hid (w.grownBy (wr.setCell ⟨ba, k + 1, none⟩ (.int .i32 x)).drew (some ba)) ∧ Hid ((wr.setCell ⟨ba, k + 1, none⟩ (.int .i32 x)).drew.rowIs ba 21 n (fun j => .int .i32 (fwd H L s (k + 1 - s) j))) := by
        intro x hx
        refine ⟨grown_drew (grown_trans hg.out (grown_setCell _ _ _ _)), ?_⟩
        have := hR.out.set (k + 1) (.int .i32 x)
        refine World.rowIs.congr (f := fun j => if j = k + 1 then .int .i32 x else .int .i32 (fwd H L s (k - s) j)) this fun j _ => ?_
        have e1 : k + 1 - s = (k - s) + 1 := by omega
        rw [e1]
        show _ = Value.int .i32 (if j = s + (k - s) + 1 then step H (fwd H L s (k - s)) (s + (k - s)) else fwd H L s (k - s) j)
        have e2 : s + (k - s) = k := by omega
        rw [e2]
        by_cases ej : j = k + 1
        · rw [if_pos ej, if_pos ej, hx]
        · rw [if_neg ej, if_neg ej]
      have Fin := id (show Hid _ from fin)
      clear fin
      have hcase : (A < B ∧ H.C k = H.t ∧ B < H.P k) ∨ (A < B ∧ H.C k = H.t ∧ ¬ B < H.P k) ∨ (A < B ∧ ¬ H.C k = H.t) ∨ (¬ A < B ∧ H.C k = H.t ∧ A < H.P k) ∨ (¬ A < B ∧ H.C k = H.t ∧ ¬ A < H.P k) ∨ (¬ A < B ∧ ¬ H.C k = H.t) := by omega
      rcases hcase with ⟨hAB, hC, hP⟩ | ⟨hAB, hC, hP⟩ | ⟨hAB, hC⟩ | ⟨hAB, hC, hP⟩ | ⟨hAB, hC, hP⟩ | ⟨hAB, hC⟩
      · have F := Fin.out (H.P k) (by rw [step, if_pos hC, ← HA.out.1, ← HA.out.2, vmax_lt hAB, vmax_lt hP])
        have hC' : (H.C k == H.t) = true := by simp [hC]
        clear Fin hC
        go_wp2
        go_region
        go_wp2
        go_roundw
        case rel => exact ⟨k + 1, by omega, by omega, by go_num, F.1, F.2⟩
        case measure => simp [intOf]; omega
      · have F := Fin.out B (by rw [step, if_pos hC, ← HA.out.1, ← HA.out.2, vmax_lt hAB, vmax_ge hP])
        have hC' : (H.C k == H.t) = true := by simp [hC]
        clear Fin hC
        go_wp2
        go_region
        go_wp2
        go_roundw
        case rel => exact ⟨k + 1, by omega, by omega, by go_num, F.1, F.2⟩
        case measure => simp [intOf]; omega
      · have F := Fin.out B (by rw [step, if_neg hC, ← HA.out.1, ← HA.out.2, vmax_lt hAB])
        have hC' : (H.C k == H.t) = false := by simp [hC]
        clear Fin hC
        go_wp2
        go_region
        go_wp2
        go_roundw
        case rel => exact ⟨k + 1, by omega, by omega, by go_num, F.1, F.2⟩
        case measure => simp [intOf]; omega
      · have F := Fin.out (H.P k) (by rw [step, if_pos hC, ← HA.out.1, ← HA.out.2, vmax_ge hAB, vmax_lt hP])
        have hC' : (H.C k == H.t) = true := by simp [hC]
        clear Fin hC
        go_wp2
        go_region
        go_wp2
        go_roundw
        case rel => exact ⟨k + 1, by omega, by omega, by go_num, F.1, F.2⟩
        case measure => simp [intOf]; omega
      · have F := Fin.out A (by rw [step, if_pos hC, ← HA.out.1, ← HA.out.2, vmax_ge hAB, vmax_ge hP])
        have hC' : (H.C k == H.t) = true := by simp [hC]
        clear Fin hC
        go_wp2
        go_region
        go_wp2
        go_roundw
        case rel => exact ⟨k + 1, by omega, by omega, by go_num, F.1, F.2⟩
        case measure => simp [intOf]; omega
      · have F := Fin.out A (by rw [step, if_neg hC, ← HA.out.1, ← HA.out.2, vmax_ge hAB])
        have hC' : (H.C k == H.t) = false := by simp [hC]
        clear Fin hC
        go_wp2
        go_region
        go_wp2
        go_roundw
        case rel => exact ⟨k + 1, by omega, by omega, by go_num, F.1, F.2⟩
        case measure => simp [intOf]; omega
    · obtain rfl : k = e := by omega
      go_wp2
      go_end0
      exact ⟨rfl, hg.out, hR.out⟩

/-- 'ZZForwardOver'. -/
theorem zzfo (ai ac ap : Option Addr) (li ci lc cc lp cp ba n ca : Nat) (H : Hist) (s e : Nat) (L : Nat → Int) (w : World) (hs : s ≤ e) (he : e ≤ 4096) (hn : e < n)
    (hrow : w.rowIs ba 21 n (fun j => .int .i32 (L j))) (hr : Reads w ba H s e ai ac ap li lc lp) :
    Calls Try.prog 6 #[.slice ai li ci, .slice ac lc cc, .slice ap lp cp, .slice (some ⟨ba, 0, none⟩) n ca, .int .i32 H.t, .int .i32 s, .int .i32 e] w fun x w' => x = .returned (.tuple #[]) ∧ w.grownBy w' (some ba) ∧ w'.rowIs ba 21 n (fun j => .int .i32 (fwd H L s (e - s) j)) := by
  have hlt := hrow.lt
  go_enter Try.func6, Try.ntmps6
  go_wp2_with fail
  refine (fo w.heap.size ai ac ap li ci lc cc lp cp ba n ca H s e L _ hs he hn (by omega) ?_ ?_ ?_ ?_ (hrow.alloc _) ?_).mono ?_
  · simp [go_sem]
  · simp [go_sem]
  · simp [go_sem]
  · simp [go_sem]
  · intro hlt'
    obtain ⟨g1, g2, g3, ⟨bi, oi, rfl, ni, ti⟩, ⟨bc, oc, rfl, nc, tc⟩, ⟨bp, op, rfl, np, tp⟩, hin⟩ := hr hlt'
    have G := World.grownBy_alloc w (.cells #[.slice (some ⟨bi, oi, none⟩) li ci, .slice (some ⟨bc, oc, none⟩) lc cc, .slice (some ⟨bp, op, none⟩) lp cp, .slice none 0 0, .slice (some ⟨ba, 0, none⟩) n ca, .slice none 0 0, .int .i32 0] 33) none
    exact ⟨g1, g2, g3, ⟨bi, oi, rfl, ni, ti.grown G (by simp)⟩, ⟨bc, oc, rfl, nc, tc.grown G (by simp)⟩, ⟨bp, op, rfl, np, tp.grown G (by simp)⟩, hin⟩
  · rintro x w' ⟨rfl, hg, hR⟩
    have HG : Hid (w.grownBy w' (some ba)) := grown_trans (World.grownBy_alloc w _ _) hg
    have HR : Hid (w'.rowIs ba 21 n (fun j => .int .i32 (fwd H L s (e - s) j))) := hR
    clear hg hR
    go_wp2
    go_end0
    exact ⟨rfl, HG.out, HR.out⟩

end Go.Proofs.Qxb6617469a
