/- 'slices.BinarySearchFunc' at scan.Change, its closure. -/
import Derived.Test.Qxb6623453aSame
namespace Go.Proofs.Qxb6623453a
open Go.ChangeShapes Go.WideShapes Go.ChangeAt Go.RowKit

/-- cmp.Compare -/
def cmp3 (a b : Int) : Int := if a < b then -1 else if b < a then 1 else 0

theorem isNaN (a : Int) (w : World) : Calls Try.prog 25 #[.int .i64 a] w fun x w' => x = .returned (.bool false) ∧ w = w' := by
  go_enter Try.func25, Try.ntmps25
  go_wp2
  go_ret
  exact ⟨rfl, rfl⟩

theorem compare (a b : Int) (w : World) : Calls Try.prog 23 #[.int .i64 a, .int .i64 b] w fun x w' => x = .returned (.int .i64 (cmp3 a b)) ∧ w = w' := by
  by_cases h1 : a < b
  · rw [show cmp3 a b = -1 from if_pos h1]
    go_enter Try.func23, Try.ntmps23
    go_wp2_with (go_at_call 25; refine (isNaN _ _).mono ?_; rintro e w' ⟨rfl, rfl⟩)
    go_ret
    exact ⟨rfl, rfl⟩
  by_cases h2 : b < a
  · rw [show cmp3 a b = 1 by rw [cmp3, if_neg h1, if_pos h2]]
    go_enter Try.func23, Try.ntmps23
    go_wp2_with (go_at_call 25; refine (isNaN _ _).mono ?_; rintro e w' ⟨rfl, rfl⟩)
    go_ret
    exact ⟨rfl, rfl⟩
  · rw [show cmp3 a b = 0 by rw [cmp3, if_neg h1, if_neg h2]]
    go_enter Try.func23, Try.ntmps23
    go_wp2_with (go_at_call 25; refine (isNaN _ _).mono ?_; rintro e w' ⟨rfl, rfl⟩)
    go_ret
    exact ⟨rfl, rfl⟩

theorem closure (c : Ch) (p : Int) (w : World) : Calls Try.prog 22 #[c.agg, .int .i64 p] w fun x w' => x = .returned (.int .i64 (cmp3 c.pos p)) ∧ w' = w.alloc (chBlk c 41) := by
  go_enter Try.func22, Try.ntmps22
  go_wp2_with (go_at_call 23; refine (compare _ _ _).mono ?_; rintro e w' ⟨rfl, rfl⟩)
  go_ret
  exact ⟨rfl, rfl⟩

/-- What the search has come to: all ahead of i lie before p, none from i on. -/
def Lower (f : Nat → Ch) (n : Nat) (p : Int) (i : Nat) : Prop := i ≤ n ∧ (∀ j, j < i → (f j).pos < p) ∧ (∀ j, i ≤ j → j < n → p ≤ (f j).pos)

theorem strict_lt {f : Nat → Ch} {n : Nat} (h : Strict f n) : ∀ d i, i + d < n → 0 < d → (f i).pos < (f (i + d)).pos := by
  intro d
  induction d with
  | zero => intro i _ h0; omega
  | succ d ih =>
    intro i hi _
    have h1 := h (i + d + 1) (by omega) hi
    rw [show i + d + 1 - 1 = i + d by omega] at h1
    by_cases e : d = 0
    · subst e; exact h1
    · have := ih i (by omega) (by omega)
      rw [show i + (d + 1) = i + d + 1 by omega]
      omega

theorem strict_mono {f : Nat → Ch} {n i j : Nat} (h : Strict f n) (hij : i < j) (hj : j < n) : (f i).pos < (f j).pos := by
  have := strict_lt h (j - i) i (by omega) (by omega)
  rwa [show i + (j - i) = j by omega] at this

theorem cmp3_lt {a b : Int} (h : a < b) : cmp3 a b = -1 := if_pos h
theorem cmp3_gt {a b : Int} (h : b < a) : cmp3 a b = 1 := by rw [cmp3, if_neg (by omega), if_pos h]
theorem cmp3_eq {a b : Int} (h : a = b) : cmp3 a b = 0 := by rw [cmp3, if_neg (by omega), if_neg (by omega)]

/-- What 'BinarySearchFunc' answers. -/
def Searched (f : Nat → Ch) (n : Nat) (p : Int) (w : World) (x : Ending) (w' : World) : Prop :=
  ∃ (i : Nat) (found : Bool), x = .returned (.tuple #[.int .i64 i, .bool found]) ∧ Lower f n p i ∧ (found = true ↔ i < n ∧ (f i).pos = p) ∧ Below w.heap.size w w'

set_option maxHeartbeats 2000000 in
theorem search (a : Option Addr) (n c : Nat) (f : Nat → Ch) (p : Int) (hn : n ≤ 8192) (w : World) (h : Hid (In w a n 5 (chF f))) (hst : Hid (Strict f n)) :
    Calls Try.prog 21 #[.slice a n c, .int .i64 p, .func (.func 22) #[] #[]] w (Searched f n p w) := by
  go_enter Try.func21, Try.ntmps21
  go_wp2
  go_loopw [9, 10] (fun u v wr => ∃ i j : Nat, i ≤ j ∧ j ≤ n ∧ u = .int .i64 i ∧ v = .int .i64 j ∧ Hid (∀ k, k < i → (f k).pos < p) ∧ Hid (∀ k, j ≤ k → k < n → p ≤ (f k).pos) ∧ Hid (Below w.heap.size w wr)) (fun u v _ => (intOf v).toNat - (intOf u).toNat)
  case atStart => exact ⟨0, n, by omega, by omega, rfl, rfl, (fun k hk => by omega), (fun k h1 h2 => by omega), Below.refl _ _⟩
  case round =>
    obtain ⟨i, j, hij, hj, rfl, rfl, hlo, hhi, hB⟩ := hrel
    by_cases hlt : i < j
    · obtain ⟨b, o, rfl, hr⟩ := h.out.2 (by omega)
      obtain ⟨m, hm⟩ : ∃ m : Nat, m = (i + j) / 2 := ⟨_, rfl⟩
      have hmi : i ≤ m := by omega
      have hmj : m < j := by omega
      obtain ⟨q0, q1, q2, q3, q4⟩ := ch5 (hr.below hB.out) (show m < n by omega)
      clear hr
      have em : ((i : Int) + (j : Int)) / 2 = (m : Int) := by omega
      have bm : (m : Int) < (n : Int) := by omega
      have HM : Hid (m = (i + j) / 2) := hm
      clear hm
      by_cases hp : (f m).pos < p
      · have hc := cmp3_lt hp
        have CL : Hid (∀ w, Calls Try.prog 22 #[(f m).agg, .int .i64 p] w fun x w' => x = .returned (.int .i64 (-1)) ∧ w' = w.alloc (chBlk (f m) 41)) := fun w => by have := closure (f m) p w; rw [hc] at this; exact this
        clear hc
        go_wp2_with (go_at_call 22; refine (CL.out _).mono ?_; rintro e w' ⟨rfl, rfl⟩)
        go_roundw
        case rel => exact ⟨m + 1, j, by omega, hj, by go_num, rfl, (fun k hk => by
          by_cases e : k = m
          · subst e; exact hp
          · have := strict_mono hst.out (show k < m by omega) (by omega); omega), hhi, hB.out.alloc (hB.out.size) _⟩
        case measure => simp [intOf]; omega
      · have CL : Hid (∃ r : Int, 0 ≤ r ∧ ∀ w, Calls Try.prog 22 #[(f m).agg, .int .i64 p] w fun x w' => x = .returned (.int .i64 r) ∧ w' = w.alloc (chBlk (f m) 41)) := ⟨cmp3 (f m).pos p, (by unfold cmp3; rw [if_neg hp]; split <;> omega), fun w => closure (f m) p w⟩
        obtain ⟨r, hr0, CL⟩ := CL.out
        have CL : Hid (∀ w, Calls Try.prog 22 #[(f m).agg, .int .i64 p] w fun x w' => x = .returned (.int .i64 r) ∧ w' = w.alloc (chBlk (f m) 41)) := CL
        go_wp2_with (go_at_call 22; refine (CL.out _).mono ?_; rintro e w' ⟨rfl, rfl⟩)
        go_roundw
        case rel => exact ⟨i, m, hmi, by omega, rfl, by go_num, hlo, (fun k h1 h2 => by
          by_cases e : k = m
          · subst e; omega
          · have := strict_mono hst.out (show m < k by omega) h2; omega), hB.out.alloc (hB.out.size) _⟩
        case measure => simp [intOf]; omega
    · obtain rfl : i = j := by omega
      have LW : Hid (Lower f n p i) := ⟨hj, hlo.out, hhi.out⟩
      by_cases hin : i < n
      · obtain ⟨b, o, rfl, hr⟩ := h.out.2 (by omega)
        obtain ⟨q0, q1, q2, q3, q4⟩ := ch5 (hr.below hB.out) hin
        clear hr
        have bi : (i : Int) < (n : Int) := by omega
        by_cases hp : (f i).pos = p
        · have hc := cmp3_eq hp
          have CL : Hid (∀ w, Calls Try.prog 22 #[(f i).agg, .int .i64 p] w fun x w' => x = .returned (.int .i64 0) ∧ w' = w.alloc (chBlk (f i) 41)) := fun w => by have := closure (f i) p w; rw [hc] at this; exact this
          have HP : Hid ((f i).pos = p) := hp
          clear hc hp
          go_wp2_with (go_at_call 22; refine (CL.out _).mono ?_; rintro e w' ⟨rfl, rfl⟩)
          go_ret2
          exact ⟨i, true, rfl, LW.out, ⟨fun _ => ⟨hin, HP.out⟩, fun _ => rfl⟩, hB.out.alloc hB.out.size _⟩
        · have hgt : p < (f i).pos := by have := hhi.out i (Nat.le_refl _) hin; omega
          have hc := cmp3_gt hgt
          have CL : Hid (∀ w, Calls Try.prog 22 #[(f i).agg, .int .i64 p] w fun x w' => x = .returned (.int .i64 1) ∧ w' = w.alloc (chBlk (f i) 41)) := fun w => by have := closure (f i) p w; rw [hc] at this; exact this
          have HP : Hid (¬ (f i).pos = p) := hp
          clear hc hp
          go_wp2_with (go_at_call 22; refine (CL.out _).mono ?_; rintro e w' ⟨rfl, rfl⟩)
          go_ret2
          exact ⟨i, false, rfl, LW.out, ⟨(fun e => by cases e), fun e => absurd e.2 HP.out⟩, hB.out.alloc hB.out.size _⟩
      · have bi : ¬ (i : Int) < (n : Int) := by omega
        go_wp2_with fail
        go_ret2
        exact ⟨i, false, rfl, LW.out, ⟨(fun e => by cases e), fun e => absurd e.1 hin⟩, hB.out⟩

end Go.Proofs.Qxb6623453a
