/- Small callees of 'FnForwardOverIsAncestorMax': zzBytes, zzCopy32, zzEqual32. -/
import Derived.Test.Qxb6617469aRows
import Derived.WalkKit
import Derived.ProofKit
import Derived.Outline
import Derived.WalkSpells
import Derived.WalkLawsBesides
import Derived.Deep.OwnRows
import Derived.Deep.QuietTactic
import Derived.Deep.Light
import Derived.BigQuiet
import Derived.BigRegion
import Derived.WalkSmall
namespace Go.Proofs.Qxb6617469a
open Go.ChangeShapes Go.WideShapes Go.ChangeAt Go.RowKit

theorem Try.info21 : (Try.prog.info? 21).map (fun i => (i.zero, i.size, i.bytes)) = some (some (.int .i32 0), 1, 4) := by kernel_rfl
theorem Try.info4 : (Try.prog.info? 4).map (fun i => (i.zero, i.size, i.bytes)) = some (some (.bool false), 1, 1) := by kernel_rfl

/-- A row of int32 that is read: from ⟨b, off⟩ on n cells, 'f i' at i. -/
def I32At (w : World) (b off n : Nat) (f : Nat → Int) : Prop := ∀ i, i < n → w.cell? ⟨b, off + i, none⟩ = some (.int .i32 (f i))

set_option maxHeartbeats 1000000 in
theorem copy32 (b off n c : Nat) (f : Nat → Int) (hn : n ≤ 4097) (w : World) (hb : b < w.heap.size) (hrow : I32At w b off n f) :
    Calls Try.prog 5 #[.slice (some ⟨b, off, none⟩) n c] w fun e w' => e = .returned (.slice (some ⟨w.heap.size, 0, none⟩) n n) ∧ w'.rowIs w.heap.size 21 n (fun i => .int .i32 (f i)) ∧ Below w.heap.size w w' ∧ w'.heap.size = w.heap.size + 1 := by
  have hmk := run_make_row' (P := Try.prog) 23 21 (.int .i32 0) 4 Try.underlying23 Try.info21 rfl .i64 .i64 n (by omega) (by omega)
  have heq := fun w a l c => Lib.run_eql_slice_nil (P := Try.prog) w 23 21 a l c 0 0 Try.underlying23
  go_enter Try.func5, Try.ntmps5
  go_wp2
  go_loopw [4] (fun i wr => ∃ k : Nat, k ≤ n ∧ i = .int .i64 k ∧ wr.rowIs w.heap.size 21 n (fun j => if j < k then .int .i32 (f j) else .int .i32 0) ∧ Below w.heap.size w wr ∧ Hid (wr.heap.size = w.heap.size + 1)) (fun i _ => n - (intOf i).toNat)
  case atStart =>
    refine ⟨0, Nat.zero_le _, rfl, (World.rowIs_made w (.int .i32 0) n 21).congr (fun i hi => by simp), (Below.refl _ _).alloc (Nat.le_refl _) _, by simp [Hid]⟩
  case round =>
    obtain ⟨k, hk, rfl, hrw, hbel, hsz⟩ := hrel
    by_cases hlt : k < n
    · have hc : wr.cell? ⟨b, off + k, none⟩ = some (.int .i32 (f k)) := (hbel.cell (p := ⟨b, off + k, none⟩) hb).trans (hrow k hlt)
      have hd := hrw.cell hlt
      have hz := hrw.frozen k
      rw [if_neg (Nat.lt_irrefl k)] at hd
      have hR := hrw.set k (.int .i32 (f k))
      have HR : Hid ((wr.setCell ⟨w.heap.size, k, none⟩ (.int .i32 (f k))).rowIs w.heap.size 21 n (fun j => if j < k + 1 then .int .i32 (f j) else .int .i32 0)) := hR.congr (fun j hj => by
        by_cases e : j = k
        · subst e; simp
        · simp only [if_neg e]
          by_cases e2 : j < k
          · rw [if_pos e2, if_pos (by omega)]
          · rw [if_neg e2, if_neg (by omega)])
      have HB : Hid (Below w.heap.size w (wr.setCell ⟨w.heap.size, k, none⟩ (.int .i32 (f k)))) := hbel.setCell (Nat.le_refl _) _
      clear hR hrw hbel
      go_wp2
      go_roundw
      case rel => exact ⟨k + 1, by omega, by go_num, HR.out, HB.out, by simpa [Hid, World.setCell] using hsz.out⟩
      case measure => simp [intOf]; omega
    · obtain rfl : k = n := by omega
      have HR : Hid (wr.rowIs w.heap.size 21 k (fun i => .int .i32 (f i))) := hrw.congr (fun i hi => by rw [if_pos hi])
      have HB : Hid (Below w.heap.size w wr) := hbel
      clear hrw hbel
      go_wp2
      go_ret
      exact ⟨rfl, HR.out, HB.out, hsz.out⟩

/-- The worlds part in draws alone. -/
def Same (w w' : World) : Prop := w'.heap = w.heap ∧ w'.os = w.os ∧ w'.tape = w.tape ∧ w'.output = w.output
theorem Same.refl (w : World) : Same w w := ⟨rfl, rfl, rfl, rfl⟩
theorem Same.cell {w w' : World} (h : Same w w') (a : Addr) : w'.cell? a = w.cell? a := by simp [World.cell?, h.1]
theorem Same.below {w w' : World} (h : Same w w') (B : Nat) : Below B w w' := ⟨h.2.1, h.2.2.1, h.2.2.2, by rw [h.1]; exact Nat.le_refl _, fun _ _ => by rw [h.1]⟩
theorem Same.drewN {w w' : World} (h : Same w w') (n : Nat) : Same w (w'.drewN n) := h

set_option maxHeartbeats 1000000 in
theorem equal32 (b1 o1 c1 b2 o2 c2 n : Nat) (f g : Nat → Int) (hn : n ≤ 4097) (hfg : Hid (∀ i, i < n → f i = g i)) (w : World) (h1 : I32At w b1 o1 n f) (h2 : I32At w b2 o2 n g) :
    Calls Try.prog 8 #[.slice (some ⟨b1, o1, none⟩) n c1, .slice (some ⟨b2, o2, none⟩) n c2] w fun e w' => e = .returned (.bool true) ∧ Same w w' := by
  have H1 : Hid (I32At w b1 o1 n f) := h1
  have H2 : Hid (I32At w b2 o2 n g) := h2
  clear h1 h2
  go_enter Try.func8, Try.ntmps8
  go_wp2
  go_loopw [5] (fun i wr => ∃ k : Nat, k ≤ n ∧ i = .int .i64 k ∧ Hid (Same w wr)) (fun i _ => n - (intOf i).toNat)
  case atStart => exact ⟨0, Nat.zero_le _, rfl, Same.refl w⟩
  case round =>
    obtain ⟨k, hk, rfl, hal⟩ := hrel
    by_cases hlt : k < n
    · have hc1 : wr.cell? ⟨b1, o1 + k, none⟩ = some (.int .i32 (g k)) := by rw [hal.out.cell, H1.out k hlt, hfg.out k hlt]
      have hc2 : wr.cell? ⟨b2, o2 + k, none⟩ = some (.int .i32 (g k)) := by rw [hal.out.cell, H2.out k hlt]
      have hi : (k : Int) < (n : Int) := by omega
      go_wp2
      go_quiet (fail)
      go_wp2
      go_roundw
      case rel => exact ⟨k + 1, by omega, by go_num, hal.out.drewN _⟩
      case measure => simp [intOf]; omega
    · go_wp2
      go_ret
      exact ⟨rfl, hal.out⟩

set_option maxHeartbeats 1000000 in
theorem bytes (a0 a1 a2 a3 : Option Addr) (l0 c0 l1 c1 l2 c2 l3 c3 : Nat) (t s m e : Int) (w : World) (h0 : l0 ≤ maxLen) (h1 : l1 ≤ maxLen) (h2 : l2 ≤ maxLen) (h3 : l3 ≤ maxLen) :
    Calls Try.prog 4 #[.slice a0 l0 c0, .slice a1 l1 c1, .slice a2 l2 c2, .slice a3 l3 c3, .int .i32 t, .int .i32 s, .int .i32 m, .int .i32 e] w fun e w' => ∃ r, e = .returned (.bool r) ∧ w' = w := by
  unfold maxLen at h0 h1 h2 h3
  go_enter Try.func4, Try.ntmps4
  go_wp2
  all_goals
    go_ret
    exact ⟨_, rfl, rfl⟩

end Go.Proofs.Qxb6617469a
