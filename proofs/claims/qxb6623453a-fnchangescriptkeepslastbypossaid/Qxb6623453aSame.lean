/- 'zzSameFields', 'zzSameRecipients', 'zzSameChange', 'zzToChange'. -/
import Derived.Test.Qxb6623453aRecs
namespace Go.Proofs.Qxb6623453a
open Go.ChangeShapes Go.WideShapes Go.ChangeAt Go.RowKit

/-- 'zzToChange': two blocks more. -/
abbrev chBlk (c : Ch) (t : TypeId) : Obj := .cells #[.string c.name, .int .i64 c.nth, .int .i64 c.pos, .string c.val, .string c.who] t

theorem toChange (c : Ch) (w : World) : Calls Try.prog 14 #[c.agg] w fun x w' => x = .returned c.agg ∧ w' = (w.alloc (chBlk c 43)).alloc (chBlk c 41) := by
  go_enter Try.func14, Try.ntmps14
  go_wp2
  exact bodyPost_ret (v := c.agg) (by simp [results, Try.results14, go_sem]) rfl ⟨rfl, rfl⟩

theorem sameChange (c : Ch) (w : World) : Calls Try.prog 16 #[c.agg, c.agg] w fun x w' => x = .returned (.bool true) ∧ w' = (w.alloc (chBlk c 41)).alloc (chBlk c 43) := by
  go_enter Try.func16, Try.ntmps16
  go_wp2
  go_ret
  exact ⟨rfl, rfl⟩

set_option maxHeartbeats 4000000 in
theorem sameFields (a a' : Option Addr) (n c c' : Nat) (f : Nat → Fd) (hn : n ≤ 4096) (hnil : a.isNone = a'.isNone) (w : World) (h : Hid (In w a n 4 (fdF f))) (h' : Hid (In w a' n 4 (fdF f))) :
    Calls Try.prog 17 #[.slice a n c, .slice a' n c'] w fun x w' => x = .returned (.bool true) ∧ Same w w' := by
  have heq := fun w a l c => Lib.run_eql_slice_nil (P := Try.prog) w 31 54 a l c 0 0 Try.underlying31
  have heq' := fun w a l c => Lib.run_eql_slice_nil (P := Try.prog) w 22 49 a l c 0 0 Try.underlying22
  go_enter Try.func17, Try.ntmps17
  go_wp2
  go_loopw [5] (fun i wr => ∃ k : Nat, k ≤ n ∧ i = .int .i64 k ∧ Hid (Same w wr)) (fun i _ => n - (intOf i).toNat)
  case atStart => exact ⟨0, by omega, rfl, Same.refl w⟩
  case round =>
    obtain ⟨k, hk, rfl, hs⟩ := hrel
    by_cases hlt : k < n
    · obtain ⟨b, o, rfl, hr⟩ := h.out.2 (by omega)
      obtain ⟨b', o', rfl, hr'⟩ := h'.out.2 (by omega)
      obtain ⟨q0, q1, q2, q3⟩ := fdK (hr.same hs.out) hlt
      obtain ⟨p0, p1, p2, p3⟩ := fdK (hr'.same hs.out) hlt
      clear hr hr'
      have b0 : (k : Int) < (n : Int) := by omega
      go_wp2
      go_quiet (fail)
      go_wp2
      go_roundw
      case rel => exact ⟨k + 1, by omega, by go_num, hs.out.drewN _⟩
      case measure => simp [intOf]; omega
    · go_wp2
      go_ret
      exact ⟨rfl, hs.out⟩

set_option maxHeartbeats 4000000 in
theorem sameRecipients (a a' : Option Addr) (n c c' : Nat) (f : Nat → Rc) (hn : n ≤ 4096) (hnil : a.isNone = a'.isNone) (w : World) (h : Hid (In w a n 3 (rcF f))) (h' : Hid (In w a' n 3 (rcF f))) :
    Calls Try.prog 18 #[.slice a n c, .slice a' n c'] w fun x w' => x = .returned (.bool true) ∧ Same w w' := by
  have heq := fun w a l c => Lib.run_eql_slice_nil (P := Try.prog) w 35 55 a l c 0 0 Try.underlying35
  have heq' := fun w a l c => Lib.run_eql_slice_nil (P := Try.prog) w 24 51 a l c 0 0 Try.underlying24
  go_enter Try.func18, Try.ntmps18
  go_wp2
  go_loopw [5] (fun i wr => ∃ k : Nat, k ≤ n ∧ i = .int .i64 k ∧ Hid (Same w wr)) (fun i _ => n - (intOf i).toNat)
  case atStart => exact ⟨0, by omega, rfl, Same.refl w⟩
  case round =>
    obtain ⟨k, hk, rfl, hs⟩ := hrel
    by_cases hlt : k < n
    · obtain ⟨b, o, rfl, hr⟩ := h.out.2 (by omega)
      obtain ⟨b', o', rfl, hr'⟩ := h'.out.2 (by omega)
      obtain ⟨q0, q1, q2⟩ := rcK (hr.same hs.out) hlt
      obtain ⟨p0, p1, p2⟩ := rcK (hr'.same hs.out) hlt
      clear hr hr'
      have b0 : (k : Int) < (n : Int) := by omega
      go_wp2
      go_quiet (fail)
      go_wp2
      go_roundw
      case rel => exact ⟨k + 1, by omega, by go_num, hs.out.drewN _⟩
      case measure => simp [intOf]; omega
    · go_wp2
      go_ret
      exact ⟨rfl, hs.out⟩

end Go.Proofs.Qxb6623453a
