/- 'zzBytesFit': some answer, nothing turns. -/
import Derived.Test.Qxb6623453aBytes
namespace Go.Proofs.Qxb6623453a
open Go.ChangeShapes Go.WideShapes Go.ChangeAt Go.RowKit

def Took (w : World) (x : Ending) (w' : World) : Prop := ∃ (b' : Int) (ok : Bool), x = .returned (.tuple #[.int .i64 b', .bool ok]) ∧ w = w'

theorem take (b n : Int) (w : World) : Calls Try.prog 19 #[.int .i64 b, .int .i64 n] w (Took w) := by
  go_enter Try.func19, Try.ntmps19
  go_wp2
  all_goals
    go_ret2
    exact ⟨_, _, rfl, rfl⟩

set_option maxHeartbeats 8000000 in
set_option maxRecDepth 100000 in
theorem fit (a0 a1 a2 a7 : Option Addr) (n0 c0 n1 c1 n2 c2 n7 c7 : Nat) (s3 s4 s5 s6 : ByteArray) (f0 : Nat → Fd) (f1 : Nat → Ch) (f2 : Nat → Rc) (f7 : Nat → Ch) (w : World)
    (m0 : n0 ≤ 4096) (m1 : n1 ≤ 4096) (m2 : n2 ≤ 4096) (m7 : n7 ≤ 4096)
    (h0 : Hid (In w a0 n0 4 (fdF f0))) (h1 : Hid (In w a1 n1 5 (chF f1))) (h2 : Hid (In w a2 n2 3 (rcF f2))) (h7 : Hid (In w a7 n7 5 (chF f7))) :
    Calls Try.prog 5 #[.slice a0 n0 c0, .slice a1 n1 c1, .slice a2 n2 c2, .string s3, .string s4, .string s5, .string s6, .slice a7 n7 c7] w (SomeBool w) := by
  go_enter Try.func5, Try.ntmps5
  go_wp2_with (go_at_call 19; refine (take _ _ _).mono ?_; rintro e w' ⟨b', (_ | _), rfl, rfl⟩)
  · go_ret; exact ⟨_, rfl, rfl⟩
  · go_ret; exact ⟨_, rfl, rfl⟩
  · go_ret; exact ⟨_, rfl, rfl⟩
  · go_ret; exact ⟨_, rfl, rfl⟩
  · go_ret; exact ⟨_, rfl, rfl⟩
  go_loopg [17, 19] n0 (fun g z i wr => ∃ (k : Nat) (y : Int), g = n0 - k ∧ k ≤ n0 ∧ i = .int .i64 k ∧ z = .int .i64 y ∧ Hid (w = wr))
  case atStart => exact ⟨0, _, rfl, by omega, rfl, rfl, rfl⟩
  case round =>
    obtain ⟨k, y, rfl, hk, rfl, rfl, hw⟩ := hrel
    obtain rfl := hw.out
    clear hw
    by_cases hlt : k < n0
    · obtain ⟨b, o, rfl, hr⟩ := h0.out.2 (by omega)
      obtain ⟨q0, q1, q2, q3⟩ := fdK hr hlt
      clear hr
      have b0 : (k : Int) < (n0 : Int) := by omega
      go_wp2_with (go_at_call 19; refine (take _ _ _).mono ?_; rintro e w' ⟨b', (_ | _), rfl, rfl⟩)
      · go_ret; exact ⟨_, rfl, rfl⟩
      · go_ret; exact ⟨_, rfl, rfl⟩
      · go_ret; exact ⟨_, rfl, rfl⟩
      go_roundg (n0 - (k + 1))
      case measure => omega
      case rel => exact ⟨k + 1, _, rfl, by omega, by go_num, rfl, rfl⟩
    · clear h0
      go_wp2_with (go_at_call 19; refine (take _ _ _).mono ?_; rintro e w' ⟨b', (_ | _), rfl, rfl⟩)
      · go_ret; exact ⟨_, rfl, rfl⟩
      go_loopg [17, 20] n1 (fun g z i wr => ∃ (k : Nat) (y : Int), g = n1 - k ∧ k ≤ n1 ∧ i = .int .i64 k ∧ z = .int .i64 y ∧ Hid (w = wr))
      case atStart => exact ⟨0, _, rfl, by omega, rfl, rfl, rfl⟩
      case round =>
        obtain ⟨k, y, rfl, hk, rfl, rfl, hw⟩ := hrel
        obtain rfl := hw.out
        clear hw
        by_cases hlt : k < n1
        · obtain ⟨b, o, rfl, hr⟩ := h1.out.2 (by omega)
          obtain ⟨q0, q1, q2, q3, q4⟩ := ch5 hr hlt
          clear hr
          have b0 : (k : Int) < (n1 : Int) := by omega
          go_wp2_with (go_at_call 19; refine (take _ _ _).mono ?_; rintro e w' ⟨b', (_ | _), rfl, rfl⟩)
          · go_ret; exact ⟨_, rfl, rfl⟩
          · go_ret; exact ⟨_, rfl, rfl⟩
          · go_ret; exact ⟨_, rfl, rfl⟩
          go_roundg (n1 - (k + 1))
          case measure => omega
          case rel => exact ⟨k + 1, _, rfl, by omega, by go_num, rfl, rfl⟩
        · clear h1
          go_wp2_with (go_at_call 19; refine (take _ _ _).mono ?_; rintro e w' ⟨b', (_ | _), rfl, rfl⟩)
          · go_ret; exact ⟨_, rfl, rfl⟩
          go_loopg [17, 21] n2 (fun g z i wr => ∃ (k : Nat) (y : Int), g = n2 - k ∧ k ≤ n2 ∧ i = .int .i64 k ∧ z = .int .i64 y ∧ Hid (w = wr))
          case atStart => exact ⟨0, _, rfl, by omega, rfl, rfl, rfl⟩
          case round =>
            obtain ⟨k, y, rfl, hk, rfl, rfl, hw⟩ := hrel
            obtain rfl := hw.out
            clear hw
            by_cases hlt : k < n2
            · obtain ⟨b, o, rfl, hr⟩ := h2.out.2 (by omega)
              obtain ⟨q0, q1, q2⟩ := rcK hr hlt
              clear hr
              have b0 : (k : Int) < (n2 : Int) := by omega
              go_wp2_with (go_at_call 19; refine (take _ _ _).mono ?_; rintro e w' ⟨b', (_ | _), rfl, rfl⟩)
              · go_ret; exact ⟨_, rfl, rfl⟩
              · go_ret; exact ⟨_, rfl, rfl⟩
              go_roundg (n2 - (k + 1))
              case measure => omega
              case rel => exact ⟨k + 1, _, rfl, by omega, by go_num, rfl, rfl⟩
            · clear h2
              go_wp2_with (go_at_call 19; refine (take _ _ _).mono ?_; rintro e w' ⟨b', (_ | _), rfl, rfl⟩)
              · go_ret; exact ⟨_, rfl, rfl⟩
              go_loopg [17, 22] n7 (fun g z i wr => ∃ (k : Nat) (y : Int), g = n7 - k ∧ k ≤ n7 ∧ i = .int .i64 k ∧ z = .int .i64 y ∧ Hid (w = wr))
              case atStart => exact ⟨0, _, rfl, by omega, rfl, rfl, rfl⟩
              case round =>
                obtain ⟨k, y, rfl, hk, rfl, rfl, hw⟩ := hrel
                obtain rfl := hw.out
                clear hw
                by_cases hlt : k < n7
                · obtain ⟨b, o, rfl, hr⟩ := h7.out.2 (by omega)
                  obtain ⟨q0, q1, q2, q3, q4⟩ := ch5 hr hlt
                  clear hr
                  have b0 : (k : Int) < (n7 : Int) := by omega
                  go_wp2_with (go_at_call 19; refine (take _ _ _).mono ?_; rintro e w' ⟨b', (_ | _), rfl, rfl⟩)
                  · go_ret; exact ⟨_, rfl, rfl⟩
                  · go_ret; exact ⟨_, rfl, rfl⟩
                  · go_ret; exact ⟨_, rfl, rfl⟩
                  go_roundg (n7 - (k + 1))
                  case measure => omega
                  case rel => exact ⟨k + 1, _, rfl, by omega, by go_num, rfl, rfl⟩
                · clear h7
                  go_wp2_with (go_at_call 19; refine (take _ _ _).mono ?_; rintro e w' ⟨b', (_ | _), rfl, rfl⟩)
                  go_ret
                  exact ⟨_, rfl, rfl⟩

end Go.Proofs.Qxb6623453a
