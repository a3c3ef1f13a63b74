/- 'zzBytes_FnChangeScriptKeepsLastByPos': some answer, nothing turns. -/
import Derived.Test.Qxb6623453aRecs
namespace Go.Proofs.Qxb6623453a
open Go.ChangeShapes Go.WideShapes Go.ChangeAt Go.RowKit

/-- Some bool is answered; nothing turns. -/
def SomeBool (w : World) (x : Ending) (w' : World) : Prop := ∃ r, x = .returned (.bool r) ∧ w' = w

set_option maxHeartbeats 8000000 in
set_option maxRecDepth 100000 in
theorem bytes (a0 a1 a2 a7 : Option Addr) (n0 c0 n1 c1 n2 c2 n7 c7 : Nat) (s3 s4 s5 s6 : ByteArray) (f0 : Nat → Fd) (f1 : Nat → Ch) (f2 : Nat → Rc) (f7 : Nat → Ch) (w : World)
    (m0 : n0 ≤ maxLen) (m1 : n1 ≤ maxLen) (m2 : n2 ≤ maxLen) (m7 : n7 ≤ maxLen) (m3 : s3.size ≤ maxLen) (m4 : s4.size ≤ maxLen) (m5 : s5.size ≤ maxLen) (m6 : s6.size ≤ maxLen)
    (h0 : Hid (In w a0 n0 4 (fdF f0))) (h1 : Hid (In w a1 n1 5 (chF f1))) (h2 : Hid (In w a2 n2 3 (rcF f2))) (h7 : Hid (In w a7 n7 5 (chF f7))) :
    Calls Try.prog 4 #[.slice a0 n0 c0, .slice a1 n1 c1, .slice a2 n2 c2, .string s3, .string s4, .string s5, .string s6, .slice a7 n7 c7] w (SomeBool w) := by
  unfold maxLen at m0 m1 m2 m7 m3 m4 m5 m6
  by_cases g0 : 1048576 < n0
  · go_enter Try.func4, Try.ntmps4
    go_wp2
    go_ret
    exact ⟨_, rfl, rfl⟩
  go_enter Try.func4, Try.ntmps4
  go_wp2
  go_loop [17, 18] (fun z i => ∃ (k : Nat) (y : Int), k ≤ n0 ∧ i = .int .i64 k ∧ z = .int .i64 y ∧ 0 ≤ y ∧ y ≤ 1048576) (fun _ i => n0 - (intOf i).toNat)
  case atStart => exact ⟨0, _, by omega, rfl, rfl, by omega, by omega⟩
  case round =>
    obtain ⟨k, y, hk, rfl, rfl, y1, y2⟩ := hrel
    by_cases hlt : k < n0
    · obtain ⟨b, o, rfl, hr⟩ := h0.out.2 (by omega)
      obtain ⟨q0, q1, q2, q3⟩ := fdK hr hlt
      clear hr
      have b0 : (k : Int) < (n0 : Int) := by omega
      go_wp2
      · go_ret; exact ⟨_, rfl, rfl⟩
      · go_ret; exact ⟨_, rfl, rfl⟩
      · go_ret; exact ⟨_, rfl, rfl⟩
      · go_ret; exact ⟨_, rfl, rfl⟩
      · go_ret; exact ⟨_, rfl, rfl⟩
      · go_ret; exact ⟨_, rfl, rfl⟩
      go_round
      case rel => exact ⟨k + 1, _, by omega, by go_num, rfl, by omega, by omega⟩
      case measure => simp [intOf]; omega
    · clear h0
      go_wp2
      · go_ret; exact ⟨_, rfl, rfl⟩
      · go_ret; exact ⟨_, rfl, rfl⟩
      go_loop [17, 19] (fun z i => ∃ (k : Nat) (y : Int), k ≤ n1 ∧ i = .int .i64 k ∧ z = .int .i64 y ∧ 0 ≤ y ∧ y ≤ 1048576) (fun _ i => n1 - (intOf i).toNat)
      case atStart => exact ⟨0, _, by omega, rfl, rfl, by omega, by omega⟩
      case round =>
        obtain ⟨k, y, hk, rfl, rfl, y1, y2⟩ := hrel
        by_cases hlt : k < n1
        · obtain ⟨b, o, rfl, hr⟩ := h1.out.2 (by omega)
          obtain ⟨q0, q1, q2, q3, q4⟩ := ch5 hr hlt
          clear hr
          have b0 : (k : Int) < (n1 : Int) := by omega
          go_wp2
          · go_ret; exact ⟨_, rfl, rfl⟩
          · go_ret; exact ⟨_, rfl, rfl⟩
          · go_ret; exact ⟨_, rfl, rfl⟩
          · go_ret; exact ⟨_, rfl, rfl⟩
          · go_ret; exact ⟨_, rfl, rfl⟩
          · go_ret; exact ⟨_, rfl, rfl⟩
          go_round
          case rel => exact ⟨k + 1, _, by omega, by go_num, rfl, by omega, by omega⟩
          case measure => simp [intOf]; omega
        · clear h1
          go_wp2
          · go_ret; exact ⟨_, rfl, rfl⟩
          · go_ret; exact ⟨_, rfl, rfl⟩
          go_loop [17, 20] (fun z i => ∃ (k : Nat) (y : Int), k ≤ n2 ∧ i = .int .i64 k ∧ z = .int .i64 y ∧ 0 ≤ y ∧ y ≤ 1048576) (fun _ i => n2 - (intOf i).toNat)
          case atStart => exact ⟨0, _, by omega, rfl, rfl, by omega, by omega⟩
          case round =>
            obtain ⟨k, y, hk, rfl, rfl, y1, y2⟩ := hrel
            by_cases hlt : k < n2
            · obtain ⟨b, o, rfl, hr⟩ := h2.out.2 (by omega)
              obtain ⟨q0, q1, q2⟩ := rcK hr hlt
              clear hr
              have b0 : (k : Int) < (n2 : Int) := by omega
              go_wp2
              · go_ret; exact ⟨_, rfl, rfl⟩
              · go_ret; exact ⟨_, rfl, rfl⟩
              · go_ret; exact ⟨_, rfl, rfl⟩
              · go_ret; exact ⟨_, rfl, rfl⟩
              go_round
              case rel => exact ⟨k + 1, _, by omega, by go_num, rfl, by omega, by omega⟩
              case measure => simp [intOf]; omega
            · clear h2
              go_wp2
              · go_ret; exact ⟨_, rfl, rfl⟩
              · go_ret; exact ⟨_, rfl, rfl⟩
              · go_ret; exact ⟨_, rfl, rfl⟩
              · go_ret; exact ⟨_, rfl, rfl⟩
              · go_ret; exact ⟨_, rfl, rfl⟩
              · go_ret; exact ⟨_, rfl, rfl⟩
              · go_ret; exact ⟨_, rfl, rfl⟩
              · go_ret; exact ⟨_, rfl, rfl⟩
              · go_ret; exact ⟨_, rfl, rfl⟩
              · go_ret; exact ⟨_, rfl, rfl⟩
              go_loop [17, 21] (fun z i => ∃ (k : Nat) (y : Int), k ≤ n7 ∧ i = .int .i64 k ∧ z = .int .i64 y ∧ 0 ≤ y ∧ y ≤ 1048576) (fun _ i => n7 - (intOf i).toNat)
              case atStart => exact ⟨0, _, by omega, rfl, rfl, by omega, by omega⟩
              case round =>
                obtain ⟨k, y, hk, rfl, rfl, y1, y2⟩ := hrel
                by_cases hlt : k < n7
                · obtain ⟨b, o, rfl, hr⟩ := h7.out.2 (by omega)
                  obtain ⟨q0, q1, q2, q3, q4⟩ := ch5 hr hlt
                  clear hr
                  have b0 : (k : Int) < (n7 : Int) := by omega
                  go_wp2
                  · go_ret; exact ⟨_, rfl, rfl⟩
                  · go_ret; exact ⟨_, rfl, rfl⟩
                  · go_ret; exact ⟨_, rfl, rfl⟩
                  · go_ret; exact ⟨_, rfl, rfl⟩
                  · go_ret; exact ⟨_, rfl, rfl⟩
                  · go_ret; exact ⟨_, rfl, rfl⟩
                  go_round
                  case rel => exact ⟨k + 1, _, by omega, by go_num, rfl, by omega, by omega⟩
                  case measure => simp [intOf]; omega
                · clear h7
                  go_wp2
                  go_ret
                  exact ⟨_, rfl, rfl⟩

end Go.Proofs.Qxb6623453a
