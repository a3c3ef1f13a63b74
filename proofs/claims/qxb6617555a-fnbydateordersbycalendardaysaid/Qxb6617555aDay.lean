/- 'zzParseDay' -/
import Derived.Test.Qxb6617555aParse
import Derived.Deep.Light
namespace Go.Proofs.Qxb6617555a
open Go.ChangeShapes Go.WideShapes Go.ChangeAt Go.RowKit

abbrev notDay : Value := .tuple #[.int .i64 0, .int .i64 0, .int .i64 0, .bool false]

theorem parse_short (s : ByteArray) (w : World) (hs : ((s.size : Int) == 10) = false) :
    Calls Try.prog 5 #[.string s] w fun e w' => e = .returned notDay ∧ w' = w := by
  go_enter Try.func5, Try.ntmps5
  go_wp2
  exact bodyPost_ret (v := notDay) (by simp [results, Try.results5, go_sem]) rfl ⟨rfl, rfl⟩

/-- The byte at k, as a number (0 beyond the end). -/
def byteAt (s : ByteArray) (k : Nat) : Int := if h : k < s.size then (s[k].toNat : Int) else 0

def Dig (s : ByteArray) (k : Nat) : Prop := 48 ≤ byteAt s k ∧ byteAt s k ≤ 57

def Good (s : ByteArray) (y m d : Int) : Prop :=
  s.size = 10 ∧ byteAt s 4 = 45 ∧ byteAt s 7 = 45 ∧ (∀ k, k < 10 → k ≠ 4 → k ≠ 7 → Dig s k) ∧
  y = (byteAt s 0 - 48) * 1000 + (byteAt s 1 - 48) * 100 + (byteAt s 2 - 48) * 10 + (byteAt s 3 - 48) ∧ m = (byteAt s 5 - 48) * 10 + (byteAt s 6 - 48) ∧ d = (byteAt s 8 - 48) * 10 + (byteAt s 9 - 48)

def Parsed (s : ByteArray) (w : World) (e : Ending) (w' : World) : Prop :=
  (e = .returned notDay ∧ w' = w) ∨ ∃ y m d : Int, Good s y m d ∧ e = .returned (.tuple #[.int .i64 y, .int .i64 m, .int .i64 d, .bool true]) ∧ ∃ n, w' = w.drewN n

theorem good_of (s : ByteArray) (hz : s.size = 10) (hd : ∀ j, j < 10 → j ≠ 4 → j ≠ 7 → Dig s j) (c4 : (s[4].toNat : Int) = 45) (c7 : (s[7].toNat : Int) = 45) :
    Good s (((s[0].toNat : Int) - (48 : Int)) * (1000 : Int) + ((s[1].toNat : Int) - (48 : Int)) * (100 : Int) + ((s[2].toNat : Int) - (48 : Int)) * (10 : Int) + ((s[3].toNat : Int) - (48 : Int))) (((s[5].toNat : Int) - (48 : Int)) * (10 : Int) + ((s[6].toNat : Int) - (48 : Int))) (((s[8].toNat : Int) - (48 : Int)) * (10 : Int) + ((s[9].toNat : Int) - (48 : Int))) := by
  have e : ∀ k (h : k < s.size), byteAt s k = (s[k].toNat : Int) := fun k h => dif_pos h
  refine ⟨hz, by rw [e 4 (by omega)]; exact c4, by rw [e 7 (by omega)]; exact c7, hd, ?_, ?_, ?_⟩
  · rw [e 0 (by omega), e 1 (by omega), e 2 (by omega), e 3 (by omega)]
  · rw [e 5 (by omega), e 6 (by omega)]
  · rw [e 8 (by omega), e 9 (by omega)]

theorem drewN_drewN (w : World) (a b : Nat) : (w.drewN a).drewN b = w.drewN (a + b) := by
  simp [World.drewN, Nat.add_assoc]

theorem drew3 (w : World) (a b c : Nat) : ∃ n, ((w.drewN a).drewN b).drewN c = w.drewN n := ⟨a + (b + c), by rw [drewN_drewN, drewN_drewN]⟩

set_option maxHeartbeats 1000000 in
theorem parse_ten (s : ByteArray) (w : World) (hs : ((s.size : Int) == 10) = true) (h4 : (4 : Int) < (s.size : Int)) (h7 : (7 : Int) < (s.size : Int)) :
    Calls Try.prog 5 #[.string s] w (Parsed s w) := by
  go_enter Try.func5, Try.ntmps5
  go_wp2
  rotate_left
  rotate_left
  · exact bodyPost_ret (v := notDay) (by simp [results, Try.results5, go_sem]) rfl (.inl ⟨rfl, rfl⟩)
  · exact bodyPost_ret (v := notDay) (by simp [results, Try.results5, go_sem]) rfl (.inl ⟨rfl, rfl⟩)
  go_loop [6] (fun i => ∃ k : Nat, k ≤ 10 ∧ i = .int .i64 k ∧ Hid (∀ j, j < k → j ≠ 4 → j ≠ 7 → Dig s j)) (fun i => 10 - (intOf i).toNat)
  case atStart => exact ⟨0, by omega, rfl, fun j hj => absurd hj (Nat.not_lt_zero j)⟩
  case round =>
    obtain ⟨k, hk, rfl, hdig⟩ := hrel
    by_cases hlt : k < 10
    · have hks : (k : Int) < (s.size : Int) := by simp at hs; omega
      have hks' : k < s.size := by omega
      by_cases e4 : k = 4
      · subst e4
        go_wp2
        go_round
        case rel => exact ⟨5, by omega, rfl, fun j hj h4 h7 => hdig.out j (by omega) h4 h7⟩
        case measure => simp [intOf]
      by_cases e7 : k = 7
      · subst e7
        go_wp2
        go_round
        case rel => exact ⟨8, by omega, rfl, fun j hj h4 h7 => hdig.out j (by omega) h4 h7⟩
        case measure => simp [intOf]
      have n4 : ((k : Int) == 4) = false := by simp; omega
      have n7 : ((k : Int) == 7) = false := by simp; omega
      by_cases hlo : (s[k].toNat : Int) < 48
      · go_wp2
        exact bodyPost_ret (v := notDay) (by simp [results, Try.results5, go_sem]) rfl (.inl ⟨rfl, rfl⟩)
      by_cases hhi : 57 < (s[k].toNat : Int)
      · go_wp2
        exact bodyPost_ret (v := notDay) (by simp [results, Try.results5, go_sem]) rfl (.inl ⟨rfl, rfl⟩)
      · go_wp2
        go_round
        case rel => exact ⟨k + 1, by omega, by go_num, fun j hj h4 h7 => by
          by_cases e : j = k
          · subst e
            unfold Dig byteAt
            rw [dif_pos hks']
            omega
          · exact hdig.out j (by omega) h4 h7⟩
        case measure => simp [intOf]; omega
    · obtain rfl : k = 10 := by omega
      have hz : s.size = 10 := by simp at hs; omega
      have F : ∀ j, j < 10 → j ≠ 4 → j ≠ 7 → ∃ h : j < s.size, 48 ≤ (s[j].toNat : Int) ∧ (s[j].toNat : Int) ≤ 57 := fun j hj h4 h7 => by
        have := hdig.out j hj h4 h7
        unfold Dig byteAt at this
        rw [dif_pos (by omega)] at this
        exact ⟨by omega, this⟩
      obtain ⟨g0, l0, u0⟩ := F 0 (by omega) (by omega) (by omega)
      obtain ⟨g1, l1, u1⟩ := F 1 (by omega) (by omega) (by omega)
      obtain ⟨g2, l2, u2⟩ := F 2 (by omega) (by omega) (by omega)
      obtain ⟨g3, l3, u3⟩ := F 3 (by omega) (by omega) (by omega)
      obtain ⟨g5, l5, u5⟩ := F 5 (by omega) (by omega) (by omega)
      obtain ⟨g6, l6, u6⟩ := F 6 (by omega) (by omega) (by omega)
      obtain ⟨g8, l8, u8⟩ := F 8 (by omega) (by omega) (by omega)
      obtain ⟨g9, l9, u9⟩ := F 9 (by omega) (by omega) (by omega)
      have i0 : (0 : Int) < (s.size : Int) := by omega
      have i1 : (1 : Int) < (s.size : Int) := by omega
      have i2 : (2 : Int) < (s.size : Int) := by omega
      have i3 : (3 : Int) < (s.size : Int) := by omega
      have i5 : (5 : Int) < (s.size : Int) := by omega
      have i6 : (6 : Int) < (s.size : Int) := by omega
      have i8 : (8 : Int) < (s.size : Int) := by omega
      have i9 : (9 : Int) < (s.size : Int) := by omega
      have HZ : Hid (s.size = 10) := hz
      clear F hz
      go_wp2
      go_quiet (fail)
      go_wp2
      go_quiet (fail)
      go_wp2
      go_quiet (fail)
      go_wp2
      go_light
      have c4 : (s[4].toNat : Int) = 45 := by assumption
      have c7 : (s[7].toNat : Int) = 45 := by
        have : ((s[7].toNat : Int) != 45) = false := by assumption
        simpa using this
      have G := good_of s HZ.out hdig.out c4 c7
      refine bodyPost_ret (v := .tuple #[.int .i64 _, .int .i64 _, .int .i64 _, .bool true]) (by simp [results, Try.results5, go_sem]) rfl (.inr ⟨_, _, _, G, rfl, ?_⟩)
      exact drew3 _ _ _ _

theorem parse (s : ByteArray) (w : World) : Calls Try.prog 5 #[.string s] w (Parsed s w) := by
  by_cases h : s.size = 10
  · exact parse_ten s w (by simp [h]) (by omega) (by omega)
  · exact (parse_short s w (by simp; omega)).mono fun e w' h => .inl h

end Go.Proofs.Qxb6617555a
