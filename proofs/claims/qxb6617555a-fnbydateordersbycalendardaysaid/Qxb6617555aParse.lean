/- The contracts of the callees of 'FnByDateOrdersByCalendarDay'. -/
import Derived.Test.Qxb6617555aRows
import Derived.WalkKit
import Derived.ProofKit
import Derived.ShutString
import Derived.Outline
import Derived.Deep.QuietTactic
import Derived.BigQuiet
import Derived.Lib.Strings
import Derived.Lib.Slices
import Derived.Lib.Walk
import Derived.Lib.Bytealg
namespace Go.Proofs.Qxb6617555a
open Go.ChangeShapes Go.WideShapes Go.ChangeAt Go.RowKit
open Go.ChangeMaps (open_string shut_string)

set_option maxHeartbeats 1000000 in
set_option maxRecDepth 100000 in
theorem compareString (a b : ByteArray) (w : World) :
    Calls Try.prog 10 #[.string a, .string b] w fun e w' => e = .returned (.int .i64 (Lib.compareBytes a.data.toList b.data.toList)) ∧ w' = w := by
  go_enter Try.func10, Try.ntmps10
  go_wp2
  rw [run_callFunc_extern Try.func11 (by kernel_rfl) (by kernel_rfl) (by kernel_rfl) (e := Extern.BytealgCompare.compare) (by kernel_rfl), Lib.run_compareString]
  simp only [Result.andThen]
  rw [Oper.upon_value]
  go_wp2
  go_ret
  exact ⟨rfl, rfl⟩

theorem stringsCompare (a b : ByteArray) (w : World) :
    Calls Try.prog 9 #[.string a, .string b] w fun e w' => e = .returned (.int .i64 (Lib.compareBytes a.data.toList b.data.toList)) ∧ w' = w := by
  go_enter Try.func9, Try.ntmps9
  go_wp2_with (go_at_call 10; refine (compareString _ _ _).mono ?_; rintro e w' ⟨rfl, rfl⟩)
  go_ret
  exact ⟨rfl, rfl⟩

abbrev dec (d t : ByteArray) : Value := .agg #[.string d, .string t]
abbrev decBlk (d t : ByteArray) : Obj := .cells #[.string d, .string t] 27

theorem byDate (a ta b tb : ByteArray) (w : World) :
    Calls Try.prog 8 #[dec a ta, dec b tb] w fun e w' => e = .returned (.int .i64 (Lib.compareBytes a.data.toList b.data.toList)) ∧ w' = (w.alloc (decBlk a ta)).alloc (decBlk b tb) := by
  go_enter Try.func8, Try.ntmps8
  go_wp2_with (go_at_call 9; refine (stringsCompare _ _ _).mono ?_; rintro e w' ⟨rfl, rfl⟩)
  go_ret
  exact ⟨rfl, rfl⟩

def sgn (x : Int) : Int := if x < 0 then -1 else if 0 < x then 1 else 0

theorem zzSign (x : Int) (w : World) : Calls Try.prog 7 #[.int .i64 x] w fun e w' => e = .returned (.int .i64 (sgn x)) ∧ w' = w := by
  by_cases h1 : x < 0
  · rw [show sgn x = -1 from if_pos h1]
    go_enter Try.func7, Try.ntmps7
    go_wp2
    go_ret
    exact ⟨rfl, rfl⟩
  · by_cases h2 : 0 < x
    · rw [show sgn x = 1 by rw [sgn, if_neg h1, if_pos h2]]
      go_enter Try.func7, Try.ntmps7
      go_wp2
      go_ret
      exact ⟨rfl, rfl⟩
    · rw [show sgn x = 0 by rw [sgn, if_neg h1, if_neg h2]]
      go_enter Try.func7, Try.ntmps7
      go_wp2
      go_ret
      exact ⟨rfl, rfl⟩

/-- What 'zzCmpDay' answers. -/
def cmpDay (ya ma da yb mb db : Int) : Int :=
  if ya < yb then -1 else if yb < ya then 1 else if ma < mb then -1 else if mb < ma then 1 else if da < db then -1 else if db < da then 1 else 0

set_option maxHeartbeats 1000000 in
theorem zzCmpDay (ya ma da yb mb db : Int) (w : World) :
    Calls Try.prog 6 #[.int .i64 ya, .int .i64 ma, .int .i64 da, .int .i64 yb, .int .i64 mb, .int .i64 db] w fun e w' => e = .returned (.int .i64 (cmpDay ya ma da yb mb db)) ∧ w' = w := by
  by_cases h1 : ya < yb
  · have hne : (ya == yb) = false := by simp; omega
    rw [show cmpDay ya ma da yb mb db = -1 by simp [cmpDay, h1]]
    go_enter Try.func6, Try.ntmps6
    go_wp2
    go_ret
    exact ⟨rfl, rfl⟩
  by_cases h2 : yb < ya
  · have hne : (ya == yb) = false := by simp; omega
    rw [show cmpDay ya ma da yb mb db = 1 by simp [cmpDay, h1, h2]]
    go_enter Try.func6, Try.ntmps6
    go_wp2
    go_ret
    exact ⟨rfl, rfl⟩
  obtain rfl : ya = yb := by omega
  by_cases h3 : ma < mb
  · have hne : (ma == mb) = false := by simp; omega
    rw [show cmpDay ya ma da ya mb db = -1 by simp [cmpDay, h3]]
    go_enter Try.func6, Try.ntmps6
    go_wp2
    go_ret
    exact ⟨rfl, rfl⟩
  by_cases h4 : mb < ma
  · have hne : (ma == mb) = false := by simp; omega
    rw [show cmpDay ya ma da ya mb db = 1 by simp [cmpDay, h3, h4]]
    go_enter Try.func6, Try.ntmps6
    go_wp2
    go_ret
    exact ⟨rfl, rfl⟩
  obtain rfl : ma = mb := by omega
  by_cases h5 : da < db
  · have hne : (da == db) = false := by simp; omega
    rw [show cmpDay ya ma da ya ma db = -1 by simp [cmpDay, h5]]
    go_enter Try.func6, Try.ntmps6
    go_wp2
    go_ret
    exact ⟨rfl, rfl⟩
  by_cases h6 : db < da
  · have hne : (da == db) = false := by simp; omega
    rw [show cmpDay ya ma da ya ma db = 1 by simp [cmpDay, h5, h6]]
    go_enter Try.func6, Try.ntmps6
    go_wp2
    go_ret
    exact ⟨rfl, rfl⟩
  obtain rfl : da = db := by omega
  rw [show cmpDay ya ma da ya ma da = 0 by simp [cmpDay]]
  go_enter Try.func6, Try.ntmps6
  go_wp2
  go_ret
  exact ⟨rfl, rfl⟩

end Go.Proofs.Qxb6617555a
