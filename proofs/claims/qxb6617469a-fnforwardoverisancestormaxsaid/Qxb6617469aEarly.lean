/- The ways on which the law's own guards answer. -/
import Derived.Test.Qxb6617469aBase
namespace Go.Proofs.Qxb6617469a
open Go.ChangeShapes Go.WideShapes Go.ChangeAt Go.RowKit

/-- The law's guards let the input by. -/
def Let (l0 l1 l2 l3 : Nat) (s m e : Int) : Prop := l0 ≤ 4096 ∧ l1 ≤ 4096 ∧ l2 ≤ 4096 ∧ l3 ≤ 4097 ∧ 0 ≤ s ∧ s ≤ m ∧ m ≤ e ∧ e ≤ l0 ∧ e ≤ l1 ∧ e ≤ l2 ∧ e < l3

set_option maxHeartbeats 4000000 in
set_option maxRecDepth 100000 in
theorem early (a0 a1 a2 a3 : Option Addr) (l0 c0 l1 c1 l2 c2 l3 c3 : Nat) (t s m e : Int) (w : World) (h0 : l0 ≤ maxLen) (h1 : l1 ≤ maxLen) (h2 : l2 ≤ maxLen) (h3 : l3 ≤ maxLen)
    (bs : -2147483648 ≤ s ∧ s ≤ 2147483647) (bm : -2147483648 ≤ m ∧ m ≤ 2147483647) (be : -2147483648 ≤ e ∧ e ≤ 2147483647) (hbad : ¬ Let l0 l1 l2 l3 s m e) :
    Calls Try.prog 3 #[.slice a0 l0 c0, .slice a1 l1 c1, .slice a2 l2 c2, .slice a3 l3 c3, .int .i32 t, .int .i32 s, .int .i32 m, .int .i32 e] w fun x w' => x = .returned (.bool true) ∧ w' = w := by
  obtain ⟨bs1, bs2⟩ := bs
  obtain ⟨bm1, bm2⟩ := bm
  obtain ⟨be1, be2⟩ := be
  have hcase : (4096 < l0) ∨ (l0 ≤ 4096 ∧ 4096 < l1) ∨ (l0 ≤ 4096 ∧ l1 ≤ 4096 ∧ 4096 < l2) ∨ (l0 ≤ 4096 ∧ l1 ≤ 4096 ∧ l2 ≤ 4096 ∧ 4097 < l3) ∨ ((l0 ≤ 4096 ∧ l1 ≤ 4096 ∧ l2 ≤ 4096 ∧ l3 ≤ 4097) ∧
      (s < 0 ∨ (0 ≤ s ∧ m < s) ∨ (0 ≤ s ∧ s ≤ m ∧ e < m) ∨ (0 ≤ s ∧ s ≤ m ∧ m ≤ e ∧ ((l0 : Int) < e ∨ (e ≤ l0 ∧ (l1 : Int) < e) ∨ (e ≤ l0 ∧ e ≤ l1 ∧ (l2 : Int) < e) ∨ (e ≤ l0 ∧ e ≤ l1 ∧ e ≤ l2 ∧ (l3 : Int) ≤ e))))) := by
    unfold Let at hbad
    omega
  clear hbad
  unfold maxLen at h0 h1 h2 h3
  rcases hcase with d | ⟨d, d1⟩ | ⟨d, d1, d2⟩ | ⟨d, d1, d2, d3⟩ | ⟨⟨d, d1, d2, d3⟩, f | ⟨f, f1⟩ | ⟨f, f1, f2⟩ | ⟨f, f1, f2, g | ⟨g, g1⟩ | ⟨g, g1, g2⟩ | ⟨g, g1, g2, g3⟩⟩⟩
  all_goals
    go_enter Try.func3, Try.ntmps3
    go_wp2_with fail
    refine (bytes _ _ _ _ _ _ _ _ _ _ _ _ _ _ _ _ _ (by unfold maxLen; omega) (by unfold maxLen; omega) (by unfold maxLen; omega) (by unfold maxLen; omega)).mono ?_
    rintro x w' ⟨r, rfl, rfl⟩
    cases r
    · go_wp2
      go_ret
      exact ⟨rfl, rfl⟩
    · go_wp2
      go_ret
      exact ⟨rfl, rfl⟩

end Go.Proofs.Qxb6617469a
