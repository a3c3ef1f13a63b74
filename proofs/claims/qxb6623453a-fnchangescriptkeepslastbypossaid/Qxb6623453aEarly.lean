/- The ways on which the law's own guard on the lengths answers. -/
import Derived.Test.Qxb6623453aLaw
namespace Go.Proofs.Qxb6623453a
open Go.ChangeShapes Go.WideShapes Go.ChangeAt Go.RowKit
set_option linter.unusedVariables false

set_option maxHeartbeats 4000000 in
set_option maxRecDepth 100000 in
theorem early (a0 a1 a2 a7 : Option Addr) (n0 c0 n1 c1 n2 c2 n7 c7 : Nat) (s3 s4 s5 s6 : ByteArray) (f0 : Nat → Fd) (f1 : Nat → Ch) (f2 : Nat → Rc) (f7 : Nat → Ch) (w : World)
    (l0 : n0 ≤ maxLen) (l1 : n1 ≤ maxLen) (l2 : n2 ≤ maxLen) (l7 : n7 ≤ maxLen) (m3 : Hid (s3.size ≤ maxLen)) (m4 : Hid (s4.size ≤ maxLen)) (m5 : Hid (s5.size ≤ maxLen)) (m6 : Hid (s6.size ≤ maxLen))
    (h0 : Hid (In w a0 n0 4 (fdF f0))) (h1 : Hid (In w a1 n1 5 (chF f1))) (h2 : Hid (In w a2 n2 3 (rcF f2))) (h7 : Hid (In w a7 n7 5 (chF f7)))
    (hbad : ¬ (n0 ≤ 4096 ∧ n1 ≤ 4096 ∧ n2 ≤ 4096 ∧ n7 ≤ 4096)) :
    Calls Try.prog 3 #[.slice a0 n0 c0, .slice a1 n1 c1, .slice a2 n2 c2, .string s3, .string s4, .string s5, .string s6, .slice a7 n7 c7] w (Good w) := by
  have hcase : (4096 < n0) ∨ (n0 ≤ 4096 ∧ 4096 < n1) ∨ (n0 ≤ 4096 ∧ n1 ≤ 4096 ∧ 4096 < n2) ∨ (n0 ≤ 4096 ∧ n1 ≤ 4096 ∧ n2 ≤ 4096 ∧ 4096 < n7) := by omega
  clear hbad
  unfold maxLen at l0 l1 l2 l7
  rcases hcase with d | ⟨d, d1⟩ | ⟨d, d1, d2⟩ | ⟨d, d1, d2, d3⟩
  all_goals
    go_enter Try.func3, Try.ntmps3
    go_wp2_with fail
    refine (bytes a0 a1 a2 a7 n0 c0 n1 c1 n2 c2 n7 c7 s3 s4 s5 s6 f0 f1 f2 f7 w (by unfold maxLen; omega) (by unfold maxLen; omega) (by unfold maxLen; omega) (by unfold maxLen; omega) m3.out m4.out m5.out m6.out h0 h1 h2 h7).mono ?_
    rintro x w1 ⟨r, rfl, rfl⟩
    cases r
    · go_wp2
      go_ret
      exact ⟨rfl, Below.refl _ _⟩
    · go_wp2
      go_ret
      exact ⟨rfl, Below.refl _ _⟩

end Go.Proofs.Qxb6623453a
