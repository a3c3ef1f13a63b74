/-
  A PROOF OF 'Rows.FnWithDefaultsWholeSaid' ('example.com/wirelace/wirelace/zzlaws_root_b1.FnWithDefaultsWhole'): the guide's shell, its hole filled: the callee 'withDefaults' by a contract (three plain functions of one field each), the law out of five uses of it.
-/
import Derived.Test.Qxb6623351aRows
import Derived.WalkKit
import Derived.ProofKit
import Derived.OpenShut
import Derived.ShutString
namespace Go.Proofs.Qxb6623351a.fnWithDefaultsWhole
open Go.ChangeShapes Go.WideShapes Go.ChangeAt Go.RowKit
open Go.ChangeMaps (open_string shut_string)
set_option linter.unusedVariables false      -- a walk need not use every 'w<i>' (that an integer argument fits its kind)

theorem own : ownKnob Try.prog.godebug = none := by kernel_rfl


/-! ### THE PLAIN FUNCTIONS -/
def fM (m : Int) : Int := if m ≤ 0 then 67108864 else m
def fD (d : Int) : Int := if d ≤ 0 then 65536 else if d ≤ 262144 then d else 262144
def fT (t : Int) : Int := if t ≤ 0 then 524288 else t

theorem fM_pos (m : Int) : ¬ fM m ≤ 0 := by unfold fM; split <;> omega
theorem fT_pos (t : Int) : ¬ fT t ≤ 0 := by unfold fT; split <;> omega
theorem fD_pos (d : Int) : ¬ fD d ≤ 0 := by unfold fD; split <;> (try split) <;> omega
theorem fD_le (d : Int) : fD d ≤ 262144 := by unfold fD; split <;> (try split) <;> omega
theorem fM_fM (m : Int) : fM (fM m) = fM m := by have := fM_pos m; rw [fM, if_neg this]
theorem fT_fT (t : Int) : fT (fT t) = fT t := by have := fT_pos t; rw [fT, if_neg this]
theorem fD_fD (d : Int) : fD (fD d) = fD d := by have h1 := fD_pos d; have h2 := fD_le d; rw [fD, if_neg h1, if_pos h2]

abbrev lim (m d t : Int) : Value := .agg #[.int .i64 m, .int .i64 d, .int .i64 t]
abbrev blk (m d t : Int) : Obj := .cells #[.int .i64 m, .int .i64 d, .int .i64 t] 23

/-! ### THE CALLEES -/
theorem fM_lo {m : Int} (h : m ≤ 0) : fM m = 67108864 := if_pos h
theorem fM_hi {m : Int} (h : ¬ m ≤ 0) : fM m = m := if_neg h
theorem fT_lo {t : Int} (h : t ≤ 0) : fT t = 524288 := if_pos h
theorem fT_hi {t : Int} (h : ¬ t ≤ 0) : fT t = t := if_neg h
theorem fD_lo {d : Int} (h : d ≤ 0) : fD d = 65536 := if_pos h
theorem fD_mid {d : Int} (h : ¬ d ≤ 0) (hc : d ≤ 262144) : fD d = d := by rw [fD, if_neg h, if_pos hc]
theorem fD_hi {d : Int} (h : ¬ d ≤ 0) (hc : ¬ d ≤ 262144) : fD d = 262144 := by rw [fD, if_neg h, if_neg hc]

/-- '(Limits).withDefaults', at what its three fields come to in one case. -/
theorem wd0 (m d t M D T : Int) (hM : (m ≤ 0 ∧ M = 67108864) ∨ (¬ m ≤ 0 ∧ M = m)) (hT : (t ≤ 0 ∧ T = 524288) ∨ (¬ t ≤ 0 ∧ T = t))
    (hD : (d ≤ 0 ∧ D = 65536) ∨ (¬ d ≤ 0 ∧ d ≤ 262144 ∧ D = d) ∨ (¬ d ≤ 0 ∧ ¬ d ≤ 262144 ∧ D = 262144)) (w : World) :
    Calls Try.prog 6 #[lim m d t] w fun e w' => e = .returned (lim M D T) ∧ w' = (w.alloc (blk M D T)).alloc (blk M D T) := by
  rcases hM with ⟨hm, rfl⟩ | ⟨hm, rfl⟩ <;> rcases hT with ⟨ht, rfl⟩ | ⟨ht, rfl⟩ <;> rcases hD with ⟨hd, rfl⟩ | ⟨hd, hc, rfl⟩ | ⟨hd, hc, rfl⟩
  all_goals
    go_enter Try.func6, Try.ntmps6
    go_wp2
    exact bodyPost_ret (v := lim _ _ _) (by simp [results, Try.results6, go_sem]) rfl ⟨rfl, rfl⟩

theorem wd (m d t : Int) (w : World) :
    Calls Try.prog 6 #[lim m d t] w fun e w' => e = .returned (lim (fM m) (fD d) (fT t)) ∧ w' = (w.alloc (blk (fM m) (fD d) (fT t))).alloc (blk (fM m) (fD d) (fT t)) := by
  refine wd0 m d t _ _ _ ?_ ?_ ?_ w
  · by_cases h : m ≤ 0
    · exact .inl ⟨h, fM_lo h⟩
    · exact .inr ⟨h, fM_hi h⟩
  · by_cases h : t ≤ 0
    · exact .inl ⟨h, fT_lo h⟩
    · exact .inr ⟨h, fT_hi h⟩
  · by_cases h : d ≤ 0
    · exact .inl ⟨h, fD_lo h⟩
    · by_cases hc : d ≤ 262144
      · exact .inr (.inl ⟨h, hc, fD_mid h hc⟩)
      · exact .inr (.inr ⟨h, hc, fD_hi h hc⟩)

/-- 'ZZWithDefaults'. -/
theorem zz (m d t : Int) (w : World) :
    Calls Try.prog 4 #[lim m d t] w fun e w' => e = .returned (lim (fM m) (fD d) (fT t)) ∧ w' = (((w.alloc (blk m d t)).alloc (blk (fM m) (fD d) (fT t))).alloc (blk (fM m) (fD d) (fT t))).alloc (blk (fM m) (fD d) (fT t)) := by
  go_enter Try.func4, Try.ntmps4
  go_wp2_with (go_at_call 6; refine (wd _ _ _ _).mono ?_; rintro e w' ⟨rfl, rfl⟩)
  exact bodyPost_ret (v := lim _ _ _) (by simp [results, Try.results4, go_sem]) rfl ⟨rfl, rfl⟩

/-! ### STEP 1: THE WALK -/
/-- What 'ZZWithDefaults' makes of three blocks more. -/
abbrev after (w : World) (m d t M D T : Int) : World := (((w.alloc (blk m d t)).alloc (blk M D T)).alloc (blk M D T)).alloc (blk M D T)

set_option maxHeartbeats 4000000 in
theorem walk0 (a0 a1 a2 : Int) (M D T : Int) (hM : (a0 ≤ 0 ∧ M = 67108864) ∨ (¬ a0 ≤ 0 ∧ M = a0)) (hT : (a2 ≤ 0 ∧ T = 524288) ∨ (¬ a2 ≤ 0 ∧ T = a2))
    (hD : (a1 ≤ 0 ∧ D = 65536) ∨ (¬ a1 ≤ 0 ∧ a1 ≤ 262144 ∧ D = a1) ∨ (¬ a1 ≤ 0 ∧ ¬ a1 ≤ 262144 ∧ D = 262144))
    (z1 : Hid (∀ w, Calls Try.prog 4 #[lim a0 a1 a2] w fun e w' => e = .returned (lim M D T) ∧ w' = after w a0 a1 a2 M D T))
    (z2 : Hid (∀ w, Calls Try.prog 4 #[lim M D T] w fun e w' => e = .returned (lim M D T) ∧ w' = after w M D T M D T))
    (z3 : Hid (∀ w, Calls Try.prog 4 #[lim a0 0 0] w fun e w' => e = .returned (lim M 65536 524288) ∧ w' = after w a0 0 0 M 65536 524288))
    (z4 : Hid (∀ w, Calls Try.prog 4 #[lim 0 a1 0] w fun e w' => e = .returned (lim 67108864 D 524288) ∧ w' = after w 0 a1 0 67108864 D 524288))
    (z5 : Hid (∀ w, Calls Try.prog 4 #[lim 0 0 a2] w fun e w' => e = .returned (lim 67108864 65536 T) ∧ w' = after w 0 0 a2 67108864 65536 T))
    (w : World) :
    Calls Try.prog 3 #[.int .i64 a0, .int .i64 a1, .int .i64 a2] w fun e w' => e = .returned (.bool true) ∧ Grown w w' := by
  rcases hM with ⟨hm, rfl⟩ | ⟨hm, rfl⟩ <;> rcases hT with ⟨ht, rfl⟩ | ⟨ht, rfl⟩ <;> rcases hD with ⟨hd, rfl⟩ | ⟨hd, hc, rfl⟩ | ⟨hd, hc, rfl⟩
  all_goals
    go_enter Try.func3, Try.ntmps3
    go_wp2_with fail
    refine (z1.out _).mono ?_
    rintro e w' ⟨rfl, rfl⟩
    go_wp2_with (go_at_call 5; go_in)
    refine (z2.out _).mono ?_
    rintro e w' ⟨rfl, rfl⟩
    go_wp2_with fail
    refine (z3.out _).mono ?_
    rintro e w' ⟨rfl, rfl⟩
    go_wp2_with fail
    refine (z4.out _).mono ?_
    rintro e w' ⟨rfl, rfl⟩
    go_wp2_with fail
    refine (z5.out _).mono ?_
    rintro e w' ⟨rfl, rfl⟩
    go_wp2_with fail
    go_ret
    refine ⟨rfl, ?_⟩
    iterate 26 refine Grown.alloc ?_ _ _
    exact Grown.refl _

theorem walk (a0 : Int) (a1 : Int) (a2 : Int) (w0 : (Lit.int .i64 a0).wf = true) (w1 : (Lit.int .i64 a1).wf = true) (w2 : (Lit.int .i64 a2).wf = true) (w : World) :
    Calls Try.prog 3 #[.int .i64 a0, .int .i64 a1, .int .i64 a2] w fun e w' => e = .returned (.bool true) ∧ Grown w w' := by
  refine walk0 a0 a1 a2 (fM a0) (fD a1) (fT a2) ?_ ?_ ?_ (fun w => zz a0 a1 a2 w) ?_ (fun w => zz a0 0 0 w) (fun w => zz 0 a1 0 w) (fun w => zz 0 0 a2 w) w
  · by_cases h : a0 ≤ 0
    · exact .inl ⟨h, fM_lo h⟩
    · exact .inr ⟨h, fM_hi h⟩
  · by_cases h : a2 ≤ 0
    · exact .inl ⟨h, fT_lo h⟩
    · exact .inr ⟨h, fT_hi h⟩
  · by_cases h : a1 ≤ 0
    · exact .inl ⟨h, fD_lo h⟩
    · by_cases hc : a1 ≤ 262144
      · exact .inr (.inl ⟨h, hc, fD_mid h hc⟩)
      · exact .inr (.inr ⟨h, hc, fD_hi h hc⟩)
  · intro w
    have := zz (fM a0) (fD a1) (fT a2) w
    rw [fM_fM, fD_fD, fT_fT] at this
    exact this

/-! ### THE ROW's STEP: WRITTEN OUT: LEAVE IT -/
set_option maxRecDepth 100000 in
theorem lifted (os : Os) (started : os.Started) (H : Type) (enc : TypeId × Value → H) :
    ReturnsInHanded {} Try.checked os 3 .any (Rows.fnWithDefaultsWholeSpec.pre6 enc Try.prog Try.f3 Rows.fnWithDefaultsWholeRow.domain false) (Rows.fnWithDefaultsWholeSpec.post enc Try.prog Try.f3 false true false false) := by
  refine returnsInHanded_of_change (C := Try.checked) own started (by kernel_rfl) Try.func3
    (ChangeSpec.witness6 (enc := enc) (C := Try.checked) false ⟨#[], #[.int .i64 0, .int .i64 0, .int .i64 0], []⟩ 8 (by kernel_rfl) (by kernel_rfl) (by kernel_rfl) (by kernel_rfl)) ?_
  intro W base args ds gs before hval0 hW hcnd _
  have hval : ∀ (j : Nat) t v, Try.f3.params[j]? = some t → args[j]? = some v → Value.okWide Try.prog W .any base t v := hval0
  have hW' := hW
  obtain ⟨p, q, hA0, hV, rfl, hfz, hnd⟩ := hW
  have hA : DataW.TrodAll enc Try.prog W 0 (fun _ => true) true Try.f3.params.toList args.toList ds p := hA0
  rw [Try.params3] at hA hval
  obtain ⟨v0, vs0, d0, ds0, p0, q0, hargs, rfl, rfl, h0, r0⟩ := trodAll_cons hA
  obtain ⟨v1, vs1, d1, ds1, p1, q1, rfl, rfl, rfl, h1, r1⟩ := trodAll_cons r0
  obtain ⟨v2, vs2, d2, ds2, p2, q2, rfl, rfl, rfl, h2, r2⟩ := trodAll_cons r1
  obtain ⟨rfl, rfl, rfl⟩ := trodAll_nil r2
  obtain rfl : args = #[v0, v1, v2] := by cases args; simp_all
  obtain ⟨rfl, rfl⟩ := trodVars_none hV
  obtain ⟨a0, rfl, rfl, rfl, w0⟩ := open_int Try.underlying3 (hval 0 3 v0 rfl rfl) h0
  obtain ⟨a1, rfl, rfl, rfl, w1⟩ := open_int Try.underlying3 (hval 1 3 v1 rfl rfl) h1
  obtain ⟨a2, rfl, rfl, rfl, w2⟩ := open_int Try.underlying3 (hval 2 3 v2 rfl rfl) h2
  clear hA0 hval0
  simp only [List.append_nil] at hW'
  refine (walk a0 a1 a2 w0 w1 w2 W).mono fun e W' ⟨he, hg⟩ => ?_
  subst he
  exact ⟨_, rfl, post_of_same (pa := []) (pv := []) hW' (fun _ _ _ => (trodAll_cons_mk (shut_bool Try.underlying4 _) trodAll_mk0)) (fun sp _ => (trodAll_cons_mk (shut_int Try.underlying3 w0) (trodAll_cons_mk (shut_int Try.underlying3 w1) (trodAll_cons_mk (shut_int Try.underlying3 w2) trodAll_mk0)))) (fun _ _ => rfl) rfl
    (hg.frame _) hg.2.1 (ok_one (by kernel_rfl) rfl (okWide_bool_mk Try.underlying4 _))⟩

theorem over : Rows.fnWithDefaultsWholeRow.holds Try.pinned (OpenSpec.ofChange Rows.fnWithDefaultsWholeSpec) :=
  OpenClaim.holds_of_wide 3 Try.f3 rfl rfl rfl rfl rfl rfl rfl ⟨rfl, rfl, rfl, rfl, rfl⟩ rfl rfl rfl rfl rfl (by kernel_rfl) Try.func3 (by kernel_rfl)
    (of_decide_eq_true (by kernel_rfl)) (by unfold Func.isWrapper; first | (rw [if_pos (by decide +kernel)]; kernel_rfl) | (rw [if_neg (by decide +kernel)]; exact ⟨rfl, rfl⟩))
    (fun os started H enc _ => lifted os started H enc)

/-- ████ THE STATEMENT ████ -/
theorem proved : Rows.FnWithDefaultsWholeSaid :=
  over
#print axioms proved
end Go.Proofs.Qxb6623351a.fnWithDefaultsWhole
