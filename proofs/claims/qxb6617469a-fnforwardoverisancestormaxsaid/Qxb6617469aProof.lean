/- A PROOF OF 'Rows.FnForwardOverIsAncestorMaxSaid'. -/
import Derived.Test.Qxb6617469aRows
import Derived.Test.Qxb6617469aLaw
import Derived.Test.Qxb6617469aEarly
import Derived.OpenShut
import Derived.ChangeOld
import Derived.Below
import Derived.Deep.Slices
namespace Go.Proofs.Qxb6617469a.fnForwardOverIsAncestorMax
open Go.ChangeShapes Go.WideShapes Go.ChangeAt Go.RowKit
set_option linter.unusedVariables false

theorem own : ownKnob Try.prog.godebug = none := by kernel_rfl
theorem laidOut : laidOutB Try.prog = true := by kernel_rfl
theorem Try.cells21 : Try.prog.cellsOf 21 = 1 := by kernel_rfl
theorem Try.cells25 : Try.prog.cellsOf 25 = 2 := by kernel_rfl

/-! ### The arguments opened -/

/-- A []int32 that came in. -/
theorem open1 {H : Type} {enc : TypeId × Value → H} {W : World} {spare : Nat → Bool} {held : Bool} {fuel : Nat} {a : Option Addr} {len cap : Nat} {x : DataW H × List MemPlace}
    (h : DataW.trod enc Try.prog W 0 spare held fuel 23 (Value.slice a len cap).cells.toList = some x) : len ≤ maxLen ∧ ∃ f, In1 W a len f := by
  rcases Deep.open_slice1 Try.underlying23 Try.cells21 h with ⟨hcs, _⟩ | ⟨ad, l, c, m, n, V, D, Pl, hcs, _, hl, hm, hmm, _, hx⟩
  · simp [Value.cells] at hcs
    obtain ⟨rfl, rfl, rfl⟩ := hcs
    exact ⟨by unfold maxLen; omega, fun _ => 0, fun _ => rfl, fun h => by omega⟩
  · simp [Value.cells] at hcs
    obtain ⟨rfl, rfl, rfl⟩ := hcs
    have hlm : len ≤ m := by rw [hmm]; split <;> omega
    have key : ∀ i, i < len → ∃ z : Int, W.cell? (ad.add i) = some (.int .i32 z) := fun i hi => by
      obtain ⟨h1, h2⟩ := hx i (by omega)
      obtain ⟨z, hz, _, _⟩ := DataW.trod_int Try.underlying21 h2
      simp at hz
      exact ⟨z, by rw [h1, hz]⟩
    obtain ⟨f, hf⟩ := Deep.choose_lt key
    refine ⟨by omega, f, (fun e => by cases e), fun hpos => ?_⟩
    obtain ⟨b, off, spot⟩ := ad
    have hspot : spot = none := by simpa [Addr.add] using World.cell?_spot (hf 0 hpos)
    subst hspot
    exact ⟨b, off, rfl, fun i hi => by rw [← add_plain]; exact hf i hi⟩

/-- A [][2]int32 that came in. -/
theorem open2 {H : Type} {enc : TypeId × Value → H} {W : World} {spare : Nat → Bool} {held : Bool} {fuel : Nat} {a : Option Addr} {len cap : Nat} {x : DataW H × List MemPlace}
    (h : DataW.trod enc Try.prog W 0 spare held fuel 22 (Value.slice a len cap).cells.toList = some x) : len ≤ maxLen ∧ ∃ f g, In2 W a len f g := by
  rcases Deep.open_slice Try.underlying22 h with ⟨hcs, _⟩ | ⟨ad, l, c, m, n, D, Pl, hcs, _, hl, hm, hmm, _, hx⟩
  · simp [Value.cells] at hcs
    obtain ⟨rfl, rfl, rfl⟩ := hcs
    exact ⟨by unfold maxLen; omega, fun _ => 0, fun _ => 0, fun _ => rfl, fun h => by omega⟩
  · simp [Value.cells] at hcs
    obtain ⟨rfl, rfl, rfl⟩ := hcs
    have hlm : len ≤ m := by rw [hmm]; split <;> omega
    rw [Try.cells25] at hx
    have key : ∀ i, i < len → ∃ z : Int × Int, W.cell? (ad.add (i * 2)) = some (.int .i32 z.1) ∧ W.cell? (ad.add (i * 2 + 1)) = some (.int .i32 z.2) := fun i hi => by
      obtain ⟨cs, h1, h2⟩ := hx i (by omega)
      obtain ⟨_, hlen, hc⟩ := World.cells?_some h1
      obtain ⟨xs, mm, _, _, _, hxl, hxs⟩ := DataW.trod_array Try.underlying25 h2
      rw [Try.cells21] at hxs
      match cs, hlen with
      | [u, v], _ =>
        have t0 := hxs 0 (by omega)
        have t1 := hxs 1 (by omega)
        rw [List.getElem?_eq_getElem (by omega)] at t0 t1
        obtain ⟨z0, e0, _, _⟩ := DataW.trod_int Try.underlying21 t0
        obtain ⟨z1, e1, _, _⟩ := DataW.trod_int Try.underlying21 t1
        simp at e0 e1
        subst e0
        subst e1
        have c0 := hc 0 (by omega)
        have c1 := hc 1 (by omega)
        rw [Deep.add_add] at c0 c1
        exact ⟨(z0, z1), by simpa using c0, by simpa using c1⟩
    obtain ⟨f, hf⟩ := Deep.choose_lt key
    refine ⟨by omega, fun i => (f i).1, fun i => (f i).2, (fun e => by cases e), fun hpos => ?_⟩
    obtain ⟨b, off, spot⟩ := ad
    have hspot : spot = none := by simpa [Addr.add] using World.cell?_spot (hf 0 hpos).1
    subst hspot
    refine ⟨b, off, rfl, fun i hi => ?_⟩
    have := hf i hi
    rw [add_plain, add_plain] at this
    exact ⟨this.1, by rw [Nat.add_assoc]; exact this.2⟩

/-! ### The walk, at every input -/
theorem walk (a0 a1 a2 a3 : Option Addr) (l0 c0 l1 c1 l2 c2 l3 c3 : Nat) (t s m e : Int) (w : World) (h0 : l0 ≤ maxLen) (h1 : l1 ≤ maxLen) (h2 : l2 ≤ maxLen) (h3 : l3 ≤ maxLen)
    (ws : (Lit.int .i32 s).wf = true) (wm : (Lit.int .i32 m).wf = true) (we : (Lit.int .i32 e).wf = true) (f0 g0 f1 f2 f3 : Nat → Int) (i0 : In2 w a0 l0 f0 g0) (i1 : In1 w a1 l1 f1) (i2 : In1 w a2 l2 f2) (i3 : In1 w a3 l3 f3) :
    Calls Try.prog 3 #[.slice a0 l0 c0, .slice a1 l1 c1, .slice a2 l2 c2, .slice a3 l3 c3, .int .i32 t, .int .i32 s, .int .i32 m, .int .i32 e] w fun x w' => x = .returned (.bool true) ∧ Below w.heap.size w w' := by
  by_cases hg : Let l0 l1 l2 l3 s m e
  · obtain ⟨q0, q1, q2, q3, p0, p1, p2, p3, p4, p5, p6⟩ := hg
    obtain ⟨sn, rfl⟩ := Int.eq_ofNat_of_zero_le p0
    obtain ⟨mn, rfl⟩ := Int.eq_ofNat_of_zero_le (Int.le_trans p0 p1)
    obtain ⟨en, rfl⟩ := Int.eq_ofNat_of_zero_le (Int.le_trans (Int.le_trans p0 p1) p2)
    obtain ⟨bl, ol, rfl, t3⟩ := i3.2 (by omega)
    exact lawMain a0 a1 a2 l0 c0 l1 c1 l2 c2 bl ol l3 c3 ⟨f0, g0, f1, f2, t⟩ sn mn en f3 w q0 q1 q2 q3 (by omega) (by omega) (by omega) (by omega) (by omega) (by omega) i0 i1 i2 t3
  · refine (early a0 a1 a2 a3 l0 c0 l1 c1 l2 c2 l3 c3 t s m e w h0 h1 h2 h3 (bounds_i32 ws) (bounds_i32 wm) (bounds_i32 we) hg).mono fun x w' ⟨hx, hw⟩ => ?_
    subst hw
    exact ⟨hx, Below.refl _ _⟩

/-! ### THE ROW's STEP -/
set_option maxRecDepth 100000 in
theorem lifted (os : Os) (started : os.Started) (H : Type) (enc : TypeId × Value → H) :
    ReturnsInHanded {} Try.checked os 3 .any (Rows.fnForwardOverIsAncestorMaxSpec.pre6 enc Try.prog Try.f3 Rows.fnForwardOverIsAncestorMaxRow.domain false) (Rows.fnForwardOverIsAncestorMaxSpec.post enc Try.prog Try.f3 false true false false) := by
  refine returnsInHanded_of_change (C := Try.checked) own started (by kernel_rfl) Try.func3
    (ChangeSpec.witness6 (enc := enc) (C := Try.checked) false ⟨#[], #[.slice none 0 0, .slice none 0 0, .slice none 0 0, .slice none 0 0, .int .i32 0, .int .i32 0, .int .i32 0, .int .i32 0], []⟩ 8 (by kernel_rfl) (by kernel_rfl) (by kernel_rfl) (by kernel_rfl)) ?_
  intro W base args ds gs before hval0 hW hcnd _
  have hval : ∀ (j : Nat) t v, Try.f3.params[j]? = some t → args[j]? = some v → Value.okWide Try.prog W .any base t v := hval0
  have hW' := hW
  obtain ⟨p, q, hA0, hV, rfl, hfz, hnd⟩ := hW
  have hA : DataW.TrodAll enc Try.prog W 0 (fun _ => true) true Try.f3.params.toList args.toList ds p := hA0
  rw [Try.params3] at hA hval
  obtain ⟨v0, vs0, d0, ds0, p0, q0, hargs, rfl, rfl, h0, r0⟩ := trodAll_cons hA
  obtain ⟨v1, vs1, d1, ds1, p1, q1, rfl, rfl, rfl, h1, r1⟩ := trodAll_cons r0
  obtain ⟨v2, vs2, d2, ds2, p2, q2, rfl, rfl, rfl, h2, r2⟩ := trodAll_cons r1
  obtain ⟨v3, vs3, d3, ds3, p3, q3, rfl, rfl, rfl, h3, r3⟩ := trodAll_cons r2
  obtain ⟨v4, vs4, d4, ds4, p4, q4, rfl, rfl, rfl, h4, r4⟩ := trodAll_cons r3
  obtain ⟨v5, vs5, d5, ds5, p5, q5, rfl, rfl, rfl, h5, r5⟩ := trodAll_cons r4
  obtain ⟨v6, vs6, d6, ds6, p6, q6, rfl, rfl, rfl, h6, r6⟩ := trodAll_cons r5
  obtain ⟨v7, vs7, d7, ds7, p7, q7, rfl, rfl, rfl, h7, r7⟩ := trodAll_cons r6
  obtain ⟨rfl, rfl, rfl⟩ := trodAll_nil r7
  obtain rfl : args = #[v0, v1, v2, v3, v4, v5, v6, v7] := by cases args; simp_all
  obtain ⟨rfl, rfl⟩ := trodVars_none hV
  obtain ⟨a0, l0, c0, rfl⟩ := okWide_slice Try.underlying22 (hval 0 22 v0 rfl rfl)
  obtain ⟨a1, l1, c1, rfl⟩ := okWide_slice Try.underlying23 (hval 1 23 v1 rfl rfl)
  obtain ⟨a2, l2, c2, rfl⟩ := okWide_slice Try.underlying23 (hval 2 23 v2 rfl rfl)
  obtain ⟨a3, l3, c3, rfl⟩ := okWide_slice Try.underlying23 (hval 3 23 v3 rfl rfl)
  have k0 := h0
  have k1 := h1
  have k2 := h2
  have k3 := h3
  have lt0 : ∀ x ∈ p0, x.block < W.heap.size := by obtain ⟨m, hm⟩ := k0; exact DataW.trod_lt m _ _ _ hm
  have lt1 : ∀ x ∈ p1, x.block < W.heap.size := by obtain ⟨m, hm⟩ := k1; exact DataW.trod_lt m _ _ _ hm
  have lt2 : ∀ x ∈ p2, x.block < W.heap.size := by obtain ⟨m, hm⟩ := k2; exact DataW.trod_lt m _ _ _ hm
  have lt3 : ∀ x ∈ p3, x.block < W.heap.size := by obtain ⟨m, hm⟩ := k3; exact DataW.trod_lt m _ _ _ hm
  obtain ⟨m0, f0, g0, i0⟩ : l0 ≤ maxLen ∧ ∃ f g, In2 W a0 l0 f g := by obtain ⟨fuel, hf⟩ := h0; exact open2 hf
  obtain ⟨m1, f1, i1⟩ : l1 ≤ maxLen ∧ ∃ f, In1 W a1 l1 f := by obtain ⟨fuel, hf⟩ := h1; exact open1 hf
  obtain ⟨m2, f2, i2⟩ : l2 ≤ maxLen ∧ ∃ f, In1 W a2 l2 f := by obtain ⟨fuel, hf⟩ := h2; exact open1 hf
  obtain ⟨m3, f3, i3⟩ : l3 ≤ maxLen ∧ ∃ f, In1 W a3 l3 f := by obtain ⟨fuel, hf⟩ := h3; exact open1 hf
  obtain ⟨t, rfl, rfl, rfl, w4⟩ := open_int Try.underlying21 (hval 4 21 v4 rfl rfl) h4
  obtain ⟨s, rfl, rfl, rfl, w5⟩ := open_int Try.underlying21 (hval 5 21 v5 rfl rfl) h5
  obtain ⟨m, rfl, rfl, rfl, w6⟩ := open_int Try.underlying21 (hval 6 21 v6 rfl rfl) h6
  obtain ⟨e, rfl, rfl, rfl, w7⟩ := open_int Try.underlying21 (hval 7 21 v7 rfl rfl) h7
  clear hA0 hval0
  refine (walk a0 a1 a2 a3 l0 c0 l1 c1 l2 c2 l3 c3 t s m e W m0 m1 m2 m3 w5 w6 w7 f0 g0 f1 f2 f3 i0 i1 i2 i3).mono fun x W' ⟨he, bel⟩ => ?_
  subst he
  exact ⟨_, rfl, _, _, _, [], _, [], hW', trodAll_mk1 (shut_bool Try.underlying4 _), (trodAll_cons_mk (Below.trod laidOut (by kernel_rfl) (of_decide_eq_true (by kernel_rfl)) k0 bel lt0) (trodAll_cons_mk (Below.trod laidOut (by kernel_rfl) (of_decide_eq_true (by kernel_rfl)) k1 bel lt1) (trodAll_cons_mk (Below.trod laidOut (by kernel_rfl) (of_decide_eq_true (by kernel_rfl)) k2 bel lt2) (trodAll_cons_mk (Below.trod laidOut (by kernel_rfl) (of_decide_eq_true (by kernel_rfl)) k3 bel lt3) (trodAll_cons_mk (shut_int Try.underlying21 w4) (trodAll_cons_mk (shut_int Try.underlying21 w5) (trodAll_cons_mk (shut_int Try.underlying21 w6) (trodAll_cons_mk (shut_int Try.underlying21 w7) trodAll_mk0)))))))), rfl, bel.frame _, fun h => by cases h⟩

theorem over : Rows.fnForwardOverIsAncestorMaxRow.holds Try.pinned (OpenSpec.ofChange Rows.fnForwardOverIsAncestorMaxSpec) :=
  OpenClaim.holds_of_wide 3 Try.f3 rfl rfl rfl rfl rfl rfl rfl ⟨rfl, rfl, rfl, rfl, rfl⟩ rfl rfl rfl rfl rfl (by kernel_rfl) Try.func3 (by kernel_rfl)
    (of_decide_eq_true (by kernel_rfl)) (by unfold Func.isWrapper; first | (rw [if_pos (by decide +kernel)]; kernel_rfl) | (rw [if_neg (by decide +kernel)]; exact ⟨rfl, rfl⟩))
    (fun os started H enc _ => lifted os started H enc)

/-- THE STATEMENT -/
theorem proved : Rows.FnForwardOverIsAncestorMaxSaid :=
  over
#print axioms proved
end Go.Proofs.Qxb6617469a.fnForwardOverIsAncestorMax
