/- A PROOF OF 'Rows.FnChangeScriptKeepsLastByPosSaid'. -/
import Derived.Test.Qxb6623453aRows
import Derived.Test.Qxb6623453aLaw
import Derived.Test.Qxb6623453aEarly
import Derived.OpenShut
import Derived.ChangeOld
import Derived.Below
import Derived.Deep.Slices
namespace Go.Proofs.Qxb6623453a.fnChangeScriptKeepsLastByPos
open Go.ChangeShapes Go.WideShapes Go.ChangeAt Go.RowKit
set_option linter.unusedVariables false

theorem own : ownKnob Try.prog.godebug = none := by kernel_rfl
theorem laidOut : laidOutB Try.prog = true := by kernel_rfl
theorem Try.cells3 : Try.prog.cellsOf 3 = 1 := by kernel_rfl
theorem Try.cells4 : Try.prog.cellsOf 4 = 1 := by kernel_rfl
theorem Try.cells9 : Try.prog.cellsOf 9 = 1 := by kernel_rfl
theorem Try.cells43 : Try.prog.cellsOf 43 = 5 := by kernel_rfl
theorem Try.cells49 : Try.prog.cellsOf 49 = 4 := by kernel_rfl
theorem Try.cells51 : Try.prog.cellsOf 51 = 3 := by kernel_rfl

/-! ### The arguments opened -/

theorem fields3 {H : Type} {enc : TypeId × Value → H} {P : Program} {w : World} {base : Nat} {spare : Nat → Bool} {held : Bool} {t : TypeId} {f0 f1 f2 : Field} {fuel : Nat} {cs : List Value} {x : DataW H × List MemPlace} (ht : P.underlying t = some (.struct #[f0, f1, f2])) (h : DataW.trod enc P w base spare held fuel t cs = some x) :
    ∃ y0 y1 y2 n, DataW.trod enc P w base spare held n f0.type ((cs.drop f0.offset).take (P.cellsOf f0.type)) = some y0 ∧ DataW.trod enc P w base spare held n f1.type ((cs.drop f1.offset).take (P.cellsOf f1.type)) = some y1 ∧ DataW.trod enc P w base spare held n f2.type ((cs.drop f2.offset).take (P.cellsOf f2.type)) = some y2 := by
  obtain ⟨xs, n, _, rfl, hl, hlen, hf⟩ := DataW.trod_struct ht h
  match xs, hlen with
  | [y0, y1, y2], _ => exact ⟨y0, y1, y2, n, by simpa using hf 0 f0 rfl, by simpa using hf 1 f1 rfl, by simpa using hf 2 f2 rfl⟩

theorem fields4 {H : Type} {enc : TypeId × Value → H} {P : Program} {w : World} {base : Nat} {spare : Nat → Bool} {held : Bool} {t : TypeId} {f0 f1 f2 f3 : Field} {fuel : Nat} {cs : List Value} {x : DataW H × List MemPlace} (ht : P.underlying t = some (.struct #[f0, f1, f2, f3])) (h : DataW.trod enc P w base spare held fuel t cs = some x) :
    ∃ y0 y1 y2 y3 n, DataW.trod enc P w base spare held n f0.type ((cs.drop f0.offset).take (P.cellsOf f0.type)) = some y0 ∧ DataW.trod enc P w base spare held n f1.type ((cs.drop f1.offset).take (P.cellsOf f1.type)) = some y1 ∧ DataW.trod enc P w base spare held n f2.type ((cs.drop f2.offset).take (P.cellsOf f2.type)) = some y2 ∧ DataW.trod enc P w base spare held n f3.type ((cs.drop f3.offset).take (P.cellsOf f3.type)) = some y3 := by
  obtain ⟨xs, n, _, rfl, hl, hlen, hf⟩ := DataW.trod_struct ht h
  match xs, hlen with
  | [y0, y1, y2, y3], _ => exact ⟨y0, y1, y2, y3, n, by simpa using hf 0 f0 rfl, by simpa using hf 1 f1 rfl, by simpa using hf 2 f2 rfl, by simpa using hf 3 f3 rfl⟩

theorem fields5 {H : Type} {enc : TypeId × Value → H} {P : Program} {w : World} {base : Nat} {spare : Nat → Bool} {held : Bool} {t : TypeId} {f0 f1 f2 f3 f4 : Field} {fuel : Nat} {cs : List Value} {x : DataW H × List MemPlace} (ht : P.underlying t = some (.struct #[f0, f1, f2, f3, f4])) (h : DataW.trod enc P w base spare held fuel t cs = some x) :
    ∃ y0 y1 y2 y3 y4 n, DataW.trod enc P w base spare held n f0.type ((cs.drop f0.offset).take (P.cellsOf f0.type)) = some y0 ∧ DataW.trod enc P w base spare held n f1.type ((cs.drop f1.offset).take (P.cellsOf f1.type)) = some y1 ∧ DataW.trod enc P w base spare held n f2.type ((cs.drop f2.offset).take (P.cellsOf f2.type)) = some y2 ∧ DataW.trod enc P w base spare held n f3.type ((cs.drop f3.offset).take (P.cellsOf f3.type)) = some y3 ∧ DataW.trod enc P w base spare held n f4.type ((cs.drop f4.offset).take (P.cellsOf f4.type)) = some y4 := by
  obtain ⟨xs, n, _, rfl, hl, hlen, hf⟩ := DataW.trod_struct ht h
  match xs, hlen with
  | [y0, y1, y2, y3, y4], _ => exact ⟨y0, y1, y2, y3, y4, n, by simpa using hf 0 f0 rfl, by simpa using hf 1 f1 rfl, by simpa using hf 2 f2 rfl, by simpa using hf 3 f3 rfl, by simpa using hf 4 f4 rfl⟩

/-- A slice of records that came in. -/
theorem openRow {H : Type} {enc : TypeId × Value → H} {W : World} {spare : Nat → Bool} {held : Bool} {fuel : Nat} {a : Option Addr} {len cap : Nat} {x : DataW H × List MemPlace} {t e : TypeId} {size : Nat} {α : Type} (z : α) (F : α → Nat → Value)
    (ht : Try.prog.underlying t = some (.slice e)) (hc : Try.prog.cellsOf e = size) (hsz : 0 < size)
    (one : ∀ n cs y, cs.length = size → DataW.trod enc Try.prog W 0 spare held n e cs = some y → ∃ c : α, ∀ j, j < size → cs[j]? = some (F c j))
    (h : DataW.trod enc Try.prog W 0 spare held fuel t (Value.slice a len cap).cells.toList = some x) : len ≤ maxLen ∧ ∃ f : Nat → α, In W a len size (fun q => F (f (q / size)) (q % size)) := by
  rcases Deep.open_slice ht h with ⟨hcs, _⟩ | ⟨ad, l, c, m, n, D, Pl, hcs, _, hl, hm, hmm, _, hx⟩
  · simp [Value.cells] at hcs
    obtain ⟨rfl, rfl, rfl⟩ := hcs
    exact ⟨by unfold maxLen; omega, fun _ => z, fun _ => rfl, fun h => by omega⟩
  · simp [Value.cells] at hcs
    obtain ⟨rfl, rfl, rfl⟩ := hcs
    have hlm : len ≤ m := by rw [hmm]; split <;> omega
    rw [hc] at hx
    have key : ∀ i, i < len → ∃ z : α, ∀ j, j < size → W.cell? (ad.add (i * size + j)) = some (F z j) := fun i hi => by
      obtain ⟨cs, h1, h2⟩ := hx i (by omega)
      obtain ⟨_, hlen, hcc⟩ := World.cells?_some h1
      obtain ⟨c, hF⟩ := one n cs _ hlen h2
      refine ⟨c, fun j hj => ?_⟩
      have c0 := hcc j (by omega)
      rw [Deep.add_add] at c0
      rw [c0]
      exact hF j hj
    obtain ⟨f, hf⟩ := @Deep.choose_lt α ⟨z⟩ len _ key
    refine ⟨by omega, f, (fun e => by cases e), fun hpos => ?_⟩
    obtain ⟨b, off, spot⟩ := ad
    have hspot : spot = none := by simpa [Addr.add] using World.cell?_spot (hf 0 hpos 0 hsz)
    subst hspot
    refine ⟨b, off, rfl, fun q hq => ?_⟩
    have := hf (q / size) (Nat.div_lt_of_lt_mul (by rw [Nat.mul_comm]; exact hq)) (q % size) (Nat.mod_lt _ hsz)
    rw [add_plain, Nat.mul_comm, Nat.div_add_mod] at this
    exact this

theorem openCh {H : Type} {enc : TypeId × Value → H} {W : World} {spare : Nat → Bool} {held : Bool} {fuel : Nat} {a : Option Addr} {len cap : Nat} {x : DataW H × List MemPlace}
    (h : DataW.trod enc Try.prog W 0 spare held fuel 23 (Value.slice a len cap).cells.toList = some x) : len ≤ maxLen ∧ ∃ f : Nat → Ch, In W a len 5 (chF f) := by
  refine openRow zeroCh Ch.cell Try.underlying23 Try.cells43 (by omega) (fun n cs y hlen hy => ?_) h
  obtain ⟨y0, y1, y2, y3, y4, k, t0, t1, t2, t3, t4⟩ := fields5 Try.underlying43 hy
  match cs, hlen with
  | [u0, u1, u2, u3, u4], _ =>
    simp only [Try.cells9, Try.cells3] at t0 t1 t2 t3 t4
    obtain ⟨z0, e0, _, _⟩ := DataW.trod_string Try.underlying9 t0
    obtain ⟨z1, e1, _, _⟩ := DataW.trod_int Try.underlying3 t1
    obtain ⟨z2, e2, _, _⟩ := DataW.trod_int Try.underlying3 t2
    obtain ⟨z3, e3, _, _⟩ := DataW.trod_string Try.underlying9 t3
    obtain ⟨z4, e4, _, _⟩ := DataW.trod_string Try.underlying9 t4
    simp at e0 e1 e2 e3 e4
    subst e0 e1 e2 e3 e4
    refine ⟨⟨z0, z1, z2, z3, z4⟩, fun j hj => ?_⟩
    match j, hj with
    | 0, _ => rfl
    | 1, _ => rfl
    | 2, _ => rfl
    | 3, _ => rfl
    | 4, _ => rfl

theorem openFd {H : Type} {enc : TypeId × Value → H} {W : World} {spare : Nat → Bool} {held : Bool} {fuel : Nat} {a : Option Addr} {len cap : Nat} {x : DataW H × List MemPlace}
    (h : DataW.trod enc Try.prog W 0 spare held fuel 22 (Value.slice a len cap).cells.toList = some x) : len ≤ maxLen ∧ ∃ f : Nat → Fd, In W a len 4 (fdF f) := by
  refine openRow zeroFd Fd.cell Try.underlying22 Try.cells49 (by omega) (fun n cs y hlen hy => ?_) h
  obtain ⟨y0, y1, y2, y3, k, t0, t1, t2, t3⟩ := fields4 Try.underlying49 hy
  match cs, hlen with
  | [u0, u1, u2, u3], _ =>
    simp only [Try.cells9, Try.cells3] at t0 t1 t2 t3
    obtain ⟨z0, e0, _, _⟩ := DataW.trod_string Try.underlying9 t0
    obtain ⟨z1, e1, _, _⟩ := DataW.trod_string Try.underlying9 t1
    obtain ⟨z2, e2, _, _⟩ := DataW.trod_int Try.underlying3 t2
    obtain ⟨z3, e3, _, _⟩ := DataW.trod_string Try.underlying9 t3
    simp at e0 e1 e2 e3
    subst e0 e1 e2 e3
    refine ⟨⟨z0, z1, z2, z3⟩, fun j hj => ?_⟩
    match j, hj with
    | 0, _ => rfl
    | 1, _ => rfl
    | 2, _ => rfl
    | 3, _ => rfl

theorem openRc {H : Type} {enc : TypeId × Value → H} {W : World} {spare : Nat → Bool} {held : Bool} {fuel : Nat} {a : Option Addr} {len cap : Nat} {x : DataW H × List MemPlace}
    (h : DataW.trod enc Try.prog W 0 spare held fuel 24 (Value.slice a len cap).cells.toList = some x) : len ≤ maxLen ∧ ∃ f : Nat → Rc, In W a len 3 (rcF f) := by
  refine openRow zeroRc Rc.cell Try.underlying24 Try.cells51 (by omega) (fun n cs y hlen hy => ?_) h
  obtain ⟨y0, y1, y2, k, t0, t1, t2⟩ := fields3 Try.underlying51 hy
  match cs, hlen with
  | [u0, u1, u2], _ =>
    simp only [Try.cells9, Try.cells4] at t0 t1 t2
    obtain ⟨z0, e0, _, _⟩ := DataW.trod_string Try.underlying9 t0
    obtain ⟨z1, e1, _⟩ := DataW.trod_bool Try.underlying4 t1
    obtain ⟨z2, e2, _, _⟩ := DataW.trod_string Try.underlying9 t2
    simp at e0 e1 e2
    subst e0 e1 e2
    refine ⟨⟨z0, z1, z2⟩, fun j hj => ?_⟩
    match j, hj with
    | 0, _ => rfl
    | 1, _ => rfl
    | 2, _ => rfl

/-! ### The walk, at every input -/
theorem walk (a0 a1 a2 a7 : Option Addr) (n0 c0 n1 c1 n2 c2 n7 c7 : Nat) (s3 s4 s5 s6 : ByteArray) (f0 : Nat → Fd) (f1 : Nat → Ch) (f2 : Nat → Rc) (f7 : Nat → Ch) (w : World)
    (l0 : n0 ≤ maxLen) (l1 : n1 ≤ maxLen) (l2 : n2 ≤ maxLen) (l7 : n7 ≤ maxLen) (m3 : s3.size ≤ maxLen) (m4 : s4.size ≤ maxLen) (m5 : s5.size ≤ maxLen) (m6 : s6.size ≤ maxLen)
    (h0 : In w a0 n0 4 (fdF f0)) (h1 : In w a1 n1 5 (chF f1)) (h2 : In w a2 n2 3 (rcF f2)) (h7 : In w a7 n7 5 (chF f7)) :
    Calls Try.prog 3 #[.slice a0 n0 c0, .slice a1 n1 c1, .slice a2 n2 c2, .string s3, .string s4, .string s5, .string s6, .slice a7 n7 c7] w (Good w) := by
  by_cases hg : n0 ≤ 4096 ∧ n1 ≤ 4096 ∧ n2 ≤ 4096 ∧ n7 ≤ 4096
  · obtain ⟨q0, q1, q2, q3⟩ := hg
    exact lawMain a0 a1 a2 a7 n0 c0 n1 c1 n2 c2 n7 c7 s3 s4 s5 s6 f0 f1 f2 f7 w q0 q1 q2 q3 m3 m4 m5 m6 h0 h1 h2 h7
  · exact early a0 a1 a2 a7 n0 c0 n1 c1 n2 c2 n7 c7 s3 s4 s5 s6 f0 f1 f2 f7 w l0 l1 l2 l7 m3 m4 m5 m6 h0 h1 h2 h7 hg

/-! ### THE ROW's STEP -/
set_option maxRecDepth 100000 in
theorem lifted (os : Os) (started : os.Started) (H : Type) (enc : TypeId × Value → H) :
    ReturnsInHanded {} Try.checked os 3 .any (Rows.fnChangeScriptKeepsLastByPosSpec.pre6 enc Try.prog Try.f3 Rows.fnChangeScriptKeepsLastByPosRow.domain false) (Rows.fnChangeScriptKeepsLastByPosSpec.post enc Try.prog Try.f3 false true false false) := by
  refine returnsInHanded_of_change (C := Try.checked) own started (by kernel_rfl) Try.func3
    (ChangeSpec.witness6 (enc := enc) (C := Try.checked) false ⟨#[], #[.slice none 0 0, .slice none 0 0, .slice none 0 0, .string ByteArray.empty, .string ByteArray.empty, .string ByteArray.empty, .string ByteArray.empty, .slice none 0 0], []⟩ 8 (by kernel_rfl) (by kernel_rfl) (by kernel_rfl) (by kernel_rfl)) ?_
  intro W base args ds gs before hval0 hW hcnd _
  have hval : ∀ (j : Nat) t v, Try.f3.params[j]? = some t → args[j]? = some v → Value.okWide Try.prog W .any base t v := hval0
  have hW' := hW
  obtain ⟨p, q, hA0, hV, rfl, hfz, hnd⟩ := hW
  have hA : DataW.TrodAll enc Try.prog W 0 (fun _ => true) true Try.f3.params.toList args.toList ds p := hA0
  rw [Try.params3] at hA hval
  obtain ⟨v0, vs0, d0, ds0, p0, q0, hargs, rfl, rfl, h0, r0⟩ := trodAll_cons hA
  obtain ⟨v1, vs1, d1, ds1, p1, q1, rfl, rfl, rfl, h1, r1⟩ := trodAll_cons r0
  obtain ⟨v2, vs2, d2, ds2, p2, q2, rfl, rfl, rfl, h2, r2⟩ := trodAll_cons r1
  obtain ⟨v3, vs3, d3, ds3, p3, q3, rfl, rfl, rfl, h3, r3⟩ := trodAll_cons r2
  obtain ⟨v4, vs4, d4, ds4, p4, q4, rfl, rfl, rfl, h4, r4⟩ := trodAll_cons r3
  obtain ⟨v5, vs5, d5, ds5, p5, q5, rfl, rfl, rfl, h5, r5⟩ := trodAll_cons r4
  obtain ⟨v6, vs6, d6, ds6, p6, q6, rfl, rfl, rfl, h6, r6⟩ := trodAll_cons r5
  obtain ⟨v7, vs7, d7, ds7, p7, q7, rfl, rfl, rfl, h7, r7⟩ := trodAll_cons r6
  obtain ⟨rfl, rfl, rfl⟩ := trodAll_nil r7
  obtain rfl : args = #[v0, v1, v2, v3, v4, v5, v6, v7] := by cases args; simp_all
  obtain ⟨rfl, rfl⟩ := trodVars_none hV
  obtain ⟨a0, l0, c0, rfl⟩ := okWide_slice Try.underlying22 (hval 0 22 v0 rfl rfl)
  obtain ⟨a1, l1, c1, rfl⟩ := okWide_slice Try.underlying23 (hval 1 23 v1 rfl rfl)
  obtain ⟨a2, l2, c2, rfl⟩ := okWide_slice Try.underlying24 (hval 2 24 v2 rfl rfl)
  obtain ⟨a7, l7, c7, rfl⟩ := okWide_slice Try.underlying23 (hval 7 23 v7 rfl rfl)
  have k0 := h0
  have k1 := h1
  have k2 := h2
  have k7 := h7
  have lt0 : ∀ x ∈ p0, x.block < W.heap.size := by obtain ⟨m, hm⟩ := k0; exact DataW.trod_lt m _ _ _ hm
  have lt1 : ∀ x ∈ p1, x.block < W.heap.size := by obtain ⟨m, hm⟩ := k1; exact DataW.trod_lt m _ _ _ hm
  have lt2 : ∀ x ∈ p2, x.block < W.heap.size := by obtain ⟨m, hm⟩ := k2; exact DataW.trod_lt m _ _ _ hm
  have lt7 : ∀ x ∈ p7, x.block < W.heap.size := by obtain ⟨m, hm⟩ := k7; exact DataW.trod_lt m _ _ _ hm
  obtain ⟨m0, f0, i0⟩ : l0 ≤ maxLen ∧ ∃ f : Nat → Fd, In W a0 l0 4 (fdF f) := by obtain ⟨fuel, hf⟩ := h0; exact openFd hf
  obtain ⟨m1, f1, i1⟩ : l1 ≤ maxLen ∧ ∃ f : Nat → Ch, In W a1 l1 5 (chF f) := by obtain ⟨fuel, hf⟩ := h1; exact openCh hf
  obtain ⟨m2, f2, i2⟩ : l2 ≤ maxLen ∧ ∃ f : Nat → Rc, In W a2 l2 3 (rcF f) := by obtain ⟨fuel, hf⟩ := h2; exact openRc hf
  obtain ⟨m7, f7, i7⟩ : l7 ≤ maxLen ∧ ∃ f : Nat → Ch, In W a7 l7 5 (chF f) := by obtain ⟨fuel, hf⟩ := h7; exact openCh hf
  obtain ⟨s3, rfl, rfl, rfl, w3⟩ := Go.ChangeMaps.open_string Try.underlying9 (hval 3 9 v3 rfl rfl) h3
  obtain ⟨s4, rfl, rfl, rfl, w4⟩ := Go.ChangeMaps.open_string Try.underlying9 (hval 4 9 v4 rfl rfl) h4
  obtain ⟨s5, rfl, rfl, rfl, w5⟩ := Go.ChangeMaps.open_string Try.underlying9 (hval 5 9 v5 rfl rfl) h5
  obtain ⟨s6, rfl, rfl, rfl, w6⟩ := Go.ChangeMaps.open_string Try.underlying9 (hval 6 9 v6 rfl rfl) h6
  clear hA0 hval0
  refine (walk a0 a1 a2 a7 l0 c0 l1 c1 l2 c2 l7 c7 s3 s4 s5 s6 f0 f1 f2 f7 W m0 m1 m2 m7 w3 w4 w5 w6 i0 i1 i2 i7).mono fun x W' ⟨he, bel⟩ => ?_
  subst he
  exact ⟨_, rfl, _, _, _, [], _, [], hW', trodAll_mk1 (shut_bool Try.underlying4 _), (trodAll_cons_mk (Below.trod laidOut (by kernel_rfl) (of_decide_eq_true (by kernel_rfl)) k0 bel lt0) (trodAll_cons_mk (Below.trod laidOut (by kernel_rfl) (of_decide_eq_true (by kernel_rfl)) k1 bel lt1) (trodAll_cons_mk (Below.trod laidOut (by kernel_rfl) (of_decide_eq_true (by kernel_rfl)) k2 bel lt2) (trodAll_cons_mk (Go.ChangeMaps.shut_string Try.underlying9 w3) (trodAll_cons_mk (Go.ChangeMaps.shut_string Try.underlying9 w4) (trodAll_cons_mk (Go.ChangeMaps.shut_string Try.underlying9 w5) (trodAll_cons_mk (Go.ChangeMaps.shut_string Try.underlying9 w6) (trodAll_cons_mk (Below.trod laidOut (by kernel_rfl) (of_decide_eq_true (by kernel_rfl)) k7 bel lt7) trodAll_mk0)))))))), rfl, bel.frame _, fun h => by cases h⟩

theorem over : Rows.fnChangeScriptKeepsLastByPosRow.holds Try.pinned (OpenSpec.ofChange Rows.fnChangeScriptKeepsLastByPosSpec) :=
  OpenClaim.holds_of_wide 3 Try.f3 rfl rfl rfl rfl rfl rfl rfl ⟨rfl, rfl, rfl, rfl, rfl⟩ rfl rfl rfl rfl rfl (by kernel_rfl) Try.func3 (by kernel_rfl)
    (of_decide_eq_true (by kernel_rfl)) (by unfold Func.isWrapper; first | (rw [if_pos (by decide +kernel)]; kernel_rfl) | (rw [if_neg (by decide +kernel)]; exact ⟨rfl, rfl⟩))
    (fun os started H enc _ => lifted os started H enc)

/-- THE STATEMENT -/
theorem proved : Rows.FnChangeScriptKeepsLastByPosSaid :=
  over
#print axioms proved
end Go.Proofs.Qxb6623453a.fnChangeScriptKeepsLastByPos
