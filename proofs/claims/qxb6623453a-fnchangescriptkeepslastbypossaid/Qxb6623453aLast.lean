/- 'zzLastByPos'. -/
import Derived.Test.Qxb6623453aOwn
namespace Go.Proofs.Qxb6623453a
open Go.ChangeShapes Go.WideShapes Go.ChangeAt Go.RowKit
set_option linter.unusedVariables false
set_option linter.unusedSimpArgs false

/-- The list of the first n. -/
abbrev firsts (f : Nat → Ch) (n : Nat) : List Ch := (List.range n).map f
theorem firsts_succ (f : Nat → Ch) (n : Nat) : firsts f (n + 1) = firsts f n ++ [f n] := by simp [firsts, List.range_succ]
theorem firsts_len (f : Nat → Ch) (n : Nat) : (firsts f n).length = n := by simp [firsts]

/-- What 'zzLastByPos' hands back. -/
def Lasted (L cs : List Ch) (w : World) (x : Ending) (w' : World) : Prop :=
  ∃ g n cap R, x = .returned (.slice (some ⟨g, 0, none⟩) n cap) ∧ OwnT 43 w' w.heap.size g n cap R ∧ R.Perm (lastAll L cs) ∧ R.Pairwise (fun a b => a.pos ≤ b.pos) ∧ Below w.heap.size w w'

theorem lastStep_len (l : List Ch) (c : Ch) : (lastStep l c).length ≤ l.length + 1 := by
  unfold lastStep
  have := List.length_filter_le (fun x : Ch => x.pos != c.pos) l
  simp; omega

theorem take_succ_getD (W : List Ch) (i : Nat) (h : i < W.length) : W.take (i + 1) = W.take i ++ [W.getD i zeroCh] := by
  rw [List.take_succ_eq_append_getElem h, List.getD, List.getElem?_eq_getElem h]
  rfl

theorem belowDrew {B : Nat} {w w' : World} (h : Below B w w') (n : Nat) : Below B w (w'.drewN n) := ⟨h.os, h.tape, h.output, h.size, h.block⟩

theorem lastAll_snoc (l cs : List Ch) (c : Ch) : lastAll l (cs ++ [c]) = lastStep (lastAll l cs) c := by simp [lastAll]

theorem OwnT.drewN' {t : TypeId} {w : World} {base g n cap : Nat} {L : List Ch} (h : OwnT t w base g n cap L) (q : Nat) : OwnT t (w.drewN q) base g n cap L := h

theorem grown_push {w w1 : World} {q : Nat} {o : Obj} {row : Option Nat} (h : ((w.drewN q).alloc o).grownBy w1 row) : w.grownBy w1 row := by
  have e : ((w.drewN q).alloc o).heap.size = w.heap.size + 1 := by simp
  refine ⟨h.os, h.tape, h.output, by have := h.size; omega, fun k hk hne => ?_⟩
  rw [h.block k (by omega) hne]
  exact Below.heap_alloc (w.drewN q) o k hk

theorem take_one_sorted (W : List Ch) : (W.take 1).Pairwise (fun a b => a.pos ≤ b.pos) := by
  cases W <;> simp

theorem split_at (R : List Ch) (i : Nat) (h : i < R.length) {x : Ch} (hx : R.getD i zeroCh = x) : R.take i ++ [x] ++ R.drop (i + 1) = R := by
  have e : R[i] = x := by rw [← hx, List.getD, List.getElem?_eq_getElem h]; rfl
  rw [List.append_assoc, List.singleton_append, ← e, ← List.drop_eq_getElem_cons h, List.take_append_drop]

theorem mid_getD {A B Q : List Ch} {y : Ch} {n : Nat} (h : A.length = n) : (A ++ [y] ++ B ++ Q).getD n zeroCh = y := by
  subst h
  simp [List.getD]

theorem pre_getD {A Q : List Ch} {z : Ch} {n : Nat} (h : A.length = n) : (A ++ ([z] ++ Q)).getD n zeroCh = z := by
  subst h
  simp [List.getD]

theorem shift_list {A A' B Q : List Ch} {z : Ch} (h : A = A' ++ [z]) : A ++ [z] ++ B ++ Q = A' ++ [z] ++ (z :: B) ++ Q := by rw [h]; simp

theorem set_mid {A B Q : List Ch} {y x : Ch} {n : Nat} (h : A.length = n) : (A ++ [y] ++ B ++ Q).set n x = A ++ [x] ++ B ++ Q := by
  subst h
  simp [List.set_append]

theorem snoc_of {α : Type} {l : List α} {m : Nat} (h : l.length = m + 1) : ∃ l' x, l = l' ++ [x] := by
  have hne : l ≠ [] := by intro e; subst e; simp at h
  exact ⟨l.dropLast, l.getLast hne, (List.dropLast_concat_getLast hne).symm⟩

/-- One element more is sorted in. -/
theorem sort_fin {R W A B : List Ch} {ii lw jj : Nat} {x : Ch} (hl : R.length = lw) (hP : R.Perm W) (hS : (R.take ii).Pairwise (fun a b => a.pos ≤ b.pos)) (hi : ii < lw) (hx : R.getD ii zeroCh = x) (hA : A.length = jj) (hAB : A ++ B = R.take ii) (hB : ∀ z, z ∈ B → x.pos < z.pos)
    (hle : ∀ z, z ∈ A → z.pos ≤ x.pos) : (A ++ [x] ++ B ++ R.drop (ii + 1)).Perm W ∧ ((A ++ [x] ++ B ++ R.drop (ii + 1)).take (ii + 1)).Pairwise (fun a b => a.pos ≤ b.pos) := by
  have hABl : (A ++ B).length = ii := by rw [hAB, List.length_take]; omega
  constructor
  · refine List.Perm.trans ?_ hP
    have e := split_at R ii (by omega) hx
    rw [← hAB] at e
    refine List.Perm.trans (List.Perm.append_right _ ?_) (by rw [e])
    rw [List.append_assoc, List.append_assoc]
    exact List.Perm.append_left A (List.perm_append_comm)
  · have hlen : (A ++ [x] ++ B).length = ii + 1 := by simp at hABl ⊢; omega
    rw [List.take_append_of_le_length (by omega), List.take_of_length_le (by omega)]
    rw [← hAB] at hS
    obtain ⟨h1, h2, h3⟩ := List.pairwise_append.1 hS
    refine List.pairwise_append.2 ⟨List.pairwise_append.2 ⟨h1, by simp, fun a ha b hb => ?_⟩, h2, fun a ha b hb => ?_⟩
    · have : b = x := by simpa using hb
      rw [this]; exact hle a ha
    · rcases List.mem_append.1 ha with q | q
      · exact h3 a q b hb
      · have : a = x := by simpa using q
        rw [this]
        have := hB b hb
        omega

set_option maxHeartbeats 8000000 in
set_option maxRecDepth 100000 in
theorem last (a0 a1 : Option Addr) (n0 c0 n1 c1 : Nat) (f0 f1 : Nat → Ch) (m0 : n0 ≤ 4096) (m1 : n1 ≤ 4096) (w : World) (h0 : Hid (In w a0 n0 5 (chF f0))) (h1 : Hid (In w a1 n1 5 (chF f1))) :
    Calls Try.prog 15 #[.slice a0 n0 c0, .slice a1 n1 c1] w (Lasted (firsts f0 n0) (firsts f1 n1) w) := by
  have hmk := run_make_zero 23 43 _ 5 64 Try.underlying23 Try.info43 (by omega) (n0 + n1) ((n0 : Int) + (n1 : Int)) (by omega) (by omega)
  obtain ⟨i0, hi, hz0, hz1, hz2⟩ := info_parts Try.info43
  go_enter Try.func15, Try.ntmps15
  go_wp2
  go_loopw [5, 6] (fun v i wr => ∃ k : Nat, k ≤ n0 ∧ i = .int .i64 k ∧ v = .slice (some ⟨w.heap.size, 0, none⟩) k (n0 + n1) ∧ Hid (OwnT 43 wr w.heap.size w.heap.size k (n0 + n1) (firsts f0 k)) ∧ Hid (Below w.heap.size w wr)) (fun _ i _ => n0 - (intOf i).toNat)
  case atStart => exact ⟨0, Nat.zero_le _, rfl, rfl, own_made w 43 (n0 + n1) _ _ (Nat.le_refl _) (by unfold maxLen; omega), (Below.refl _ _).alloc (Nat.le_refl _) _⟩
  case round =>
    obtain ⟨k, hk, rfl, rfl, hO, hB⟩ := hrel
    by_cases hlt : k < n0
    · obtain ⟨b, o, rfl, hr⟩ := h0.out.2 (by omega)
      obtain ⟨q0, q1, q2, q3, q4⟩ := ch5 (hr.below hB.out) hlt
      clear hr
      have b0 : (k : Int) < (n0 : Int) := by omega
      obtain ⟨wo, rfl⟩ : ∃ wo : World, wo = wr := ⟨_, rfl⟩
      go_wp2_with (at_builtin; go_must (refine wpList_append_fits _ rfl (.tmp 26) (.tmp 31) 23 rfl w.heap.size 43 i0 5 Try.underlying23 hi hz1 w.heap.size k (n0 + n1) (chL (firsts f0 k)) rfl (hO.out.alloc _) ⟨wo.heap.size, 0, none⟩ 1 1 (ch1 (f0 k)) rfl rfl (src_new _ _ _ _ (by simp)) (ch1_one _) (by omega) ?_); intro w1 ho hg; have O1 : Hid (OwnT 43 w1 w.heap.size w.heap.size (k + 1) (n0 + n1) (firsts f0 (k + 1))) := (by rw [firsts_succ]; show World.ownsRow _ _ _ _ _ _ _; rw [chL_append, chL_one]; exact ho); have B1 : Hid (Below w.heap.size w w1) := (hB.out.alloc hB.out.size _).grown hg (by have := hB.out.size; simp; omega) (fun q hq => by cases hq; omega); clear ho hg)
      go_roundw
      case rel => exact ⟨k + 1, by omega, by go_num, rfl, O1, B1⟩
      case measure => simp [intOf]; omega
    · obtain rfl : k = n0 := by omega
      clear h0 hmk
      go_wp2
      go_loopw [5, 7] (fun v i wr => ∃ (j g lw capw : Nat) (W : List Ch), j ≤ n1 ∧ i = .int .i64 j ∧ v = .slice (some ⟨g, 0, none⟩) lw capw ∧ lw ≤ k + j ∧ Hid (OwnT 43 wr w.heap.size g lw capw W) ∧ Hid (W = lastAll (firsts f0 k) (firsts f1 j)) ∧ Hid (Below w.heap.size w wr)) (fun _ i _ => n1 - (intOf i).toNat)
      case atStart => exact ⟨0, _, _, _, _, Nat.zero_le _, rfl, rfl, by omega, hO, rfl, hB⟩
      case round =>
        clear hO hB
        obtain ⟨j, g, lw, capw, W, hj, rfl, rfl, hlw, hO, hW, hB⟩ := hrel
        obtain ⟨wo, rfl⟩ : ∃ wo : World, wo = wr := ⟨_, rfl⟩
        by_cases hlt2 : j < n1
        · obtain ⟨b, o, rfl, hr⟩ := h1.out.2 (by omega)
          obtain ⟨q0, q1, q2, q3, q4⟩ := ch5 (hr.below hB.out) hlt2
          clear hr
          have b0 : (j : Int) < (n1 : Int) := by omega
          have hmk2 := run_make_zero 23 43 _ 5 64 Try.underlying23 Try.info43 (by omega) (lw + 1) ((lw : Int) + 1) (by omega) (by omega)
          obtain ⟨hg1, hg2⟩ := hO.out.lt
          have hsz := hB.out.size
          go_wp2
          go_loopw [9, 10] (fun nv jj wx => ∃ (i ln : Nat) (N : List Ch), i ≤ lw ∧ jj = .int .i64 i ∧ nv = .slice (some ⟨wo.heap.size + 1, 0, none⟩) ln (lw + 1) ∧ ln ≤ i ∧ wo.heap.size + 2 ≤ wx.heap.size ∧ Hid (OwnT 43 wx w.heap.size (wo.heap.size + 1) ln (lw + 1) N) ∧ Hid (N = (W.take i).filter (fun x => x.pos != (f1 j).pos)) ∧ Hid (OwnT 43 wx w.heap.size g lw capw W) ∧ Hid (wx.heap[wo.heap.size]? = some (chBlk (f1 j) 43)) ∧ Hid (Below w.heap.size w wx)) (fun _ jj _ => lw - (intOf jj).toNat)
          case atStart =>
            refine ⟨0, 0, [], Nat.zero_le _, rfl, rfl, Nat.le_refl _, by simp, ?_, rfl, (hO.out.alloc _).alloc _, ?_, (hB.out.alloc hsz _).alloc (by simp; omega) _⟩
            · have := own_made (wo.alloc (chBlk (f1 j) 43)) 43 (lw + 1) w.heap.size (.agg #[.string ⟨#[]⟩, .int .i64 0, .int .i64 0, .string ⟨#[]⟩, .string ⟨#[]⟩]) (by simp; omega) (by unfold maxLen; omega)
              rw [World.size_alloc] at this
              exact this
            · exact (Below.heap_alloc (wo.alloc (chBlk (f1 j) 43)) _ wo.heap.size (by simp)).trans (heap_alloc_new wo _)
          case round =>
            clear hmk2 q0 q1 q2 q3 q4 hO hB
            obtain ⟨i, ln, N, hi2, rfl, rfl, hln, hs2, hN, hNe, hO, hc8, hB⟩ := hrel
            have x0 : wr.cell? ⟨wo.heap.size, 0, none⟩ = some (.string (f1 j).name) := cell_of hc8.out 0
            have x1 : wr.cell? ⟨wo.heap.size, 1, none⟩ = some (.int .i64 (f1 j).nth) := cell_of hc8.out 1
            have x2 : wr.cell? ⟨wo.heap.size, 2, none⟩ = some (.int .i64 (f1 j).pos) := cell_of hc8.out 2
            have x3 : wr.cell? ⟨wo.heap.size, 3, none⟩ = some (.string (f1 j).val) := cell_of hc8.out 3
            have x4 : wr.cell? ⟨wo.heap.size, 4, none⟩ = some (.string (f1 j).who) := cell_of hc8.out 4
            obtain ⟨wi, rfl⟩ : ∃ wi : World, wi = wr := ⟨_, rfl⟩
            by_cases hlt3 : i < lw
            · obtain ⟨y, hy⟩ : ∃ y, W.getD i zeroCh = y := ⟨_, rfl⟩
              obtain ⟨p0, p1, p2, p3, p4⟩ := hO.out.five hlt3 hy
              have HY : Hid (W.getD i zeroCh = y) := hy
              have b1 : (i : Int) < (lw : Int) := by omega
              clear hy
              by_cases hp : y.pos = (f1 j).pos
              · have hp' : (y.pos == (f1 j).pos) = true := by simp [hp]
                have HN2 : Hid (N = (W.take (i + 1)).filter (fun x => x.pos != (f1 j).pos)) := by
                  show _ = _
                  rw [take_succ_getD W i (by rw [hO.out.len]; exact hlt3), HY.out, List.filter_append, ← hNe.out]
                  simp [hp]
                clear hp
                go_wp2
                go_quiet (fail)
                go_wp2
                go_roundw
                case rel => exact ⟨i + 1, ln, N, by omega, by go_num, rfl, by omega, hs2, hN, HN2, hO, hc8, belowDrew hB.out _⟩
                case measure => simp [intOf]; omega
              · have hp' : (y.pos == (f1 j).pos) = false := by simp [hp]
                have HN2 : Hid (N ++ [y] = (W.take (i + 1)).filter (fun x => x.pos != (f1 j).pos)) := by
                  show _ = _
                  rw [take_succ_getD W i (by rw [hO.out.len]; exact hlt3), HY.out, List.filter_append, ← hNe.out]
                  simp [hp]
                clear hp
                go_wp2
                go_quiet (fail)
                go_wp2_with (at_builtin; go_must (refine wpList_append_fits _ rfl (.tmp 61) (.tmp 66) 23 rfl w.heap.size 43 i0 5 Try.underlying23 hi hz1 (wo.heap.size + 1) ln (lw + 1) (chL N) rfl ((hN.out.drewN' _).alloc _) ⟨wi.heap.size, 0, none⟩ 1 1 (ch1 y) rfl rfl (src_new _ _ _ _ (by simp)) (ch1_one _) (by omega) ?_); intro w1 ho hg; have G1 := grown_push hg; have O1 : Hid (OwnT 43 w1 w.heap.size (wo.heap.size + 1) (ln + 1) (lw + 1) (N ++ [y])) := (by show World.ownsRow _ _ _ _ _ _ _; rw [chL_append, chL_one]; exact ho); have O2 : Hid (OwnT 43 w1 w.heap.size g lw capw W) := hO.out.other G1 (by simp; omega); have C2 : Hid (w1.heap[wo.heap.size]? = some (chBlk (f1 j) 43)) := (G1.block _ (by omega) (by simp)).trans hc8.out; have B1 : Hid (Below w.heap.size w w1) := hB.out.grown G1 (by omega) (fun q hq => by cases hq; omega); have S1 : wo.heap.size + 2 ≤ w1.heap.size := Nat.le_trans hs2 G1.size; clear ho hg G1)
                go_roundw
                case rel => exact ⟨i + 1, ln + 1, N ++ [y], by omega, by go_num, rfl, by omega, S1, O1, HN2, O2, C2, B1⟩
                case measure => simp [intOf]; omega
            · obtain rfl : i = lw := by omega
              have HW : Hid (N ++ [f1 j] = lastAll (firsts f0 k) (firsts f1 (j + 1))) := by
                show _ = _
                have hl := hO.out.len
                rw [hNe.out, List.take_of_length_le (by omega), firsts_succ]
                show lastStep W (f1 j) = _
                rw [lastAll_snoc, ← hW.out]
              go_wp2_with (at_builtin; go_must (refine wpList_append_fits _ rfl (.tmp 68) (.tmp 70) 23 rfl w.heap.size 43 i0 5 Try.underlying23 hi hz1 (wo.heap.size + 1) ln (i + 1) (chL N) rfl (hN.out.alloc _) ⟨wi.heap.size, 0, none⟩ 1 1 (ch1 (f1 j)) rfl rfl (src_new _ _ _ _ (by simp)) (ch1_one _) (by omega) ?_); intro w1 ho hg; have O1 : Hid (OwnT 43 w1 w.heap.size (wo.heap.size + 1) (ln + 1) (i + 1) (N ++ [f1 j])) := (by show World.ownsRow _ _ _ _ _ _ _; rw [chL_append, chL_one]; exact ho); have B1 : Hid (Below w.heap.size w w1) := (hB.out.alloc hB.out.size _).grown hg (by have := hB.out.size; simp; omega) (fun q hq => by cases hq; omega); clear ho hg)
              go_roundw
              case rel => exact ⟨j + 1, wo.heap.size + 1, ln + 1, i + 1, _, by omega, by go_num, rfl, by omega, O1, HW, B1⟩
              case measure => simp [intOf]; omega
        · obtain rfl : j = n1 := by omega
          clear h1
          go_wp2
          go_loopw [11] (fun i wr => ∃ (ii : Nat) (R : List Ch), 1 ≤ ii ∧ i = .int .i64 ii ∧ ii ≤ lw + 1 ∧ w.heap.size ≤ wr.heap.size ∧ Hid (OwnT 43 wr w.heap.size g lw capw R) ∧ Hid (R.Perm W) ∧ Hid ((R.take ii).Pairwise (fun a b => a.pos ≤ b.pos)) ∧ Hid (Below w.heap.size w wr)) (fun i _ => lw + 1 - (intOf i).toNat)
          case atStart => exact ⟨1, W, Nat.le_refl _, rfl, by omega, hB.out.size, hO, List.Perm.refl _, take_one_sorted W, hB⟩
          case round =>
            clear hO hB
            obtain ⟨ii, R, hi1, rfl, hi2, hsz, hO, hPm, hSo, hB⟩ := hrel
            obtain ⟨wo2, rfl⟩ : ∃ wo2 : World, wo2 = wr := ⟨_, rfl⟩
            by_cases hlt4 : ii < lw
            · obtain ⟨x, hx⟩ : ∃ x, R.getD ii zeroCh = x := ⟨_, rfl⟩
              obtain ⟨p0, p1, p2, p3, p4⟩ := hO.out.five hlt4 hx
              have HX : Hid (R.getD ii zeroCh = x) := hx
              clear hx
              have hgl := hO.out.lt
              obtain ⟨hgl1, hgl2⟩ := hgl
              have b1 : (ii : Int) < (lw : Int) := by omega
              go_wp2
              go_loopw [13] (fun jv wx => ∃ (jj : Nat) (A B : List Ch) (y : Ch), jv = .int .i64 jj ∧ jj ≤ ii ∧ wo2.heap.size < wx.heap.size ∧ Hid (A.length = jj) ∧ Hid (OwnT 43 wx w.heap.size g lw capw (A ++ [y] ++ B ++ R.drop (ii + 1))) ∧ Hid (A ++ B = R.take ii) ∧ Hid (∀ z, z ∈ B → x.pos < z.pos) ∧ Hid (wx.heap[wo2.heap.size]? = some (chBlk x 43)) ∧ Hid (Below w.heap.size w wx)) (fun jv _ => (intOf jv).toNat)
              case atStart => exact ⟨ii, R.take ii, [], x, rfl, Nat.le_refl _, by simp, (by show _ = _; rw [List.length_take, hO.out.len]; omega), (by rw [List.append_nil, split_at R ii (by rw [hO.out.len]; exact hlt4) HX.out]; exact hO.out.alloc _), (by show _ = _; simp), (fun z hz => by cases hz), heap_alloc_new wo2 _, hB.out.alloc hB.out.size _⟩
              case round =>
                obtain ⟨jj, A, B, y, rfl, hjj, hs5, hA, hM, hAB, hBg, hc5, hB5⟩ := hrel
                clear p0 p1 p2 p3 p4
                have x0 : wr.cell? ⟨wo2.heap.size, 0, none⟩ = some (.string x.name) := cell_of hc5.out 0
                have x1 : wr.cell? ⟨wo2.heap.size, 1, none⟩ = some (.int .i64 x.nth) := cell_of hc5.out 1
                have x2 : wr.cell? ⟨wo2.heap.size, 2, none⟩ = some (.int .i64 x.pos) := cell_of hc5.out 2
                have x3 : wr.cell? ⟨wo2.heap.size, 3, none⟩ = some (.string x.val) := cell_of hc5.out 3
                have x4 : wr.cell? ⟨wo2.heap.size, 4, none⟩ = some (.string x.who) := cell_of hc5.out 4
                obtain ⟨wi, rfl⟩ : ∃ wi : World, wi = wr := ⟨_, rfl⟩
                have bj : (jj : Int) < (lw : Int) := by omega
                have hjl : jj < lw := by omega
                obtain ⟨d0, d1, d2, d3, d4⟩ := hM.out.five hjl (c := y) (mid_getD hA.out)
                have hfz := fun q => World.ownsRow.frozenAt hM.out q
                have z0 := hfz (jj * 5)
                have z1 := hfz (jj * 5 + 1)
                have z2 := hfz (jj * 5 + 2)
                have z3 := hfz (jj * 5 + 3)
                have z4 := hfz (jj * 5 + 4)
                clear hfz
                by_cases hj0 : jj = 0
                · have hd : decide ((0 : Int) < (jj : Int)) = false := by simp [hj0]
                  have hd2 : decide (0 < jj) = false := by simp [hj0]
                  have FI : Hid _ := sort_fin hO.out.len hPm.out hSo.out hlt4 HX.out hA.out hAB.out hBg.out (fun z hz => by rw [List.eq_nil_of_length_eq_zero (hA.out.trans hj0)] at hz; cases hz)
                  clear hj0
                  go_wp2
                  go_quiet (fail)
                  go_wp2
                  go_roundw
                  case rel => exact ⟨ii + 1, A ++ [x] ++ B ++ R.drop (ii + 1), by omega, by go_num, by omega, by simp [World.setCell]; omega, (by have := (hM.out.drewN' nq).set hjl x; rw [set_mid hA.out] at this; exact this), FI.out.1, FI.out.2, set5_below (belowDrew hB5.out nq) (by omega) jj x⟩
                  case measure => simp [intOf]; omega
                · obtain ⟨j', rfl⟩ : ∃ j', jj = j' + 1 := ⟨jj - 1, by omega⟩
                  obtain ⟨A', z, hAz⟩ := snoc_of hA.out
                  have hA' : A'.length = j' := by have := hA.out; rw [hAz] at this; simpa using this
                  obtain ⟨e0, e1, e2, e3, e4⟩ := hM.out.five (show j' < lw by omega) (c := z) (by rw [hAz, List.append_assoc A' [z], List.append_assoc A', List.append_assoc A']; exact pre_getD hA')
                  have HA : Hid (A = A' ++ [z] ∧ A'.length = j') := ⟨hAz, hA'⟩
                  clear hAz hA' hj0
                  have bj' : (j' : Int) < (lw : Int) := by omega
                  by_cases hz : x.pos < z.pos
                  · go_wp2
                    go_quiet (fail)
                    go_wp2
                    go_roundw
                    case rel => exact ⟨j', A', z :: B, z, by go_num, by omega, by simp [World.setCell]; omega, HA.out.2, (by have := (hM.out.drewN' nq).set hjl z; rw [set_mid hA.out, shift_list HA.out.1] at this; exact this), (by show _ = _; rw [← hAB.out, HA.out.1]; simp), (fun u hu => (List.mem_cons.1 hu).elim (fun e => by rw [e]; exact hz) (fun e => hBg.out u e)), (by show _ = _; rw [heap_set5 (wi.drewN nq) g (j' + 1) z _ (by omega)]; exact hc5.out), set5_below (belowDrew hB5.out nq) (by omega) (j' + 1) z⟩
                    case measure => simp [intOf]
                  · have FI : Hid _ := sort_fin hO.out.len hPm.out hSo.out hlt4 HX.out hA.out hAB.out hBg.out (fun u hu => by
                      rw [HA.out.1] at hu
                      rcases List.mem_append.1 hu with e | e
                      · have hs := hSo.out
                        rw [← hAB.out, HA.out.1, List.append_assoc] at hs
                        have := (List.pairwise_append.1 hs).2.2 u e z (by simp)
                        omega
                      · have : u = z := by simpa using e
                        rw [this]; omega)
                    go_wp2
                    go_quiet (fail)
                    go_wp2
                    go_roundw
                    case rel => exact ⟨ii + 1, A ++ [x] ++ B ++ R.drop (ii + 1), by omega, by go_num, by omega, by simp [World.setCell]; omega, (by have := (hM.out.drewN' nq).set hjl x; rw [set_mid hA.out] at this; exact this), FI.out.1, FI.out.2, set5_below (belowDrew hB5.out nq) (by omega) (j' + 1) x⟩
                    case measure => simp [intOf]; omega
            · have hl := hO.out.len
              have FI : Hid (Lasted (firsts f0 k) (firsts f1 j) w (.returned (.slice (some ⟨g, 0, none⟩) lw capw)) wo2) := ⟨g, lw, capw, R, rfl, hO.out, (by rw [← hW.out]; exact hPm.out), (by have := hSo.out; rwa [List.take_of_length_le (by omega)] at this), hB.out⟩
              go_wp2
              go_ret
              exact FI.out

end Go.Proofs.Qxb6623453a
