/- 'zzAncestorMax'. -/
import Derived.Test.Qxb6617469aWd
import Derived.Deep.LoopGhost
import Derived.Deep.DeepCutAuto
namespace Go.Proofs.Qxb6617469a
open Go.ChangeShapes Go.WideShapes Go.ChangeAt Go.RowKit

theorem want_next {w : World} {b nl : Nat} {H : Hist} {L : Nat → Int} {s k : Nat} {x : Int} (hk : s ≤ k) (hx : x = step H (fwd H L s (k - s)) k) (h : w.rowIs b 21 nl (fun j => .int .i32 (fwd H L s (k - s) j))) :
    (w.setCell ⟨b, k + 1, none⟩ (.int .i32 x)).rowIs b 21 nl (fun j => .int .i32 (fwd H L s (k + 1 - s) j)) := by
  refine World.rowIs.congr (f := fun j => if j = k + 1 then .int .i32 x else .int .i32 (fwd H L s (k - s) j)) (h.set (k + 1) (.int .i32 x)) fun j _ => ?_
  have e1 : k + 1 - s = (k - s) + 1 := by omega
  rw [e1]
  show _ = Value.int .i32 (if j = s + (k - s) + 1 then step H (fwd H L s (k - s)) (s + (k - s)) else fwd H L s (k - s) j)
  have e2 : s + (k - s) = k := by omega
  rw [e2]
  by_cases ej : j = k + 1
  · rw [if_pos ej, if_pos ej, hx]
  · rw [if_neg ej, if_neg ej]

theorem in_cell {w wx : World} {F : Nat → Int} {nl N bv bs m : Nat} {vis : Nat → Bool} {st : List Nat} {bi oi li j kk X : Nat} {H : Hist} (h : Wd w F nl N bv bs vis st m wx) (ht : P32At w bi oi li H.I0 H.I1) (hj : j < li) (hk : kk < 2) (hX : inSlot H j kk = (X : Int)) :
    wx.cell? ⟨bi, oi + j * 2 + kk, none⟩ = some (.int .i32 (X : Int)) := by
  match kk, hk with
  | 0, _ => rw [← hX]; simpa [inSlot] using h.cell (ht j hj).1
  | 1, _ => rw [← hX]; simpa [inSlot] using h.cell (ht j hj).2

theorem snoc_of {α : Type} {l : List α} {m : Nat} (h : l.length = m + 1) : ∃ l' x, l = l' ++ [x] := by
  have hne : l ≠ [] := by intro e; subst e; simp at h
  exact ⟨l.dropLast, l.getLast hne, (List.dropLast_concat_getLast hne).symm⟩

set_option maxHeartbeats 4000000 in
set_option maxRecDepth 100000 in
theorem am (ai ac ap : Option Addr) (li ci lc cc lp cp bl ol nl cl : Nat) (H : Hist) (s e : Nat) (L : Nat → Int) (w : World) (hs : s ≤ e) (he : e ≤ 4096) (hn : e < nl) (hnl : nl ≤ 4097) (hbl : bl < w.heap.size)
    (hlast : I32At w bl ol nl L) (hr : Hid (Reads w w.heap.size H s e ai ac ap li lc lp)) :
    Calls Try.prog 7 #[.slice ai li ci, .slice ac lc cc, .slice ap lp cp, .slice (some ⟨bl, ol, none⟩) nl cl, .int .i32 H.t, .int .i32 s, .int .i32 e] w fun x w' =>
      x = .returned (.slice (some ⟨w.heap.size, 0, none⟩) nl nl) ∧ w'.rowIs w.heap.size 21 nl (fun j => .int .i32 (fwd H L s (e - s) j)) ∧ Below w.heap.size w w' := by
  obtain ⟨N, hN⟩ : ∃ N, N = e - s := ⟨_, rfl⟩
  have hmk1 := run_make_bools N ((e : Int) - (s : Int)) (by omega) (by omega)
  have hmk2 := run_make_stack N ((e : Int) - (s : Int)) (by omega) (by omega)
  have HL : Hid (I32At w bl ol nl L) := hlast
  have hN1 : N + s = e := by omega
  have HN1 : Hid (N + s = e) := hN1
  have hN4 : N ≤ 4096 := by omega
  clear hN hN1 hlast
  go_enter Try.func7, Try.ntmps7
  go_wp2_with fail
  refine (copy32 bl ol nl cl L hnl w hbl HL.out).mono ?_
  rintro x w0 ⟨rfl, hR0, hB0, hz0⟩
  have HR0 : Hid (w0.rowIs w.heap.size 21 nl (fun i => .int .i32 (L i))) := hR0
  have HB0 : Hid (Below w.heap.size w w0) := hB0
  have hlt0 : w.heap.size < w0.heap.size := by omega
  clear hR0 hB0 hz0
  go_wp2
  go_loopw [17] (fun i wr => ∃ k : Nat, s ≤ k ∧ k ≤ e ∧ i = .int .i32 k ∧ Hid (wr.rowIs w.heap.size 21 nl (fun j => .int .i32 (fwd H L s (k - s) j))) ∧ Hid (Below w.heap.size w wr) ∧ w.heap.size < wr.heap.size) (fun i _ => e - (intOf i).toNat)
  case atStart => exact ⟨s, Nat.le_refl _, hs, rfl, by rw [Nat.sub_self]; exact HR0, HB0, hlt0⟩
  case round =>
    obtain ⟨k, hk1, hk2, rfl, hR, hB, hz⟩ := hrel
    by_cases hlt : k < e
    · obtain ⟨g1, g2, g3, ⟨bi, oi, rfl, ni, ti⟩, ⟨bc, oc, rfl, nc, tc⟩, ⟨bp, op, rfl, np, tp⟩, hin⟩ := hr.out (by omega)
      have hq : (k : Int) - (s : Int) < (N : Int) := by have := HN1.out; omega
      have hq0 : 0 ≤ (k : Int) - (s : Int) := by omega
      have hmc : (madeCells #[Value.bool false] N)[k - s]? = some (.bool false) := by
        have : k - s < N := by omega
        simp [madeCells, this, Nat.mod_one]
      have TI : Hid (P32At w bi oi li H.I0 H.I1 ∧ I32At w bc oc lc H.C ∧ I32At w bp op lp H.P) := ⟨ti, tc, tp⟩
      have S : Slots H L (fwd H L s (e - s)) s e := slots_fwd H L s e hin
      have W1 : Hid _ := wd_start (F := fwd H L s (k - s)) hB.out hz hR.out (show k - s < N by omega) (by have := HN1.out; omega)
      have HS : Hid (Slots H L (fwd H L s (e - s)) s e) := S
      clear ti tc tp hin hr S ni nc np HR0 HB0 hR
      obtain ⟨i0, hi, hz0, hz1, hz2⟩ := info_parts Try.info21
      obtain ⟨wo, rfl⟩ : ∃ wo : World, wo = wr := ⟨_, rfl⟩
      have hN1' : 1 ≤ N := by omega
      go_wp2_with (first | (at_builtin; go_must (refine wpList_append_fits _ rfl (.tmp 47) (.tmp 49) 23 rfl (wo.heap.size + 1) 21 i0 1 Try.underlying23 hi hz1 (wo.heap.size + 1) 0 N (stCells []) rfl (W1.out.own.alloc _) ⟨wo.heap.size + 1 + 1, 0, none⟩ 1 1 [.int .i32 (k : Int)] rfl rfl (one_new_at _ _ _ _ (by simp)) (one_cell_i32 _) (by omega) ?_); intro w1 ho hg; have WD : Hid (Wd w (fwd H L s (k - s)) nl N wo.heap.size (wo.heap.size + 1) (fun q => decide (q = k - s)) ([] ++ [k]) (0 + 1) w1) := (W1.out.alloc _).push ho hg; clear ho hg))
      go_loopg [19, 20, 21] (0 + 1 + 2 * cnt (fun q => decide (q = k - s)) N) (fun g sv hv bb wx => ∃ (vis : Nat → Bool) (st : List Nat) (has : Bool) (best : Int) (m : Nat), g = m + 2 * cnt vis N ∧ sv = .slice (some ⟨wo.heap.size + 1, 0, none⟩) m N ∧ hv = .bool has ∧ bb = .int .i32 best ∧ m + cnt vis N ≤ N ∧ Hid (AtHead H L (fwd H L s (e - s)) s k vis st has best) ∧ Hid (Wd w (fwd H L s (k - s)) nl N wo.heap.size (wo.heap.size + 1) vis st m wx))
      case atStart => exact ⟨_, _, _, _, _, rfl, rfl, rfl, rfl, by have := cnt_start (k - s) N (by omega); omega, head_start hk1, WD.out⟩
      case round =>
        obtain ⟨vis, st, has, best, m, rfl, rfl, rfl, rfl, hle, hA, hW⟩ := hrel
        clear WD W1 hmk1 hmk2 hmc
        cases m with
        | zero =>
          have hst : st = [] := List.eq_nil_of_length_eq_zero hW.out.len
          subst hst
          have hbest := head_end HS.out hk1 hlt hA.out
          have hwc := hW.out.want.cell (i := k + 1) (by omega)
          have hwf := hW.out.want.frozen (k + 1)
          have hk' : (k : Int) + 1 < (nl : Int) := by omega
          have hk'' : 0 ≤ (k : Int) + 1 := by omega
          have HE : Hid (best = fwd H L s (e - s) (k + 1)) := hbest
          clear hbest
          go_wp2
          go_roundw
          case rel => exact ⟨k + 1, by omega, by omega, by go_num, want_next hk1 (by rw [HE.out, fwd_next H L s e k HS.out.fits hk1 hlt]) hW.out.want, hW.out.bel.setCell (Nat.le_refl _) _, by have := hW.out.lt1; have := hW.out.lt2; have := hW.out.lt3; simp [World.setCell]; omega⟩
          case measure => simp [intOf]; omega
        | succ m =>
          obtain ⟨st', j, hst⟩ := snoc_of hW.out.len
          subst hst
          obtain ⟨j1, j2, _⟩ := hA.out.on j (by simp)
          have htop := hW.out.top
          have hcj := hW.out.cell (TI.out.2.1 j (by omega))
          have hpj := hW.out.cell (TI.out.2.2 j (by omega))
          have b1 : (j : Int) < (lc : Int) := by omega
          have b2 : (j : Int) < (lp : Int) := by omega
          have WP : Hid _ := hW.out.pop
          clear hW
          have hmN : m + 1 ≤ N := by omega
          obtain ⟨wi, rfl⟩ : ∃ wi : World, wi = wr := ⟨_, rfl⟩
          go_upto_if 70 with (fail)
          go_cut [20, 21] (fun a b wx => Hid (wx = wi) ∧ ∃ (has' : Bool) (best' : Int), a = .bool has' ∧ b = .int .i32 best' ∧ Hid (InTurn H L (fwd H L s (e - s)) s k vis st' has' best' j 0))
          case first =>
            by_cases hC : H.C j = H.t
            · have hC' : (H.C j == H.t) = true := by simp [hC]
              cases has with
              | false =>
                have IT : Hid _ := pop_col_new HS.out hlt hA.out hC (fun h => by cases h)
                clear hC
                go_wp2
                go_meet
                case rel => exact ⟨rfl, _, _, rfl, rfl, IT⟩
              | true =>
                by_cases hP : best < H.P j
                · have IT : Hid _ := pop_col_new HS.out hlt hA.out hC (fun _ => by omega)
                  clear hC
                  go_wp2
                  go_meet
                  case rel => exact ⟨rfl, _, _, rfl, rfl, IT⟩
                · have IT : Hid _ := pop_col_old hA.out (show H.P j ≤ best by omega)
                  clear hC
                  go_wp2
                  go_meet
                  case rel => exact ⟨rfl, _, _, rfl, rfl, IT⟩
            · have hC' : (H.C j == H.t) = false := by simp [hC]
              have IT : Hid _ := pop_other hA.out hC
              clear hC
              go_wp2
              go_meet
              case rel => exact ⟨rfl, _, _, rfl, rfl, IT⟩
          case rest =>
            obtain ⟨hwx, has', best', rfl, rfl, hT⟩ := hcut
            obtain rfl := hwx.out
            clear hwx
            go_wp2
            go_loopg [19, 20, 21, 23] 2 (fun g sv hv bb kv wx => ∃ (kk : Nat) (vis2 : Nat → Bool) (st2 : List Nat) (has2 : Bool) (best2 : Int) (m2 : Nat), g = 2 - kk ∧ kk ≤ 2 ∧ sv = .slice (some ⟨wo.heap.size + 1, 0, none⟩) m2 N ∧ hv = .bool has2 ∧ bb = .int .i32 best2 ∧ kv = .int .i64 (kk : Int) ∧ m2 + cnt vis2 N + 1 ≤ N ∧ Hid (m2 + 2 * cnt vis2 N < m + 1 + 2 * cnt vis N) ∧ Hid (InTurn H L (fwd H L s (e - s)) s k vis2 st2 has2 best2 j kk) ∧ Hid (Wd w (fwd H L s (k - s)) nl N wo.heap.size (wo.heap.size + 1) vis2 st2 m2 wx))
            case atStart => exact ⟨0, vis, st', has', best', m, rfl, by omega, rfl, rfl, rfl, rfl, by omega, (by show _ < _; omega), hT, WP⟩
            case round =>
              obtain ⟨kk, vis2, st2, has2, best2, m2, rfl, hkk, rfl, rfl, rfl, rfl, hle2, hms, hI, hW⟩ := hrel
              by_cases hk2' : kk < 2
              · obtain ⟨X, hX⟩ : ∃ X : Nat, inSlot H j kk = (X : Int) := ⟨(inSlot H j kk).toNat, by have := (inSlot_le (H := H) (kk := kk) HS.out j1 (by omega)).1; omega⟩
                have hXj : X ≤ j := by have := (inSlot_le (H := H) (kk := kk) HS.out j1 (by omega)).2; omega
                have hic := in_cell hW.out TI.out.1 (show j < li by omega) hk2' hX
                have b3 : (j : Int) < (li : Int) := by omega
                have b4 : (kk : Int) < 2 := by omega
                have HX : Hid (inSlot H j kk = (X : Int)) := hX
                clear hX
                by_cases hxs : X ≤ s
                · have hlc := hW.out.cell (HL.out X (by omega))
                  have b5 : (X : Int) < (nl : Int) := by omega
                  have b6 : (X : Int) ≤ (s : Int) := by omega
                  cases has2 with
                  | false =>
                    have IT : Hid _ := slot_low_new HS.out hlt hk2' hI.out (by rw [HX.out]; omega) (fun h => by cases h)
                    rw [HX.out, Int.toNat_natCast] at IT
                    go_wp2
                    go_roundg (2 - (kk + 1))
                    case measure => omega
                    case rel => exact ⟨kk + 1, _, _, _, _, _, rfl, by omega, rfl, rfl, rfl, by go_num, hle2, hms, IT, hW⟩
                  | true =>
                    by_cases hP : best2 < L X
                    · have IT : Hid _ := slot_low_new HS.out hlt hk2' hI.out (by rw [HX.out]; omega) (fun _ => by rw [HX.out, Int.toNat_natCast]; omega)
                      rw [HX.out, Int.toNat_natCast] at IT
                      go_wp2
                      go_roundg (2 - (kk + 1))
                      case measure => omega
                      case rel => exact ⟨kk + 1, _, _, _, _, _, rfl, by omega, rfl, rfl, rfl, by go_num, hle2, hms, IT, hW⟩
                    · have IT : Hid _ := slot_low_old hk2' hI.out (by rw [HX.out]; omega) (by rw [HX.out, Int.toNat_natCast]; omega)
                      go_wp2
                      go_roundg (2 - (kk + 1))
                      case measure => omega
                      case rel => exact ⟨kk + 1, _, _, _, _, _, rfl, by omega, rfl, rfl, rfl, by go_num, hle2, hms, IT, hW⟩
                · have b6 : ¬ (X : Int) ≤ (s : Int) := by omega
                  have hYN : X - 1 - s < N := by have := HN1.out; omega
                  have hY := hW.out.vrow.cell (i := X - 1 - s) hYN
                  have hYf := hW.out.vrow.frozen (X - 1 - s)
                  have b7 : (X : Int) - 1 - (s : Int) < (N : Int) := by omega
                  have b8 : 0 ≤ (X : Int) - 1 - (s : Int) := by omega
                  cases hv : vis2 (X - 1 - s) with
                  | true =>
                    have IT : Hid _ := slot_seen hk2' hI.out (by rw [HX.out]; omega) (by rw [HX.out, Int.toNat_natCast]; exact hv)
                    rw [hv] at hY
                    clear hv
                    go_wp2
                    go_roundg (2 - (kk + 1))
                    case measure => omega
                    case rel => exact ⟨kk + 1, _, _, _, _, _, rfl, by omega, rfl, rfl, rfl, by go_num, hle2, hms, IT, hW⟩
                  | false =>
                    have IT : Hid _ := slot_push HS.out hlt hk2' hI.out (by rw [HX.out]; omega)
                    rw [HX.out, Int.toNat_natCast] at IT
                    have hcs := cnt_set vis2 (X - 1 - s) N hYN hv
                    have HC : Hid (m2 + 1 + cnt (fun q => if q = X - 1 - s then true else vis2 q) N + 1 ≤ N ∧ m2 + 1 + 2 * cnt (fun q => if q = X - 1 - s then true else vis2 q) N < m + 1 + 2 * cnt vis N) := ⟨by omega, by have := hms.out; omega⟩
                    have hroom : m2 + 1 ≤ N := by omega
                    rw [hv] at hY
                    clear hv hcs
                    have WM : Hid _ := hW.out.mark (X - 1 - s)
                    have eX : Hid ((X : Int) - 1 = ((X - 1 : Nat) : Int)) := by show _ = _; omega
                    obtain ⟨wj, rfl⟩ : ∃ wj : World, wj = wr := ⟨_, rfl⟩
                    go_wp2_with (first | (at_builtin; go_must (refine wpList_append_fits _ rfl (.tmp 126) (.tmp 128) 23 rfl (wo.heap.size + 1) 21 i0 1 Try.underlying23 hi hz1 (wo.heap.size + 1) m2 N (stCells st2) rfl (WM.out.own.alloc _) ⟨wj.heap.size, 0, none⟩ 1 1 [.int .i32 ((X : Int) - 1)] rfl rfl (one_new_at _ _ _ _ (by simp [World.setCell])) (one_cell_i32 _) hroom ?_); intro w1 ho hg; have WD2 : Hid (Wd w (fwd H L s (k - s)) nl N wo.heap.size (wo.heap.size + 1) (fun q => if q = X - 1 - s then true else vis2 q) (st2 ++ [X - 1]) (m2 + 1) w1) := (WM.out.alloc _).push (by rw [← eX.out]; exact ho) hg; clear ho hg))
                    go_roundg (2 - (kk + 1))
                    case measure => omega
                    case rel => exact ⟨kk + 1, _, _, _, _, _, rfl, by omega, rfl, rfl, rfl, by go_num, HC.out.1, HC.out.2, IT, WD2⟩
              · obtain rfl : kk = 2 := by omega
                have AH : Hid _ := turn_done hI.out
                go_wp2
                go_roundg (m2 + 2 * cnt vis2 N)
                case measure => exact hms.out
                case rel => exact ⟨vis2, st2, has2, best2, m2, rfl, rfl, rfl, rfl, by omega, AH, hW⟩
    · obtain rfl : k = e := by omega
      go_wp2
      go_ret
      exact ⟨rfl, hR.out, hB.out⟩

end Go.Proofs.Qxb6617469a
