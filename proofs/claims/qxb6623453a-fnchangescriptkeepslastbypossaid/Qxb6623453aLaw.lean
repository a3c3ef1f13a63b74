/- The law. -/
import Derived.Test.Qxb6623453aKeep
import Derived.Test.Qxb6623453aFit
namespace Go.Proofs.Qxb6623453a
open Go.ChangeShapes Go.WideShapes Go.ChangeAt Go.RowKit
set_option linter.unusedVariables false
set_option linter.unusedSimpArgs false

/-- What the walk's end says. -/
def Good (w : World) (x : Ending) (w' : World) : Prop := x = .returned (.bool true) ∧ Below w.heap.size w w'

theorem own_below {w w' : World} {base n : Nat} {v : Value} {xs : List Value} {t : TypeId} {size : Nat} (h : w.ownsRow base t size v n xs) (hb : Below w.heap.size w w') : w'.ownsRow base t size v n xs :=
  World.ownsRow.kept h (row := Option.none) ⟨hb.os, hb.tape, hb.output, hb.size, fun k hk _ => hb.block k hk⟩ (by
    rcases h.2 with ⟨h0, _⟩ | ⟨g, cap', cur, h0, _⟩
    · left; rw [h0]; rfl
    · right; rw [h0]; simp [Value.ownBlock])

set_option maxHeartbeats 8000000 in
set_option maxRecDepth 100000 in
theorem lawMain (a0 a1 a2 a7 : Option Addr) (n0 c0 n1 c1 n2 c2 n7 c7 : Nat) (s3 s4 s5 s6 : ByteArray) (f0 : Nat → Fd) (f1 : Nat → Ch) (f2 : Nat → Rc) (f7 : Nat → Ch) (w : World)
    (m0 : n0 ≤ 4096) (m1 : n1 ≤ 4096) (m2 : n2 ≤ 4096) (m7 : n7 ≤ 4096) (m3 : Hid (s3.size ≤ maxLen)) (m4 : Hid (s4.size ≤ maxLen)) (m5 : Hid (s5.size ≤ maxLen)) (m6 : Hid (s6.size ≤ maxLen))
    (h0 : Hid (In w a0 n0 4 (fdF f0))) (h1 : Hid (In w a1 n1 5 (chF f1))) (h2 : Hid (In w a2 n2 3 (rcF f2))) (h7 : Hid (In w a7 n7 5 (chF f7))) :
    Calls Try.prog 3 #[.slice a0 n0 c0, .slice a1 n1 c1, .slice a2 n2 c2, .string s3, .string s4, .string s5, .string s6, .slice a7 n7 c7] w (Good w) := by
  go_enter Try.func3, Try.ntmps3
  go_wp2_with fail
  refine (bytes a0 a1 a2 a7 n0 c0 n1 c1 n2 c2 n7 c7 s3 s4 s5 s6 f0 f1 f2 f7 w (by unfold maxLen; omega) (by unfold maxLen; omega) (by unfold maxLen; omega) (by unfold maxLen; omega) m3.out m4.out m5.out m6.out h0 h1 h2 h7).mono ?_
  rintro x w1 ⟨r, rfl, rfl⟩
  cases r
  · go_wp2
    go_ret
    exact ⟨rfl, Below.refl _ _⟩
  obtain ⟨w, rfl⟩ : ∃ w : World, w = w1 := ⟨_, rfl⟩
  go_wp2_with fail
  refine (fit a0 a1 a2 a7 n0 c0 n1 c1 n2 c2 n7 c7 s3 s4 s5 s6 f0 f1 f2 f7 w m0 m1 m2 m7 h0 h1 h2 h7).mono ?_
  rintro x w1 ⟨r, rfl, rfl⟩
  cases r
  · go_wp2
    go_ret
    exact ⟨rfl, Below.refl _ _⟩
  obtain ⟨w, rfl⟩ : ∃ w : World, w = w1 := ⟨_, rfl⟩
  go_wp2_with fail
  refine (strictly a1 n1 c1 f1 m1 w h1).mono ?_
  rintro x w1 ⟨r, rfl, hst, hsame⟩
  have SM : Hid (Same w w1) := hsame
  clear hsame
  cases r
  · clear hst
    go_wp2
    go_ret
    exact ⟨rfl, SM.out.below _⟩
  have ST : Hid (Strict f1 n1) := hst rfl
  clear hst
  go_wp2_with fail
  refine (cloneFd a0 n0 c0 f0 m0 w1 (h0.out.same SM.out)).mono ?_
  rintro x w2 ⟨b0, d0, rfl, hC⟩
  have C0 : Hid (Cl w1 w2 a0 b0 n0 4 (fdF f0)) := hC
  clear hC
  go_wp2_with fail
  refine (cloneCh a1 n1 c1 f1 m1 w2 ((h1.out.same SM.out).below C0.out.bel)).mono ?_
  rintro x w3 ⟨b1, d1, rfl, hC⟩
  have C1 : Hid (Cl w2 w3 a1 b1 n1 5 (chF f1)) := hC
  clear hC
  go_wp2_with fail
  refine (cloneRc a2 n2 c2 f2 m2 w3 (((h2.out.same SM.out).below C0.out.bel).below C1.out.bel)).mono ?_
  rintro x w4 ⟨b2, d2, rfl, hC⟩
  have C2 : Hid (Cl w3 w4 a2 b2 n2 3 (rcF f2)) := hC
  clear hC
  go_wp2_with fail
  refine (cloneCh a7 n7 c7 f7 m7 w4 ((((h7.out.same SM.out).below C0.out.bel).below C1.out.bel).below C2.out.bel)).mono ?_
  rintro x w5 ⟨b7, d7, rfl, hC⟩
  have C7 : Hid (Cl w4 w5 a7 b7 n7 5 (chF f7)) := hC
  clear hC
  have I0 : Hid (InT w5 b0 n0 4 (fdF f0)) := ((C0.out.inT.below C1.out.bel).below C2.out.bel).below C7.out.bel
  have I1 : Hid (InT w5 b1 n1 5 (chF f1)) := (C1.out.inT.below C2.out.bel).below C7.out.bel
  have I2 : Hid (InT w5 b2 n2 3 (rcF f2)) := C2.out.inT.below C7.out.bel
  have I7 : Hid (InT w5 b7 n7 5 (chF f7)) := C7.out.inT
  have B5 : Hid (Below w.heap.size w w5) := by
    have e1 := SM.out.below w.heap.size
    have e2 := e1.trans (C0.out.bel.mono e1.size)
    have e3 := e2.trans (C1.out.bel.mono e2.size)
    have e4 := e3.trans (C2.out.bel.mono e3.size)
    exact e4.trans (C7.out.bel.mono e4.size)
  clear C0 C1 C2 C7 SM h0 h1 h2 h7 m3 m4 m5 m6
  go_wp2_with fail
  refine (toFd b0 n0 d0 f0 m0 w5 I0.out.cells).mono ?_
  rintro x w6 ⟨e0, g0, rfl, hC⟩
  have D0 : Hid (Cl w5 w6 b0 e0 n0 4 (fdF f0)) := hC
  clear hC
  go_wp2_with fail
  refine (toChanges b1 n1 d1 f1 m1 w6 (I1.out.below D0.out.bel).cells).mono ?_
  rintro x w7 ⟨e1, g1, rfl, hO, hBl⟩
  have O7 : Hid (w7.ownsRow w6.heap.size 41 5 (.slice e1 n1 g1) n1 (chL (firsts f1 n1))) := hO
  have B7 : Hid (Below w6.heap.size w6 w7) := hBl
  clear hO hBl
  go_wp2_with fail
  refine (toRc b2 n2 d2 f2 m2 w7 ((I2.out.below D0.out.bel).below B7.out).cells).mono ?_
  rintro x w8 ⟨e2, g2, rfl, hC⟩
  have D2 : Hid (Cl w7 w8 b2 e2 n2 3 (rcF f2)) := hC
  clear hC
  have J0 : Hid (InT w8 b0 n0 4 (fdF f0)) := ((I0.out.below D0.out.bel).below B7.out).below D2.out.bel
  have J1 : Hid (InT w8 b1 n1 5 (chF f1)) := ((I1.out.below D0.out.bel).below B7.out).below D2.out.bel
  have J2 : Hid (InT w8 b2 n2 3 (rcF f2)) := ((I2.out.below D0.out.bel).below B7.out).below D2.out.bel
  have J7 : Hid (InT w8 b7 n7 5 (chF f7)) := ((I7.out.below D0.out.bel).below B7.out).below D2.out.bel
  have K0 : Hid (InT w8 e0 n0 4 (fdF f0)) := (D0.out.inT.below B7.out).below D2.out.bel
  have K2 : Hid (InT w8 e2 n2 3 (rcF f2)) := D2.out.inT
  have O8 : Hid (w8.ownsRow w6.heap.size 41 5 (.slice e1 n1 g1) n1 (chL (firsts f1 n1))) := own_below O7.out D2.out.bel
  have N0 : Hid (e0.isNone = b0.isNone) := D0.out.nil
  have N2 : Hid (e2.isNone = b2.isNone) := D2.out.nil
  have z1 : w.heap.size ≤ w5.heap.size := B5.out.size
  have z2 : w5.heap.size ≤ w6.heap.size := D0.out.bel.size
  have z3 : w6.heap.size ≤ w7.heap.size := B7.out.size
  have z4 : w7.heap.size ≤ w8.heap.size := D2.out.bel.size
  have B8 : Hid (Below w.heap.size w w8) := by
    have e2 := B5.out.trans (D0.out.bel.mono z1)
    have e3 := e2.trans (B7.out.mono e2.size)
    exact e3.trans (D2.out.bel.mono e3.size)
  clear I0 I1 I2 I7 D0 D2 B7 O7 B5
  go_wp2_with fail
  go_loopg [18] n7 (fun gk i wr => ∃ (k ln cap : Nat) (a : Option Addr) (L : List Ch), gk = n7 - k ∧ k ≤ n7 ∧ i = .int .i64 k ∧ ln ≤ n1 + k ∧ w8.heap.size < wr.heap.size ∧ Hid (wr.heap[w8.heap.size]? = some (edBlk (.slice e0 n0 g0) (.slice a ln cap) (.slice e2 n2 g2) s3 s4 s5 s6)) ∧ Hid (wr.ownsRow w6.heap.size 41 5 (.slice a ln cap) ln (chL L)) ∧ Hid (L = putAll (firsts f1 n1) (firsts f7 k)) ∧ Hid (Kp w8 wr) ∧ Hid (Below w.heap.size w wr))
  case atStart => exact ⟨0, n1, g1, e1, firsts f1 n1, rfl, Nat.zero_le _, rfl, by omega, by simp, heap_alloc_new w8 _, O8.out.alloc _, rfl, Kp.alloc w8 _, B8.out.alloc B8.out.size _⟩
  case round =>
    obtain ⟨k, ln, cap, a, L, rfl, hk, rfl, hln, hsz, hE, hO, hL, hK, hB⟩ := hrel
    have hSo : Hid (SortedL L) := by rw [hL.out]; exact putAll_sorted (sorted_of_strict ST.out) _
    have hLn : Hid (L.length = ln) := by have := hO.out.1; rw [chL_len] at this; show _ = _; omega
    by_cases hlt : k < n7
    · obtain ⟨b, o, e', hr⟩ := (J7.out.kp hK.out).cells.2 (by omega)
      subst e'
      obtain ⟨q0, q1, q2, q3, q4⟩ := ch5 hr hlt
      clear hr
      have b0' : (k : Int) < (n7 : Int) := by omega
      obtain ⟨wo, rfl⟩ : ∃ wo : World, wo = wr := ⟨_, rfl⟩
      go_wp2_with fail
      refine (toChange (f7 k) _).mono ?_
      rintro x w' ⟨rfl, rfl⟩
      have AB : Hid (Below wo.heap.size wo ((wo.alloc (chBlk (f7 k) 43)).alloc (chBlk (f7 k) 41))) := ((Below.refl _ _).alloc (Nat.le_refl _) _).alloc (by simp) _
      have ZC : Hid (Calls Try.prog 13 #[.pointer (some ⟨w8.heap.size, 0, none⟩), (f7 k).agg] ((wo.alloc (chBlk (f7 k) 43)).alloc (chBlk (f7 k) 41)) (Changed w8.heap.size w6.heap.size (.slice e0 n0 g0) (.slice e2 n2 g2) s3 s4 s5 s6 (.slice a ln cap) L (f7 k) ((wo.alloc (chBlk (f7 k) 43)).alloc (chBlk (f7 k) 41)))) :=
        zzChange w8.heap.size w6.heap.size ln cap (.slice e0 n0 g0) (.slice e2 n2 g2) s3 s4 s5 s6 a L (f7 k) _ ((AB.out.block _ hsz).trans hE.out) hLn (by omega) (by have := AB.out.size; omega) ((hO.out.alloc _).alloc _) hSo
      go_wp2_with fail
      refine ZC.out.mono ?_
      rintro x w' ⟨rfl, a', cap', hE', hO', hT'⟩
      have K' : Hid (Kp w8 w') := (hK.out.below AB.out).turned ((hO.out.alloc _).alloc _) hT'
      have B' : Hid (Below w.heap.size w w') := below_turned (hB.out.trans (AB.out.mono hB.out.size)) (by omega) (by omega) ((hO.out.alloc _).alloc _) hT'
      have E' : Hid (w'.heap[w8.heap.size]? = some (edBlk (.slice e0 n0 g0) (.slice a' (put L (f7 k)).length cap') (.slice e2 n2 g2) s3 s4 s5 s6)) := hE'
      have O' : Hid (w'.ownsRow w6.heap.size 41 5 (.slice a' (put L (f7 k)).length cap') (put L (f7 k)).length (chL (put L (f7 k)))) := hO'
      have S' : w8.heap.size < w'.heap.size := block_lt hE'
      have P' : (put L (f7 k)).length ≤ n1 + (k + 1) := by have := put_len_le L (f7 k); have := hLn.out; omega
      have L' : Hid (put L (f7 k) = putAll (firsts f1 n1) (firsts f7 (k + 1))) := by show _ = _; rw [firsts_succ, putAll, List.foldl_append, hL.out]; rfl
      clear hE' hO' hT' ZC AB
      go_wp2
      go_roundg (n7 - (k + 1))
      case measure => omega
      case rel => exact ⟨k + 1, _, cap', a', _, rfl, by omega, by go_num, P', S', E', O', L', K', B'⟩
    · obtain rfl : k = n7 := by omega
      go_wp2_with fail
      refine (last b1 b7 n1 d1 k d7 f1 f7 m1 m7 wr (J1.out.kp hK.out).cells (J7.out.kp hK.out).cells).mono ?_
      rintro x wL ⟨gR, nR, capR, R, rfl, hOR, hPR, hSR, hBR⟩
      have eR : R = L := (sorted_unique L R hSo.out hSR (by rw [hL.out]; exact (putAll_perm (sorted_of_strict ST.out) _).trans hPR.symm)).symm
      subst eR
      obtain rfl : nR = ln := by rw [← hOR.len]; exact hLn.out
      have QR : Hid (OwnT 43 wL wr.heap.size gR nR capR R) := hOR
      have QO : Hid (In wL a nR 5 (chF fun i => R.getD i zeroCh)) := (own_rows hLn.out hO.out).below hBR
      have QE : Hid (wL.heap[w8.heap.size]? = some (edBlk (.slice e0 n0 g0) (.slice a nR cap) (.slice e2 n2 g2) s3 s4 s5 s6)) := (hBR.block _ hsz).trans hE.out
      have QB : Hid (Below w.heap.size w wL) := hB.out.trans (hBR.mono hB.out.size)
      have QS : w8.heap.size < wL.heap.size := block_lt QE.out
      have P0 : Hid (InT wL b0 n0 4 (fdF f0)) := (J0.out.kp hK.out).below hBR
      have P2 : Hid (InT wL b2 n2 3 (rcF f2)) := (J2.out.kp hK.out).below hBR
      have U0 : Hid (InT wL e0 n0 4 (fdF f0)) := (K0.out.kp hK.out).below hBR
      have U2 : Hid (InT wL e2 n2 3 (rcF f2)) := (K2.out.kp hK.out).below hBR
      have q1 : wL.cell? ⟨w8.heap.size, 1, none⟩ = some (.slice a nR cap) := cell_of QE.out 1
      have hlen : Hid (nR ≤ 8192) := by show _ ≤ _; omega
      clear hOR hPR hSR hBR hE hO hL hK hB hSo J0 J1 J2 J7 K0 K2 O8 B8 ST
      go_wp2
      go_loopg [20] nR (fun gk i wx => ∃ j : Nat, gk = nR - j ∧ j ≤ nR ∧ i = .int .i64 j ∧ Hid (Below wL.heap.size wL wx))
      case atStart => exact ⟨0, rfl, Nat.zero_le _, rfl, Below.refl _ _⟩
      case round =>
        obtain ⟨j, rfl, hj, rfl, hX⟩ := hrel
        clear q1
        obtain ⟨wx, rfl⟩ : ∃ wx : World, wx = wr := ⟨_, rfl⟩
        by_cases hjl : j < nR
        · obtain ⟨c, hc⟩ : ∃ c, R.getD j zeroCh = c := ⟨_, rfl⟩
          have QE' := (hX.out.block _ QS).trans QE.out
          obtain ⟨ga, oa, e', hr⟩ := (QO.out.below hX.out).2 (by omega)
          subst e'
          have five := ch5 hr hjl
          simp only [hc] at five
          obtain ⟨p0, p1, p2, p3, p4⟩ := five
          obtain ⟨r0, r1, r2, r3, r4⟩ := OwnT.five (own_below QR.out hX.out) hjl hc
          have qe : wx.cell? ⟨w8.heap.size, 1, none⟩ = some (.slice (some ⟨ga, oa, none⟩) nR cap) := cell_of QE' 1
          have XX : Hid (Below wL.heap.size wL ((wx.alloc (chBlk c 41)).alloc (chBlk c 43))) := ((hX.out.alloc hX.out.size _)).alloc (Nat.le_trans hX.out.size (by simp)) _
          clear QE' hr hc
          have b0' : (j : Int) < (nR : Int) := by omega
          go_wp2_with fail
          go_cut [124] (fun v wx' => v = .bool false ∧ Hid (Below wL.heap.size wL wx'))
          case first =>
            go_region_with (go_at_call 16; refine (sameChange c _).mono ?_; rintro x w' ⟨rfl, rfl⟩)
            all_goals
              go_wp2
              go_meet
              case rel => exact ⟨rfl, belowDrew XX.out _⟩
          case rest =>
            obtain ⟨rfl, hC⟩ := hcut
            go_wp2
            go_roundg (nR - (j + 1))
            case measure => omega
            case rel => exact ⟨j + 1, rfl, by omega, by go_num, hC⟩
        · have QE' : Hid (wx.heap[w8.heap.size]? = some (edBlk (.slice e0 n0 g0) (.slice a nR cap) (.slice e2 n2 g2) s3 s4 s5 s6)) := (hX.out.block _ QS).trans QE.out
          have q0 : wx.cell? ⟨w8.heap.size, 0, none⟩ = some (.slice e0 n0 g0) := cell_of QE'.out 0
          go_wp2_with fail
          refine (sameFields e0 b0 n0 g0 d0 f0 m0 N0.out wx (U0.out.below hX.out).cells (P0.out.below hX.out).cells).mono ?_
          rintro x w9 ⟨rfl, hs9⟩
          have S9 : Hid (Same wx w9) := hs9
          clear hs9
          have q2 : w9.cell? ⟨w8.heap.size, 2, none⟩ = some (.slice e2 n2 g2) := (S9.out.cell _).trans (cell_of QE'.out 2)
          go_wp2_with fail
          refine (sameRecipients e2 b2 n2 g2 d2 f2 m2 N2.out w9 ((U2.out.below hX.out).cells.same S9.out) ((P2.out.below hX.out).cells.same S9.out)).mono ?_
          rintro x w10 ⟨rfl, hs10⟩
          have S10 : Hid (Same w9 w10) := hs10
          clear hs10
          have y3 : w10.cell? ⟨w8.heap.size, 3, none⟩ = some (.string s3) := (S10.out.cell _).trans ((S9.out.cell _).trans (cell_of QE'.out 3))
          have y4 : w10.cell? ⟨w8.heap.size, 4, none⟩ = some (.string s4) := (S10.out.cell _).trans ((S9.out.cell _).trans (cell_of QE'.out 4))
          have y5 : w10.cell? ⟨w8.heap.size, 5, none⟩ = some (.string s5) := (S10.out.cell _).trans ((S9.out.cell _).trans (cell_of QE'.out 5))
          have y6 : w10.cell? ⟨w8.heap.size, 6, none⟩ = some (.string s6) := (S10.out.cell _).trans ((S9.out.cell _).trans (cell_of QE'.out 6))
          have FB : Hid (Below w.heap.size w w10) := ((QB.out.trans (hX.out.mono QB.out.size)).trans (S9.out.below _)).trans (S10.out.below _)
          go_wp2
          go_ret
          exact ⟨rfl, FB.out⟩

end Go.Proofs.Qxb6623453a
