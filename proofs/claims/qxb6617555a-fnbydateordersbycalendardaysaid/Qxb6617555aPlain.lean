/- THE PLAIN LAW: two texts of the form DDDD-DD-DD compare as bytes just as their days compare. No Go in sight. -/
import Derived.Test.Qxb6617555aDay
namespace Go.Proofs.Qxb6617555a

theorem cmp_step (x y : UInt8) (xs ys : List UInt8) (K : Int) (h1 : x.toNat < y.toNat → K = -1) (h2 : y.toNat < x.toNat → K = 1) (h3 : x.toNat = y.toNat → Lib.compareBytes xs ys = K) :
    Lib.compareBytes (x :: xs) (y :: ys) = K := by
  rw [Lib.compareBytes]
  by_cases a : x < y
  · rw [if_pos a]; exact (h1 (UInt8.lt_iff_toNat_lt.1 a)).symm
  · rw [if_neg a]
    by_cases b : y < x
    · rw [if_pos b]; exact (h2 (UInt8.lt_iff_toNat_lt.1 b)).symm
    · rw [if_neg b]
      refine h3 ?_
      have a' : ¬ x.toNat < y.toNat := fun h => a (UInt8.lt_iff_toNat_lt.2 h)
      have b' : ¬ y.toNat < x.toNat := fun h => b (UInt8.lt_iff_toNat_lt.2 h)
      omega

theorem cmpDay_lt {ya ma da yb mb db : Int} (h : ya < yb ∨ (ya = yb ∧ (ma < mb ∨ (ma = mb ∧ da < db)))) : cmpDay ya ma da yb mb db = -1 := by
  unfold cmpDay
  repeat (first | (split; (first | rfl | (exfalso; omega) | skip)) | rfl | (exfalso; omega))

theorem cmpDay_gt {ya ma da yb mb db : Int} (h : yb < ya ∨ (ya = yb ∧ (mb < ma ∨ (ma = mb ∧ db < da)))) : cmpDay ya ma da yb mb db = 1 := by
  unfold cmpDay
  repeat (first | (split; (first | rfl | (exfalso; omega) | skip)) | rfl | (exfalso; omega))

theorem cmpDay_eq {ya ma da yb mb db : Int} (h : ya = yb ∧ ma = mb ∧ da = db) : cmpDay ya ma da yb mb db = 0 := by
  obtain ⟨rfl, rfl, rfl⟩ := h
  simp [cmpDay]

theorem cmpDay_three (ya ma da yb mb db : Int) :
    (cmpDay ya ma da yb mb db = -1 ∧ cmpDay yb mb db ya ma da = 1) ∨ (cmpDay ya ma da yb mb db = 0 ∧ cmpDay yb mb db ya ma da = 0) ∨ (cmpDay ya ma da yb mb db = 1 ∧ cmpDay yb mb db ya ma da = -1) := by
  by_cases h : ya < yb ∨ (ya = yb ∧ (ma < mb ∨ (ma = mb ∧ da < db)))
  · exact .inl ⟨cmpDay_lt h, cmpDay_gt (by omega)⟩
  · by_cases h' : yb < ya ∨ (ya = yb ∧ (mb < ma ∨ (ma = mb ∧ db < da)))
    · exact .inr (.inr ⟨cmpDay_gt h', cmpDay_lt (by omega)⟩)
    · exact .inr (.inl ⟨cmpDay_eq (by omega), cmpDay_eq (by omega)⟩)

theorem ten {α : Type} (l : List α) (h : l.length = 10) : ∃ a b c d e f g i j k, l = [a, b, c, d, e, f, g, i, j, k] := by
  match l, h with
  | [a, b, c, d, e, f, g, i, j, k], _ => exact ⟨a, b, c, d, e, f, g, i, j, k, rfl⟩

/-- The ten bytes of a text that was read as a day. -/
theorem bytes_of {s : ByteArray} {y m d : Int} (h : Good s y m d) : ∃ a b c e f g i j k l : UInt8, s.data.toList = [a, b, c, e, f, g, i, j, k, l] ∧
    f.toNat = 45 ∧ j.toNat = 45 ∧ 48 ≤ a.toNat ∧ a.toNat ≤ 57 ∧ 48 ≤ b.toNat ∧ b.toNat ≤ 57 ∧ 48 ≤ c.toNat ∧ c.toNat ≤ 57 ∧ 48 ≤ e.toNat ∧ e.toNat ≤ 57 ∧
    48 ≤ g.toNat ∧ g.toNat ≤ 57 ∧ 48 ≤ i.toNat ∧ i.toNat ≤ 57 ∧ 48 ≤ k.toNat ∧ k.toNat ≤ 57 ∧ 48 ≤ l.toNat ∧ l.toNat ≤ 57 ∧
    y = ((a.toNat : Int) - 48) * 1000 + ((b.toNat : Int) - 48) * 100 + ((c.toNat : Int) - 48) * 10 + ((e.toNat : Int) - 48) ∧ m = ((g.toNat : Int) - 48) * 10 + ((i.toNat : Int) - 48) ∧ d = ((k.toNat : Int) - 48) * 10 + ((l.toNat : Int) - 48) := by
  obtain ⟨hz, h4, h7, hd, hy, hm, hdd⟩ := h
  have hl : s.data.toList.length = 10 := by
    rw [Array.length_toList]; exact hz
  obtain ⟨a, b, c, e, f, g, i, j, k, l, hs⟩ := ten _ hl
  have key : ∀ (n : Nat) (x : UInt8), s.data.toList[n]? = some x → byteAt s n = (x.toNat : Int) := by
    intro n x hx
    obtain ⟨hlt, hx⟩ := List.getElem?_eq_some_iff.1 hx
    have hn : n < s.size := by rw [Array.length_toList] at hlt; exact hlt
    unfold byteAt
    rw [dif_pos hn]
    have : s[n] = x := by rw [← hx]; rfl
    rw [this]
  have k0 := key 0 a (by rw [hs]; rfl)
  have k1 := key 1 b (by rw [hs]; rfl)
  have k2 := key 2 c (by rw [hs]; rfl)
  have k3 := key 3 e (by rw [hs]; rfl)
  have k4 := key 4 f (by rw [hs]; rfl)
  have k5 := key 5 g (by rw [hs]; rfl)
  have k6 := key 6 i (by rw [hs]; rfl)
  have k7 := key 7 j (by rw [hs]; rfl)
  have k8 := key 8 k (by rw [hs]; rfl)
  have k9 := key 9 l (by rw [hs]; rfl)
  have d0 := hd 0 (by omega) (by omega) (by omega)
  have d1 := hd 1 (by omega) (by omega) (by omega)
  have d2 := hd 2 (by omega) (by omega) (by omega)
  have d3 := hd 3 (by omega) (by omega) (by omega)
  have d5 := hd 5 (by omega) (by omega) (by omega)
  have d6 := hd 6 (by omega) (by omega) (by omega)
  have d8 := hd 8 (by omega) (by omega) (by omega)
  have d9 := hd 9 (by omega) (by omega) (by omega)
  unfold Dig at d0 d1 d2 d3 d5 d6 d8 d9
  rw [k0] at d0 hy; rw [k1] at d1 hy; rw [k2] at d2 hy; rw [k3] at d3 hy; rw [k4] at h4; rw [k5] at d5 hm; rw [k6] at d6 hm; rw [k7] at h7; rw [k8] at d8 hdd; rw [k9] at d9 hdd
  refine ⟨a, b, c, e, f, g, i, j, k, l, hs, ?_⟩
  omega

theorem compare_days {s t : ByteArray} {ya ma da yb mb db : Int} (hs : Good s ya ma da) (ht : Good t yb mb db) :
    Lib.compareBytes s.data.toList t.data.toList = cmpDay ya ma da yb mb db := by
  obtain ⟨a, b, c, e, f, g, i, j, k, l, e1, h⟩ := bytes_of hs
  obtain ⟨a', b', c', e', f', g', i', j', k', l', e2, h'⟩ := bytes_of ht
  rw [e1, e2]
  refine cmp_step _ _ _ _ _ (fun q => cmpDay_lt (by omega)) (fun q => cmpDay_gt (by omega)) fun q0 => ?_
  refine cmp_step _ _ _ _ _ (fun q => cmpDay_lt (by omega)) (fun q => cmpDay_gt (by omega)) fun q1 => ?_
  refine cmp_step _ _ _ _ _ (fun q => cmpDay_lt (by omega)) (fun q => cmpDay_gt (by omega)) fun q2 => ?_
  refine cmp_step _ _ _ _ _ (fun q => cmpDay_lt (by omega)) (fun q => cmpDay_gt (by omega)) fun q3 => ?_
  refine cmp_step _ _ _ _ _ (fun q => cmpDay_lt (by omega)) (fun q => cmpDay_gt (by omega)) fun q4 => ?_
  refine cmp_step _ _ _ _ _ (fun q => cmpDay_lt (by omega)) (fun q => cmpDay_gt (by omega)) fun q5 => ?_
  refine cmp_step _ _ _ _ _ (fun q => cmpDay_lt (by omega)) (fun q => cmpDay_gt (by omega)) fun q6 => ?_
  refine cmp_step _ _ _ _ _ (fun q => cmpDay_lt (by omega)) (fun q => cmpDay_gt (by omega)) fun q7 => ?_
  refine cmp_step _ _ _ _ _ (fun q => cmpDay_lt (by omega)) (fun q => cmpDay_gt (by omega)) fun q8 => ?_
  refine cmp_step _ _ _ _ _ (fun q => cmpDay_lt (by omega)) (fun q => cmpDay_gt (by omega)) fun q9 => ?_
  rw [Lib.compareBytes]
  exact (cmpDay_eq (by omega)).symm

end Go.Proofs.Qxb6617555a
