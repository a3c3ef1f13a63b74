/- The law -/
import Derived.Test.Qxb6617555aPlain
namespace Go.Proofs.Qxb6617555a
open Go.ChangeShapes Go.WideShapes Go.ChangeAt Go.RowKit

theorem bytes (a b c d : ByteArray) (w : World) (ha : a.size ≤ maxLen) (hb : b.size ≤ maxLen) (hc : c.size ≤ maxLen) (hd : d.size ≤ maxLen) :
    Calls Try.prog 4 #[.string a, .string b, .string c, .string d] w fun e w' => ∃ r, e = .returned (.bool r) ∧ w' = w := by
  unfold maxLen at ha hb hc hd
  go_enter Try.func4, Try.ntmps4
  go_wp2
  all_goals
    go_ret
    exact ⟨_, rfl, rfl⟩

theorem three (ya ma da yb mb db : Int) : ∃ K N : Int, ((K = -1 ∧ N = 1) ∨ (K = 0 ∧ N = 0) ∨ (K = 1 ∧ N = -1)) ∧ cmpDay ya ma da yb mb db = K ∧ cmpDay yb mb db ya ma da = N ∧ sgn K = K ∧ sgn N = N := by
  rcases cmpDay_three ya ma da yb mb db with ⟨h1, h2⟩ | ⟨h1, h2⟩ | ⟨h1, h2⟩
  · exact ⟨-1, 1, .inl ⟨rfl, rfl⟩, h1, h2, by decide, by decide⟩
  · exact ⟨0, 0, .inr (.inl ⟨rfl, rfl⟩), h1, h2, by decide, by decide⟩
  · exact ⟨1, -1, .inr (.inr ⟨rfl, rfl⟩), h1, h2, by decide, by decide⟩

theorem grown_drewN {w w' : World} (h : ∃ n, w' = w.drewN n) : Grown w w' := by
  obtain ⟨n, rfl⟩ := h
  exact Grown.refl w

theorem grown_trans {a b c : World} (h : Grown a b) (k : Grown b c) : Grown a c :=
  ⟨World.keptBut_trans h.1 (World.keptBut_mono (fun _ f => f) k.1), fun x => (k.2.1 x).trans (h.2.1 x), Nat.le_trans h.2.2 k.2.2⟩

/-- Both dates were read: from there to the end. -/
abbrev after (w : World) (a ta b tb : ByteArray) : World := (w.alloc (decBlk a ta)).alloc (decBlk b tb)

set_option maxHeartbeats 1000000 in
theorem walk0 (a ta b tb : ByteArray) (w : World) (h0 : a.size ≤ maxLen) (h1 : ta.size ≤ maxLen) (h2 : b.size ≤ maxLen) (h3 : tb.size ≤ maxLen) :
    Calls Try.prog 3 #[.string a, .string ta, .string b, .string tb] w fun e w' => e = .returned (.bool true) ∧ Grown w w' := by
  go_enter Try.func3, Try.ntmps3
  go_wp2_with fail
  refine (bytes a ta b tb _ h0 h1 h2 h3).mono ?_
  rintro e w' ⟨r, rfl, rfl⟩
  cases r
  · go_wp2
    go_ret
    exact ⟨rfl, Grown.refl _⟩
  go_wp2_with fail
  · go_ret; exact ⟨rfl, Grown.refl _⟩
  · go_ret; exact ⟨rfl, Grown.refl _⟩
  · go_ret; exact ⟨rfl, Grown.refl _⟩
  · go_ret; exact ⟨rfl, Grown.refl _⟩
  refine (parse a _).mono ?_
  rintro e w1 (⟨rfl, rfl⟩ | ⟨ya, ma, da, ga, rfl, n1⟩)
  · go_wp2_with fail
    refine (parse b _).mono ?_
    rintro e w2 (⟨rfl, rfl⟩ | ⟨yb, mb, db, gb, rfl, n2⟩)
    · go_wp2
      go_ret
      exact ⟨rfl, Grown.refl _⟩
    · have N2 := grown_drewN n2
      clear n2
      go_wp2
      go_ret
      exact ⟨rfl, N2⟩
  · have N1 := grown_drewN n1
    clear n1
    go_wp2_with fail
    refine (parse b _).mono ?_
    rintro e w2 (⟨rfl, rfl⟩ | ⟨yb, mb, db, gb, rfl, n2⟩)
    · go_wp2
      go_ret
      exact ⟨rfl, N1⟩
    · have N2 := grown_trans N1 (grown_drewN n2)
      clear n2 N1
      have C1 := compare_days ga gb
      have C2 := compare_days gb ga
      obtain ⟨K, N, hK, hc, hn, z1, z2⟩ := three ya ma da yb mb db
      have B1 : Hid (∀ ta tb w, Calls Try.prog 8 #[dec a ta, dec b tb] w fun e w' => e = .returned (.int .i64 K) ∧ w' = after w a ta b tb) := fun ta tb w => by
        have := byDate a ta b tb w
        rw [C1, hc] at this
        exact this
      have B2 : Hid (∀ ta tb w, Calls Try.prog 8 #[dec b ta, dec a tb] w fun e w' => e = .returned (.int .i64 N) ∧ w' = after w b ta a tb) := fun ta tb w => by
        have := byDate b ta a tb w
        rw [C2, hn] at this
        exact this
      have S1 : Hid (∀ w, Calls Try.prog 7 #[.int .i64 K] w fun e w' => e = .returned (.int .i64 K) ∧ w' = w) := fun w => by
        have := zzSign K w
        rw [z1] at this
        exact this
      have S2 : Hid (∀ w, Calls Try.prog 7 #[.int .i64 N] w fun e w' => e = .returned (.int .i64 N) ∧ w' = w) := fun w => by
        have := zzSign N w
        rw [z2] at this
        exact this
      have D : Hid (∀ w, Calls Try.prog 6 #[.int .i64 ya, .int .i64 ma, .int .i64 da, .int .i64 yb, .int .i64 mb, .int .i64 db] w fun e w' => e = .returned (.int .i64 K) ∧ w' = w) := fun w => by
        have := zzCmpDay ya ma da yb mb db w
        rw [hc] at this
        exact this
      clear C1 C2 hc hn z1 z2
      rcases hK with ⟨rfl, rfl⟩ | ⟨rfl, rfl⟩ | ⟨rfl, rfl⟩
      all_goals
        go_wp2_with fail
        refine (D.out _).mono ?_
        rintro e w3 ⟨rfl, rfl⟩
        go_wp2_with fail
        refine (B1.out _ _ _).mono ?_
        rintro e w3 ⟨rfl, rfl⟩
        go_wp2_with fail
        refine (S1.out _).mono ?_
        rintro e w3 ⟨rfl, rfl⟩
        go_wp2_with fail
        refine (B2.out _ _ _).mono ?_
        rintro e w3 ⟨rfl, rfl⟩
        go_wp2_with fail
        refine (S2.out _).mono ?_
        rintro e w3 ⟨rfl, rfl⟩
        go_wp2_with fail
        refine (B1.out _ _ _).mono ?_
        rintro e w3 ⟨rfl, rfl⟩
        go_wp2_with fail
        refine (S1.out _).mono ?_
        rintro e w3 ⟨rfl, rfl⟩
        go_wp2_with fail
        go_ret
        refine ⟨rfl, ?_⟩
        iterate 10 refine Grown.alloc ?_ _ _
        exact N2

end Go.Proofs.Qxb6617555a
