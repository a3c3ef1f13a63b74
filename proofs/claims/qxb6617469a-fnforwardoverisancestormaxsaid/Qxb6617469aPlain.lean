/- THE PLAIN LAW of 'FnForwardOverIsAncestorMax': no Go in sight. -/
namespace Go.Proofs.Qxb6617469a

/-- The greater of two. -/
def vmax (a b : Int) : Int := if a < b then b else a
theorem vmax_lt {a b : Int} (h : a < b) : vmax a b = b := if_pos h
theorem vmax_ge {a b : Int} (h : ¬ a < b) : vmax a b = a := if_neg h

/-- What is given of the history: the two in-slots, the column and the position of each place, the column asked for. -/
structure Hist where
  I0 : Nat → Int
  I1 : Nat → Int
  C : Nat → Int
  P : Nat → Int
  t : Int

/-- What place i gets, off what the slots hold. -/
def step (H : Hist) (G : Nat → Int) (i : Nat) : Int :=
  if H.C i = H.t then vmax (vmax (G (H.I0 i).toNat) (G (H.I1 i).toNat)) (H.P i) else vmax (G (H.I0 i).toNat) (G (H.I1 i).toNat)

/-- The slots behind n places from s on. -/
def fwd (H : Hist) (L : Nat → Int) (s : Nat) : Nat → Nat → Int
  | 0, j => L j
  | n + 1, j => if j = s + n + 1 then step H (fwd H L s n) (s + n) else fwd H L s n j

theorem fwd_add (H : Hist) (L : Nat → Int) (s n : Nat) : ∀ m, fwd H (fwd H L s n) (s + n) m = fwd H L s (n + m) := by
  intro m
  induction m with
  | zero => funext j; rfl
  | succ m ih =>
    funext j
    show (if j = s + n + m + 1 then step H (fwd H (fwd H L s n) (s + n) m) (s + n + m) else fwd H (fwd H L s n) (s + n) m j) = (if j = s + (n + m) + 1 then step H (fwd H L s (n + m)) (s + (n + m)) else fwd H L s (n + m) j)
    rw [ih, Nat.add_assoc s n m]

/-! ### The slots at the end -/

theorem vmax_left (a b : Int) : a ≤ vmax a b := by unfold vmax; split <;> omega
theorem vmax_right (a b : Int) : b ≤ vmax a b := by unfold vmax; split <;> omega
theorem vmax_le {a b c : Int} (h1 : a ≤ c) (h2 : b ≤ c) : vmax a b ≤ c := by unfold vmax; split <;> omega

/-- A slot at or before s + n is settled. -/
theorem fwd_settled (H : Hist) (L : Nat → Int) (s n : Nat) : ∀ m x, x ≤ s + n → fwd H L s (n + m) x = fwd H L s n x := by
  intro m
  induction m with
  | zero => intro x _; rfl
  | succ m ih =>
    intro x hx
    show (if x = s + (n + m) + 1 then _ else fwd H L s (n + m) x) = _
    rw [if_neg (by omega), ih x hx]

theorem fwd_zero (H : Hist) (L : Nat → Int) (s n x : Nat) (hx : x ≤ s) : fwd H L s n x = L x := by
  have := fwd_settled H L s 0 n x (by omega)
  rw [Nat.zero_add] at this
  exact this

/-- The in-slots of the places of the stretch name an earlier slot. -/
def Fits (H : Hist) (s e : Nat) : Prop := ∀ i, s ≤ i → i < e → 0 ≤ H.I0 i ∧ H.I0 i ≤ i ∧ 0 ≤ H.I1 i ∧ H.I1 i ≤ i

theorem step_congr (H : Hist) (F G : Nat → Int) (i : Nat) (h0 : F (H.I0 i).toNat = G (H.I0 i).toNat) (h1 : F (H.I1 i).toNat = G (H.I1 i).toNat) : step H F i = step H G i := by
  unfold step; rw [h0, h1]

/-- Place j's slot, at the end, is what its step gives off the slots at the end. -/
theorem fwd_step (H : Hist) (L : Nat → Int) (s e j : Nat) (hf : Fits H s e) (h1 : s ≤ j) (h2 : j < e) : fwd H L s (e - s) (j + 1) = step H (fwd H L s (e - s)) j := by
  obtain ⟨a, b, c, d⟩ := hf j h1 h2
  have e1 : e - s = (j - s + 1) + (e - j - 1) := by omega
  have key : fwd H L s (e - s) (j + 1) = fwd H L s (j - s + 1) (j + 1) := by
    rw [e1]; exact fwd_settled H L s (j - s + 1) (e - j - 1) (j + 1) (by omega)
  rw [key]
  show (if j + 1 = s + (j - s) + 1 then step H (fwd H L s (j - s)) (s + (j - s)) else _) = _
  rw [if_pos (by omega), show s + (j - s) = j by omega]
  have e2 : e - s = (j - s) + (e - j) := by omega
  refine step_congr H _ _ j ?_ ?_
  · rw [e2]; exact (fwd_settled H L s (j - s) (e - j) _ (by omega)).symm
  · rw [e2]; exact (fwd_settled H L s (j - s) (e - j) _ (by omega)).symm

/-- The slots as they stand before place k, where k reads. -/
theorem fwd_next (H : Hist) (L : Nat → Int) (s e k : Nat) (hf : Fits H s e) (h1 : s ≤ k) (h2 : k < e) : fwd H L s (e - s) (k + 1) = step H (fwd H L s (k - s)) k := by
  rw [fwd_step H L s e k hf h1 h2]
  obtain ⟨a, b, c, d⟩ := hf k h1 h2
  have e2 : e - s = (k - s) + (e - k) := by omega
  refine step_congr H _ _ k ?_ ?_
  · rw [e2]; exact (fwd_settled H L s (k - s) (e - k) _ (by omega))
  · rw [e2]; exact (fwd_settled H L s (k - s) (e - k) _ (by omega))

theorem step_col (H : Hist) (G : Nat → Int) (j : Nat) (h : H.C j = H.t) : H.P j ≤ step H G j := by
  unfold step; rw [if_pos h]; exact vmax_right _ _
theorem step_i0 (H : Hist) (G : Nat → Int) (j : Nat) : G (H.I0 j).toNat ≤ step H G j := by
  unfold step; split
  · exact Int.le_trans (vmax_left _ _) (vmax_left _ _)
  · exact vmax_left _ _
theorem step_i1 (H : Hist) (G : Nat → Int) (j : Nat) : G (H.I1 j).toNat ≤ step H G j := by
  unfold step; split
  · exact Int.le_trans (vmax_right _ _) (vmax_left _ _)
  · exact vmax_right _ _
theorem step_le (H : Hist) (G : Nat → Int) (j : Nat) (b : Int) (hc : H.C j = H.t → H.P j ≤ b) (h0 : G (H.I0 j).toNat ≤ b) (h1 : G (H.I1 j).toNat ≤ b) : step H G j ≤ b := by
  unfold step; split
  · exact vmax_le (vmax_le h0 h1) (hc ‹_›)
  · exact vmax_le h0 h1

/-! ### The search backward -/

/-- An in-slot of a place is accounted for. -/
def DoneSlot (L : Nat → Int) (s : Nat) (vis : Nat → Bool) (has : Bool) (best : Int) (x : Int) : Prop :=
  (x ≤ s → has = true ∧ L x.toNat ≤ best) ∧ ((s : Int) < x → vis (x.toNat - 1 - s) = true)

def DoneCol (H : Hist) (has : Bool) (best : Int) (p : Nat) : Prop := H.C p = H.t → has = true ∧ H.P p ≤ best

def Done (H : Hist) (L : Nat → Int) (s : Nat) (vis : Nat → Bool) (has : Bool) (best : Int) (p : Nat) : Prop :=
  DoneCol H has best p ∧ DoneSlot L s vis has best (H.I0 p) ∧ DoneSlot L s vis has best (H.I1 p)

/-- What was met so far stays met. -/
structure Ext (vis : Nat → Bool) (has : Bool) (best : Int) (vis' : Nat → Bool) (has' : Bool) (best' : Int) : Prop where
  v : ∀ q, vis q = true → vis' q = true
  b : has = true → has' = true ∧ best ≤ best'

theorem Ext.refl (vis : Nat → Bool) (has : Bool) (best : Int) : Ext vis has best vis has best := ⟨fun _ h => h, fun h => ⟨h, Int.le_refl _⟩⟩

theorem DoneSlot.ext {L : Nat → Int} {s : Nat} {vis vis' : Nat → Bool} {has has' : Bool} {best best' x : Int} (h : DoneSlot L s vis has best x) (e : Ext vis has best vis' has' best') : DoneSlot L s vis' has' best' x :=
  ⟨fun hx => ⟨(e.b (h.1 hx).1).1, Int.le_trans (h.1 hx).2 (e.b (h.1 hx).1).2⟩, fun hx => e.v _ (h.2 hx)⟩
theorem DoneCol.ext {H : Hist} {vis vis' : Nat → Bool} {has has' : Bool} {best best' : Int} {p : Nat} (h : DoneCol H has best p) (e : Ext vis has best vis' has' best') : DoneCol H has' best' p :=
  fun hx => ⟨(e.b (h hx).1).1, Int.le_trans (h hx).2 (e.b (h hx).1).2⟩
theorem Done.ext {H : Hist} {L : Nat → Int} {s : Nat} {vis vis' : Nat → Bool} {has has' : Bool} {best best' : Int} {p : Nat} (h : Done H L s vis has best p) (e : Ext vis has best vis' has' best') : Done H L s vis' has' best' p :=
  ⟨h.1.ext e, h.2.1.ext e, h.2.2.ext e⟩

/-- What holds all along the search from place k. -/
structure Met (H : Hist) (L : Nat → Int) (G : Nat → Int) (s k : Nat) (vis : Nat → Bool) (has : Bool) (best : Int) : Prop where
  up : ∀ p, s ≤ p → vis (p - s) = true → p ≤ k ∧ G (p + 1) ≤ G (k + 1)
  root : vis (k - s) = true
  le : has = true → best ≤ G (k + 1)

def OnStack (s k : Nat) (vis : Nat → Bool) (st : List Nat) : Prop := ∀ p, p ∈ st → s ≤ p ∧ p ≤ k ∧ vis (p - s) = true

/-- At the search's head. -/
structure AtHead (H : Hist) (L G : Nat → Int) (s k : Nat) (vis : Nat → Bool) (st : List Nat) (has : Bool) (best : Int) : Prop where
  met : Met H L G s k vis has best
  on : OnStack s k vis st
  all : ∀ p, s ≤ p → vis (p - s) = true → p ∈ st ∨ Done H L s vis has best p

/-- With place j taken off the stack, its column looked at, 'kk' of its in-slots looked at. -/
structure InTurn (H : Hist) (L G : Nat → Int) (s k : Nat) (vis : Nat → Bool) (st : List Nat) (has : Bool) (best : Int) (j kk : Nat) : Prop where
  met : Met H L G s k vis has best
  on : OnStack s k vis st
  here : s ≤ j ∧ j ≤ k ∧ vis (j - s) = true
  all : ∀ p, s ≤ p → vis (p - s) = true → p ∈ st ∨ p = j ∨ Done H L s vis has best p
  col : DoneCol H has best j
  one : 1 ≤ kk → DoneSlot L s vis has best (H.I0 j)
  two : 2 ≤ kk → DoneSlot L s vis has best (H.I1 j)

/-- The slots that the search leans on: final, and what their places' steps say. -/
structure Slots (H : Hist) (L G : Nat → Int) (s e : Nat) : Prop where
  fits : Fits H s e
  low : ∀ x, x ≤ s → G x = L x
  st : ∀ j, s ≤ j → j < e → G (j + 1) = step H G j

theorem slots_fwd (H : Hist) (L : Nat → Int) (s e : Nat) (hf : Fits H s e) : Slots H L (fwd H L s (e - s)) s e :=
  ⟨hf, fun x hx => fwd_zero H L s (e - s) x hx, fun j h1 h2 => fwd_step H L s e j hf h1 h2⟩

section
variable {H : Hist} {L G : Nat → Int} {s e k : Nat} (S : Slots H L G s e)

theorem head_start (hk : s ≤ k) : AtHead H L G s k (fun q => decide (q = k - s)) [k] false 0 := by
  refine ⟨⟨fun p hp hv => ?_, by simp, fun h => by cases h⟩, fun p hp => ?_, fun p hp hv => ?_⟩
  · have : p - s = k - s := by simpa using hv
    have : p = k := by omega
    subst this
    exact ⟨Nat.le_refl _, Int.le_refl _⟩
  · have : p = k := by simpa using hp
    subst this
    exact ⟨hk, Nat.le_refl _, by simp⟩
  · have : p - s = k - s := by simpa using hv
    have : p = k := by omega
    exact .inl (by simp [this])

/-- Place j is taken off; nothing of its column. -/
theorem pop_other {vis : Nat → Bool} {st : List Nat} {has : Bool} {best : Int} {j : Nat} (h : AtHead H L G s k vis (st ++ [j]) has best) (hc : ¬ H.C j = H.t) : InTurn H L G s k vis st has best j 0 := by
  refine ⟨h.met, fun p hp => h.on p (by simp [hp]), h.on j (by simp), fun p hp hv => ?_, fun hx => absurd hx hc, fun x => by omega, fun x => by omega⟩
  rcases h.all p hp hv with q | q
  · rcases List.mem_append.1 q with q | q
    · exact .inl q
    · exact .inr (.inl (by simpa using q))
  · exact .inr (.inr q)

/-- A candidate x comes up: the best so far, once it is taken account of. -/
theorem met_up {vis : Nat → Bool} {has : Bool} {best x : Int} (h : Met H L G s k vis has best) (hx : x ≤ G (k + 1)) : Met H L G s k vis true x := ⟨h.up, h.root, fun _ => hx⟩

/-- Place j is taken off; it is of the column, and its position is taken for the best. -/
theorem pop_col_new (S : Slots H L G s e) (hke : k < e) {vis : Nat → Bool} {st : List Nat} {has : Bool} {best : Int} {j : Nat} (h : AtHead H L G s k vis (st ++ [j]) has best) (hc : H.C j = H.t) (hn : has = true → best ≤ H.P j) :
    InTurn H L G s k vis st true (H.P j) j 0 := by
  have hj := h.on j (by simp)
  have hup := (h.met.up j hj.1 hj.2.2).2
  have hP : H.P j ≤ G (k + 1) := Int.le_trans (by rw [S.st j hj.1 (by omega)]; exact step_col H G j hc) hup
  have E : Ext vis has best vis true (H.P j) := ⟨fun _ q => q, fun q => ⟨rfl, hn q⟩⟩
  refine ⟨met_up h.met hP, fun p hp => h.on p (by simp [hp]), hj, fun p hp hv => ?_, fun _ => ⟨rfl, Int.le_refl _⟩, fun x => by omega, fun x => by omega⟩
  rcases h.all p hp hv with q | q
  · rcases List.mem_append.1 q with q | q
    · exact .inl q
    · exact .inr (.inl (by simpa using q))
  · exact .inr (.inr (q.ext E))

/-- Place j is taken off; it is of the column, and its position is no better. -/
theorem pop_col_old {vis : Nat → Bool} {st : List Nat} {best : Int} {j : Nat} (h : AtHead H L G s k vis (st ++ [j]) true best) (hn : H.P j ≤ best) :
    InTurn H L G s k vis st true best j 0 := by
  refine ⟨h.met, fun p hp => h.on p (by simp [hp]), h.on j (by simp), fun p hp hv => ?_, fun _ => ⟨rfl, hn⟩, fun x => by omega, fun x => by omega⟩
  rcases h.all p hp hv with q | q
  · rcases List.mem_append.1 q with q | q
    · exact .inl q
    · exact .inr (.inl (by simpa using q))
  · exact .inr (.inr q)

/-- The in-slot number kk of place j. -/
def inSlot (H : Hist) (j kk : Nat) : Int := if kk = 0 then H.I0 j else H.I1 j

theorem inSlot_le (S : Slots H L G s e) {j kk : Nat} (h1 : s ≤ j) (h2 : j < e) : 0 ≤ inSlot H j kk ∧ inSlot H j kk ≤ j := by
  obtain ⟨a, b, c, d⟩ := S.fits j h1 h2
  unfold inSlot; split
  · exact ⟨a, b⟩
  · exact ⟨c, d⟩

theorem inSlot_val (S : Slots H L G s e) {j kk : Nat} (h1 : s ≤ j) (h2 : j < e) : G (inSlot H j kk).toNat ≤ G (j + 1) := by
  rw [S.st j h1 h2]
  unfold inSlot; split
  · exact step_i0 H G j
  · exact step_i1 H G j

/-- One in-slot more is accounted for. -/
theorem turn_on {vis vis' : Nat → Bool} {st st' : List Nat} {has has' : Bool} {best best' : Int} {j kk : Nat} (hkk : kk < 2) (h : InTurn H L G s k vis st has best j kk) (E : Ext vis has best vis' has' best')
    (hmet : Met H L G s k vis' has' best') (hon : OnStack s k vis' st') (hsub : ∀ p, p ∈ st → p ∈ st') (hnew : ∀ p, s ≤ p → vis' (p - s) = true → vis (p - s) = true ∨ p ∈ st') (hd : DoneSlot L s vis' has' best' (inSlot H j kk)) :
    InTurn H L G s k vis' st' has' best' j (kk + 1) := by
  refine ⟨hmet, hon, ⟨h.here.1, h.here.2.1, E.v _ h.here.2.2⟩, fun p hp hv => ?_, h.col.ext E, fun _ => ?_, fun q => ?_⟩
  · rcases hnew p hp hv with q | q
    · rcases h.all p hp q with r | r | r
      · exact .inl (hsub p r)
      · exact .inr (.inl r)
      · exact .inr (.inr (r.ext E))
    · exact .inl q
  · by_cases e0 : kk = 0
    · subst e0; simpa [inSlot] using hd
    · exact (h.one (by omega)).ext E
  · have e1 : kk = 1 := by omega
    subst e1
    simpa [inSlot] using hd

/-- A slot at or before s, whose value is taken for the best. -/
theorem slot_low_new (S : Slots H L G s e) (hke : k < e) {vis : Nat → Bool} {st : List Nat} {has : Bool} {best : Int} {j kk : Nat} (hkk : kk < 2) (h : InTurn H L G s k vis st has best j kk) (hx : inSlot H j kk ≤ s) (hn : has = true → best ≤ L (inSlot H j kk).toNat) :
    InTurn H L G s k vis st true (L (inSlot H j kk).toNat) j (kk + 1) := by
  have hj := h.here
  have hup := (h.met.up j hj.1 hj.2.2).2
  have hr := inSlot_le (H := H) S (kk := kk) hj.1 (by omega)
  have hv : L (inSlot H j kk).toNat ≤ G (k + 1) := by
    rw [← S.low (inSlot H j kk).toNat (by omega)]
    exact Int.le_trans (inSlot_val S hj.1 (by omega)) hup
  exact turn_on hkk h ⟨fun _ q => q, fun q => ⟨rfl, hn q⟩⟩ (met_up h.met hv) h.on (fun _ q => q) (fun _ _ q => .inl q) ⟨fun _ => ⟨rfl, Int.le_refl _⟩, fun q => by omega⟩

theorem slot_low_old {vis : Nat → Bool} {st : List Nat} {best : Int} {j kk : Nat} (hkk : kk < 2) (h : InTurn H L G s k vis st true best j kk) (hx : inSlot H j kk ≤ s) (hn : L (inSlot H j kk).toNat ≤ best) :
    InTurn H L G s k vis st true best j (kk + 1) :=
  turn_on hkk h (Ext.refl _ _ _) h.met h.on (fun _ q => q) (fun _ _ q => .inl q) ⟨fun _ => ⟨rfl, hn⟩, fun q => by omega⟩

theorem slot_seen {vis : Nat → Bool} {st : List Nat} {has : Bool} {best : Int} {j kk : Nat} (hkk : kk < 2) (h : InTurn H L G s k vis st has best j kk) (hx : ¬ inSlot H j kk ≤ s) (hn : vis ((inSlot H j kk).toNat - 1 - s) = true) :
    InTurn H L G s k vis st has best j (kk + 1) :=
  turn_on hkk h (Ext.refl _ _ _) h.met h.on (fun _ q => q) (fun _ _ q => .inl q) ⟨fun q => absurd q hx, fun _ => hn⟩

theorem slot_push (S : Slots H L G s e) (hke : k < e) {vis : Nat → Bool} {st : List Nat} {has : Bool} {best : Int} {j kk : Nat} (hkk : kk < 2) (h : InTurn H L G s k vis st has best j kk) (hx : ¬ inSlot H j kk ≤ s) :
    InTurn H L G s k (fun q => if q = (inSlot H j kk).toNat - 1 - s then true else vis q) (st ++ [(inSlot H j kk).toNat - 1]) has best j (kk + 1) := by
  have hj := h.here
  have hup := (h.met.up j hj.1 hj.2.2).2
  have hr := inSlot_le (H := H) S (kk := kk) hj.1 (by omega)
  have hval := inSlot_val (H := H) S (kk := kk) hj.1 (show j < e by omega)
  generalize hX : (inSlot H j kk).toNat = X at *
  have hXs : s < X := by omega
  have hXj : X ≤ j := by omega
  have E : Ext vis has best (fun q => if q = X - 1 - s then true else vis q) has best := ⟨fun q hq => by simp [hq], fun q => ⟨q, Int.le_refl _⟩⟩
  refine turn_on hkk h E ⟨fun p hp hv => ?_, by simp [h.met.root], h.met.le⟩ (fun p hp => ?_) (fun p hp => by simp [hp]) (fun p hp hv => ?_) ⟨fun q => absurd q hx, fun _ => by simp [hX]⟩
  · by_cases e1 : p - s = X - 1 - s
    · have : p = X - 1 := by omega
      subst this
      refine ⟨by omega, ?_⟩
      rw [show X - 1 + 1 = X by omega]
      exact Int.le_trans hval hup
    · simp only [if_neg e1] at hv
      exact h.met.up p hp hv
  · rcases List.mem_append.1 hp with q | q
    · have := h.on p q
      exact ⟨this.1, this.2.1, E.v _ this.2.2⟩
    · have : p = X - 1 := by simpa using q
      subst this
      exact ⟨by omega, by omega, by simp⟩
  · by_cases e1 : p - s = X - 1 - s
    · have : p = X - 1 := by omega
      exact .inr (by simp [this])
    · simp only [if_neg e1] at hv
      exact .inl hv

theorem turn_done {vis : Nat → Bool} {st : List Nat} {has : Bool} {best : Int} {j : Nat} (h : InTurn H L G s k vis st has best j 2) : AtHead H L G s k vis st has best := by
  refine ⟨h.met, h.on, fun p hp hv => ?_⟩
  rcases h.all p hp hv with q | q | q
  · exact .inl q
  · subst q
    exact .inr ⟨h.col, h.one (by omega), h.two (by omega)⟩
  · exact .inr q

/-- The stack is empty: the best is place k's value. -/
theorem head_end (S : Slots H L G s e) (hk : s ≤ k) (hke : k < e) {vis : Nat → Bool} {has : Bool} {best : Int} (h : AtHead H L G s k vis [] has best) : best = G (k + 1) := by
  have key : ∀ n p, p ≤ n → s ≤ p → vis (p - s) = true → has = true ∧ G (p + 1) ≤ best := by
    intro n
    induction n with
    | zero =>
      intro p hp hs hv
      obtain rfl : p = 0 := by omega
      rcases h.all 0 hs hv with q | q
      · cases q
      · have hf := S.fits 0 hs (by have := (h.met.up 0 hs hv).1; omega)
        have d0 := q.2.1.1 (by omega)
        have d1 := q.2.2.1 (by omega)
        refine ⟨d0.1, ?_⟩
        rw [S.st 0 hs (by have := (h.met.up 0 hs hv).1; omega)]
        refine step_le H G 0 best (fun x => (q.1 x).2) ?_ ?_
        · rw [S.low _ (by omega)]; exact d0.2
        · rw [S.low _ (by omega)]; exact d1.2
    | succ n ih =>
      intro p hp hs hv
      have hpk := (h.met.up p hs hv).1
      rcases h.all p hs hv with q | q
      · cases q
      · have hf := S.fits p hs (by omega)
        have one : ∀ x : Int, 0 ≤ x → x ≤ p → DoneSlot L s vis has best x → has = true ∧ G x.toNat ≤ best := by
          intro x x0 xp hd
          by_cases hx : x ≤ s
          · have := hd.1 hx
            exact ⟨this.1, by rw [S.low _ (by omega)]; exact this.2⟩
          · have hv' := hd.2 (by omega)
            have := ih (x.toNat - 1) (by omega) (by omega) hv'
            rw [show x.toNat - 1 + 1 = x.toNat by omega] at this
            exact this
        have d0 := one (H.I0 p) hf.1 hf.2.1 q.2.1
        have d1 := one (H.I1 p) hf.2.2.1 hf.2.2.2 q.2.2
        refine ⟨d0.1, ?_⟩
        rw [S.st p hs (by omega)]
        exact step_le H G p best (fun x => (q.1 x).2) d0.2 d1.2
  have r := key k k (Nat.le_refl _) hk h.met.root
  have := h.met.le r.1
  omega

end

/-! ### How many places are not visited yet -/
def cnt (vis : Nat → Bool) : Nat → Nat
  | 0 => 0
  | n + 1 => cnt vis n + if vis n = true then 0 else 1

theorem cnt_congr (u v : Nat → Bool) : ∀ n, (∀ q, q < n → u q = v q) → cnt u n = cnt v n := by
  intro n
  induction n with
  | zero => intro _; rfl
  | succ n ih => intro h; show cnt u n + _ = cnt v n + _; rw [ih (fun q hq => h q (by omega)), h n (by omega)]

theorem cnt_set (vis : Nat → Bool) (x : Nat) : ∀ n, x < n → vis x = false → cnt (fun q => if q = x then true else vis q) n + 1 = cnt vis n := by
  intro n
  induction n with
  | zero => intro h; omega
  | succ n ih =>
    intro h hv
    show cnt (fun q => if q = x then true else vis q) n + (if (if n = x then true else vis n) = true then 0 else 1) + 1 = cnt vis n + if vis n = true then 0 else 1
    by_cases e : n = x
    · subst e
      rw [cnt_congr (fun q => if q = n then true else vis q) vis n (fun q hq => by simp only [if_neg (show ¬ q = n by omega)])]
      simp [hv]
    · have := ih (by omega) hv
      simp only [if_neg e]
      omega

theorem cnt_start (x : Nat) : ∀ n, x < n → cnt (fun q => decide (q = x)) n + 1 = n := by
  intro n
  induction n with
  | zero => intro h; omega
  | succ n ih =>
    intro h
    show cnt (fun q => decide (q = x)) n + (if decide (n = x) = true then 0 else 1) + 1 = n + 1
    by_cases e : n = x
    · subst e
      have : cnt (fun q => decide (q = n)) n = cnt (fun _ => false) n := cnt_congr _ _ n (fun q hq => by simp; omega)
      rw [this]
      have all : ∀ m, cnt (fun _ => false) m = m := by
        intro m
        induction m with
        | zero => rfl
        | succ m ih => show cnt (fun _ => false) m + _ = _; rw [ih]; simp
      rw [all]; simp
    · have := ih (by omega)
      simp only [decide_eq_true_eq, if_neg e]
      omega

end Go.Proofs.Qxb6617469a
