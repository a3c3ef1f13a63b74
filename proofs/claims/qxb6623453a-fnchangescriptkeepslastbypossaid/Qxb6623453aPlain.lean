/- THE PLAIN LAW of the change script: no Go in sight. -/
import Derived.Test.Qxb6623453aBase
namespace Go.Proofs.Qxb6623453a

/-- 'change', on a list. -/
def put : List Ch → Ch → List Ch
  | [], c => [c]
  | x :: r, c => if x.pos < c.pos then x :: put r c else if x.pos = c.pos then c :: r else c :: x :: r

abbrev SortedL (L : List Ch) : Prop := L.Pairwise fun a b => a.pos < b.pos

theorem put_found : ∀ (L : List Ch) (c : Ch) (i : Nat), (∀ j, j < i → (L.getD j zeroCh).pos < c.pos) → i < L.length → (L.getD i zeroCh).pos = c.pos → put L c = L.set i c
  | [], _, _, _, h, _ => by simp at h
  | x :: r, c, 0, _, _, h => by
    have h' : x.pos = c.pos := by simpa using h
    rw [put, if_neg (by omega), if_pos h']
    rfl
  | x :: r, c, i + 1, hlo, hlt, h => by
    have h0 : x.pos < c.pos := by simpa using hlo 0 (by omega)
    rw [put, if_pos h0, put_found r c i (fun j hj => by simpa using hlo (j + 1) (by omega)) (by simpa using hlt) (by simpa using h)]
    rfl

theorem put_new : ∀ (L : List Ch) (c : Ch) (i : Nat), i ≤ L.length → (∀ j, j < i → (L.getD j zeroCh).pos < c.pos) → (i < L.length → c.pos < (L.getD i zeroCh).pos) → put L c = L.take i ++ [c] ++ L.drop i
  | [], c, i, hi, _, _ => by
    obtain rfl : i = 0 := by simpa using hi
    rfl
  | x :: r, c, 0, _, _, h => by
    have h' : c.pos < x.pos := by simpa using h (by simp)
    rw [put, if_neg (by omega), if_neg (by omega)]
    rfl
  | x :: r, c, i + 1, hi, hlo, h => by
    have h0 : x.pos < c.pos := by simpa using hlo 0 (by omega)
    rw [put, if_pos h0, put_new r c i (by simpa using hi) (fun j hj => by simpa using hlo (j + 1) (by omega)) (fun hlt => by simpa using h (by simpa using hlt))]
    rfl

theorem put_len_le (L : List Ch) (c : Ch) : (put L c).length ≤ L.length + 1 := by
  induction L with
  | nil => simp [put]
  | cons x r ih =>
    rw [put]
    split
    · simpa using ih
    · split <;> simp

theorem mem_put {L : List Ch} {c y : Ch} (h : y ∈ put L c) : y = c ∨ y ∈ L := by
  induction L with
  | nil => left; simpa [put] using h
  | cons x r ih =>
    rw [put] at h
    split at h
    · rcases List.mem_cons.1 h with e | e
      · right; simp [e]
      · rcases ih e with e | e
        · left; exact e
        · right; simp [e]
    · split at h
      · rcases List.mem_cons.1 h with e | e
        · left; exact e
        · right; simp [e]
      · rcases List.mem_cons.1 h with e | e
        · left; exact e
        · right; exact e

theorem put_sorted {L : List Ch} (h : SortedL L) (c : Ch) : SortedL (put L c) := by
  induction L with
  | nil => simp [put]
  | cons x r ih =>
    obtain ⟨hx, hr⟩ := List.pairwise_cons.1 h
    rw [put]
    split
    · rename_i hlt
      refine List.pairwise_cons.2 ⟨fun y hy => ?_, ih hr⟩
      rcases mem_put hy with e | e
      · subst e; exact hlt
      · exact hx y e
    · split
      · rename_i heq
        exact List.pairwise_cons.2 ⟨fun y hy => by have := hx y hy; omega, hr⟩
      · rename_i h1 h2
        refine List.pairwise_cons.2 ⟨fun y hy => ?_, h⟩
        rcases List.mem_cons.1 hy with e | e
        · subst e; omega
        · have := hx y e; omega

/-- What the law's own model does with one change: the entry of its position is dropped, it comes last. -/
def lastStep (l : List Ch) (c : Ch) : List Ch := l.filter (fun x => x.pos != c.pos) ++ [c]
def lastAll (l cs : List Ch) : List Ch := cs.foldl lastStep l

theorem put_perm {L : List Ch} (h : SortedL L) (c : Ch) : (put L c).Perm (lastStep L c) := by
  induction L with
  | nil => exact List.Perm.refl _
  | cons x r ih =>
    obtain ⟨hx, hr⟩ := List.pairwise_cons.1 h
    rw [put]
    unfold lastStep
    split
    · rename_i hlt
      have hne : (x.pos != c.pos) = true := by simp; omega
      rw [List.filter_cons, if_pos hne, List.cons_append]
      exact (ih hr).cons x
    · split
      · rename_i h1 heq
        have hne : ¬ (x.pos != c.pos) = true := by simp [heq]
        have hall : r.filter (fun y => y.pos != c.pos) = r := List.filter_eq_self.2 fun y hy => by have := hx y hy; simp; omega
        rw [List.filter_cons, if_neg hne, hall]
        exact (List.perm_append_singleton c r).symm
      · rename_i h1 h2
        have hall : (x :: r).filter (fun y => y.pos != c.pos) = x :: r := List.filter_eq_self.2 fun y hy => by
          rcases List.mem_cons.1 hy with e | e
          · subst e; simp; omega
          · have := hx y e; simp; omega
        rw [hall]
        exact (List.perm_append_singleton c (x :: r)).symm

theorem lastStep_perm {l m : List Ch} (h : l.Perm m) (c : Ch) : (lastStep l c).Perm (lastStep m c) := (h.filter _).append_right _

def putAll (L cs : List Ch) : List Ch := cs.foldl put L

theorem putAll_sorted {L : List Ch} (h : SortedL L) (cs : List Ch) : SortedL (putAll L cs) := by
  induction cs generalizing L with
  | nil => exact h
  | cons c cs ih => exact ih (put_sorted h c)

theorem lastAll_perm {l m : List Ch} (h : l.Perm m) (cs : List Ch) : (lastAll l cs).Perm (lastAll m cs) := by
  induction cs generalizing l m with
  | nil => exact h
  | cons c cs ih => exact ih (lastStep_perm h c)

theorem putAll_perm {L : List Ch} (h : SortedL L) (cs : List Ch) : (putAll L cs).Perm (lastAll L cs) := by
  induction cs generalizing L with
  | nil => exact List.Perm.refl _
  | cons c cs ih => exact (ih (put_sorted h c)).trans (lastAll_perm (put_perm h c) cs)

/-- Two arrangements of the same changes, one strictly by position, one by position: the same list. -/
theorem sorted_unique : ∀ (A B : List Ch), SortedL A → B.Pairwise (fun a b => a.pos ≤ b.pos) → A.Perm B → A = B
  | [], B, _, _, hp => by rw [hp.symm.eq_nil]
  | a :: A, [], _, _, hp => by cases hp.eq_nil
  | a :: A, b :: B, hA, hB, hp => by
    obtain ⟨ha, hA'⟩ := List.pairwise_cons.1 hA
    obtain ⟨hb, hB'⟩ := List.pairwise_cons.1 hB
    have m1 : a ∈ b :: B := hp.subset (by simp)
    have m2 : b ∈ a :: A := hp.symm.subset (by simp)
    have hab : a = b := by
      rcases List.mem_cons.1 m2 with e | e
      · exact e.symm
      · rcases List.mem_cons.1 m1 with e' | e'
        · exact e'
        · have h1 := ha b e
          have h2 := hb a e'
          omega
    subst hab
    rw [sorted_unique A B hA' hB' (List.Perm.cons_inv hp)]

theorem strict_of_sorted {L : List Ch} (h : SortedL L) : Strict (fun i => L.getD i zeroCh) L.length := by
  intro i h1 h2
  have := List.pairwise_iff_getElem.1 h (i - 1) i (by omega) h2 (by omega)
  simpa [List.getD, List.getElem?_eq_getElem (show i - 1 < L.length by omega), List.getElem?_eq_getElem h2] using this

theorem sorted_of_strict {f : Nat → Ch} {n : Nat} (h : Strict f n) : SortedL ((List.range n).map f) := by
  refine List.pairwise_iff_getElem.2 fun i j hi hj hij => ?_
  simp only [List.length_map, List.length_range] at hi hj
  simp only [List.getElem_map, List.getElem_range]
  have key : ∀ d i, i + d < n → 0 < d → (f i).pos < (f (i + d)).pos := by
    intro d
    induction d with
    | zero => intro i _ h0; omega
    | succ d ih =>
      intro i hi _
      have h1 := h (i + d + 1) (by omega) hi
      rw [show i + d + 1 - 1 = i + d by omega] at h1
      by_cases e : d = 0
      · subst e; exact h1
      · have := ih i (by omega) (by omega)
        rw [show i + (d + 1) = i + d + 1 by omega]
        omega
  have := key (j - i) i (by omega) (by omega)
  rwa [show i + (j - i) = j by omega] at this

end Go.Proofs.Qxb6623453a
