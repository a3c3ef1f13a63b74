/- Header fields and recipients as cells; their clones, and what the other package's slices are made of them. Written out by a program from one text for the two types. -/
import Derived.Test.Qxb6623453aBase
namespace Go.Proofs.Qxb6623453a
open Go.ChangeShapes Go.WideShapes Go.ChangeAt Go.RowKit

/-! ### Header fields -/
structure Fd where
  name : ByteArray
  val : ByteArray
  at_ : Int
  who : ByteArray

def Fd.cell (c : Fd) : Nat → Value
  | 0 => .string c.name
  | 1 => .string c.val
  | 2 => .int .i64 c.at_
  | _ => .string c.who

def fdF (f : Nat → Fd) (q : Nat) : Value := (f (q / 4)).cell (q % 4)

theorem fdK {w : World} {b off n k : Nat} {f : Nat → Fd} (h : RowAt w b off (n * 4) (fdF f)) (hk : k < n) :
    w.cell? ⟨b, off + k * 4, none⟩ = some (.string (f k).name) ∧ w.cell? ⟨b, off + k * 4 + 1, none⟩ = some (.string (f k).val) ∧ w.cell? ⟨b, off + k * 4 + 2, none⟩ = some (.int .i64 (f k).at_) ∧ w.cell? ⟨b, off + k * 4 + 3, none⟩ = some (.string (f k).who) := by
  have e : ∀ j, j < 4 → w.cell? ⟨b, off + k * 4 + j, none⟩ = some ((f k).cell j) := fun j hj => by
    have := h (k * 4 + j) (by omega)
    rw [fdF, show (k * 4 + j) / 4 = k by omega, show (k * 4 + j) % 4 = j by omega] at this
    rw [Nat.add_assoc]
    exact this
  exact ⟨e 0 (by omega), e 1 (by omega), e 2 (by omega), e 3 (by omega)⟩

theorem Try.info49 : (Try.prog.info? 49).map (fun i => (i.zero, i.size, i.bytes)) = some (some (.agg #[.string ⟨#[]⟩, .string ⟨#[]⟩, .int .i64 0, .string ⟨#[]⟩]), 4, 56) := by kernel_rfl
theorem Try.info54 : (Try.prog.info? 54).map (fun i => (i.zero, i.size, i.bytes)) = some (some (.agg #[.string ⟨#[]⟩, .string ⟨#[]⟩, .int .i64 0, .string ⟨#[]⟩]), 4, 56) := by kernel_rfl
def zeroFd : Fd := ⟨⟨#[]⟩, ⟨#[]⟩, 0, ⟨#[]⟩⟩

theorem made_fd (w : World) (t n : Nat) : (w.alloc (.cells (made (.agg #[.string ⟨#[]⟩, .string ⟨#[]⟩, .int .i64 0, .string ⟨#[]⟩]) (n * 4)) t)).rowIs w.heap.size t (n * 4) (fdF fun _ => zeroFd) := by
  have h := World.rowIs_alloc w (made (.agg #[.string ⟨#[]⟩, .string ⟨#[]⟩, .int .i64 0, .string ⟨#[]⟩]) (n * 4)) t (fdF fun _ => zeroFd) (fun i hi => by
    have hi' : i < n * 4 := by simpa [made_size] using hi
    rw [made_get _ #[.string ⟨#[]⟩, .string ⟨#[]⟩, .int .i64 0, .string ⟨#[]⟩] rfl (by simp) _ i hi']
    congr 1
    show _ = zeroFd.cell (i % 4)
    have h5 : i % 4 = 0 ∨ i % 4 = 1 ∨ i % 4 = 2 ∨ i % 4 = 3 := by omega
    have e5 : #[Value.string ⟨#[]⟩, .string ⟨#[]⟩, .int .i64 0, .string ⟨#[]⟩].size = 4 := rfl
    simp only [e5]
    rcases h5 with e | e | e | e <;> simp [e, Fd.cell, zeroFd])
  rw [made_size] at h
  exact h

abbrev setFd (w : World) (b k : Nat) (c : Fd) : World :=
  (((w.setCell ⟨b, k * 4, none⟩ (.string c.name)).setCell ⟨b, k * 4 + 1, none⟩ (.string c.val)).setCell ⟨b, k * 4 + 2, none⟩ (.int .i64 c.at_)).setCell ⟨b, k * 4 + 3, none⟩ (.string c.who)

theorem rowIs_setFd {w : World} {b t m : Nat} {f : Nat → Fd} (h : w.rowIs b t m (fdF f)) (k : Nat) (c : Fd) : (setFd w b k c).rowIs b t m (fdF (upd f k c)) := by
  have h5 := (((h.set (k * 4) (.string c.name)).set (k * 4 + 1) (.string c.val)).set (k * 4 + 2) (.int .i64 c.at_)).set (k * 4 + 3) (.string c.who)
  refine h5.congr fun q _ => ?_
  unfold fdF upd
  by_cases e : q / 4 = k
  · have h5 : q % 4 = 0 ∨ q % 4 = 1 ∨ q % 4 = 2 ∨ q % 4 = 3 := by omega
    rw [if_pos e]
    rcases h5 with e1 | e1 | e1 | e1
    · obtain rfl : q = k * 4 := by omega
      simp [e1, Fd.cell]
    · obtain rfl : q = k * 4 + 1 := by omega
      simp [e1, Fd.cell]
    · obtain rfl : q = k * 4 + 2 := by omega
      simp [e1, Fd.cell]
    · obtain rfl : q = k * 4 + 3 := by omega
      simp [e1, Fd.cell]
  · rw [if_neg e]
    rw [if_neg (by omega), if_neg (by omega), if_neg (by omega), if_neg (by omega)]

theorem setFd_below {B : Nat} {w0 w : World} (h : Below B w0 w) {b : Nat} (hb : B ≤ b) (k : Nat) (c : Fd) : Below B w0 (setFd w b k c) :=
  (((h.setCell hb _).setCell hb _).setCell hb _).setCell hb _


set_option maxHeartbeats 2000000 in
theorem cloneFd (a : Option Addr) (n c : Nat) (f : Nat → Fd) (hn : n ≤ 4096) (w : World) (h : Hid (In w a n 4 (fdF f))) :
    Calls Try.prog 7 #[.slice a n c] w fun x w' => ∃ a' c', x = .returned (.slice a' n c') ∧ Cl w w' a a' n 4 (fdF f) := by
  have hmk := run_make_recs 22 49 _ 4 56 Try.underlying22 Try.info49 (by omega) n (by omega)
  have heq := fun w a l c => Lib.run_eql_slice_nil (P := Try.prog) w 22 49 a l c 0 0 Try.underlying22
  cases a with
  | none =>
    have h0 : n = 0 := h.out.1 rfl
    subst h0
    go_enter Try.func7, Try.ntmps7
    go_wp2
    go_ret
    exact ⟨none, 0, rfl, rfl, ⟨fun _ => rfl, fun q => by omega⟩, Below.refl _ _, fun q => by omega⟩
  | some x =>
    go_enter Try.func7, Try.ntmps7
    go_wp2
    go_loopw [4] (fun i wr => ∃ (k : Nat) (g : Nat → Fd), k ≤ n ∧ i = .int .i64 k ∧ Hid (wr.rowIs w.heap.size 49 (n * 4) (fdF g) ∧ (∀ j, j < k → g j = f j) ∧ Below w.heap.size w wr)) (fun i _ => n - (intOf i).toNat)
    case atStart => exact ⟨0, _, Nat.zero_le _, rfl, made_fd w 49 n, (fun j hj => by omega), (Below.refl _ _).alloc (Nat.le_refl _) _⟩
    case round =>
      obtain ⟨k, g, hk, rfl, hR⟩ := hrel
      by_cases hlt : k < n
      · obtain ⟨b, o, e1, hr⟩ := h.out.2 (by omega)
        cases e1
        obtain ⟨q0, q1, q2, q3⟩ := fdK (hr.below hR.out.2.2) hlt
        have hF := hR.out.1
        have d0 := hF.cell (i := k * 4) (by omega)
        have d1 := hF.cell (i := k * 4 + 1) (by omega)
        have d2 := hF.cell (i := k * 4 + 2) (by omega)
        have d3 := hF.cell (i := k * 4 + 3) (by omega)
        have z0 := hF.frozen (k * 4)
        have z1 := hF.frozen (k * 4 + 1)
        have z2 := hF.frozen (k * 4 + 2)
        have z3 := hF.frozen (k * 4 + 3)
        clear hF hr
        go_wp2
        go_roundw
        case rel => exact ⟨k + 1, upd g k (f k), by omega, by go_num, rowIs_setFd hR.out.1 k (f k), (fun j hj => by
          unfold upd
          by_cases e : j = k
          · rw [if_pos e, e]
          · rw [if_neg e]; exact hR.out.2.1 j (by omega)), setFd_below hR.out.2.2 (Nat.le_refl _) k (f k)⟩
        case measure => simp [intOf]; omega
      · obtain rfl : k = n := by omega
        go_wp2
        go_ret
        refine ⟨some ⟨w.heap.size, 0, none⟩, k, rfl, rfl, ⟨(fun e => by cases e), fun _ => ⟨w.heap.size, 0, rfl, ?_⟩⟩, hR.out.2.2, fun _ => by obtain ⟨cur, hb, _⟩ := hR.out.1; exact ⟨w.heap.size, cur, 49, rfl, hb, by decide⟩⟩
        refine RowAt.of_row (hR.out.1.congr fun q hq => ?_)
        show (g (q / 4)).cell (q % 4) = (f (q / 4)).cell (q % 4)
        rw [hR.out.2.1 (q / 4) (by omega)]


set_option maxHeartbeats 2000000 in
theorem toFd (a : Option Addr) (n c : Nat) (f : Nat → Fd) (hn : n ≤ 4096) (w : World) (h : Hid (In w a n 4 (fdF f))) :
    Calls Try.prog 10 #[.slice a n c] w fun x w' => ∃ a' c', x = .returned (.slice a' n c') ∧ Cl w w' a a' n 4 (fdF f) := by
  have hmk := run_make_recs 31 54 _ 4 56 Try.underlying31 Try.info54 (by omega) n (by omega)
  have heq := fun w a l c => Lib.run_eql_slice_nil (P := Try.prog) w 22 49 a l c 0 0 Try.underlying22
  cases a with
  | none =>
    have h0 : n = 0 := h.out.1 rfl
    subst h0
    go_enter Try.func10, Try.ntmps10
    go_wp2
    go_ret
    exact ⟨none, 0, rfl, rfl, ⟨fun _ => rfl, fun q => by omega⟩, Below.refl _ _, fun q => by omega⟩
  | some x =>
    go_enter Try.func10, Try.ntmps10
    go_wp2
    go_loopw [4] (fun i wr => ∃ (k : Nat) (g : Nat → Fd), k ≤ n ∧ i = .int .i64 k ∧ Hid (wr.rowIs w.heap.size 54 (n * 4) (fdF g) ∧ (∀ j, j < k → g j = f j) ∧ Below w.heap.size w wr)) (fun i _ => n - (intOf i).toNat)
    case atStart => exact ⟨0, _, Nat.zero_le _, rfl, made_fd w 54 n, (fun j hj => by omega), (Below.refl _ _).alloc (Nat.le_refl _) _⟩
    case round =>
      obtain ⟨k, g, hk, rfl, hR⟩ := hrel
      by_cases hlt : k < n
      · obtain ⟨b, o, e1, hr⟩ := h.out.2 (by omega)
        cases e1
        obtain ⟨q0, q1, q2, q3⟩ := fdK (hr.below hR.out.2.2) hlt
        have hF := hR.out.1
        have d0 := hF.cell (i := k * 4) (by omega)
        have d1 := hF.cell (i := k * 4 + 1) (by omega)
        have d2 := hF.cell (i := k * 4 + 2) (by omega)
        have d3 := hF.cell (i := k * 4 + 3) (by omega)
        have z0 := hF.frozen (k * 4)
        have z1 := hF.frozen (k * 4 + 1)
        have z2 := hF.frozen (k * 4 + 2)
        have z3 := hF.frozen (k * 4 + 3)
        clear hF hr
        have b0 : (k : Int) < (n : Int) := by omega
        go_wp2
        go_region
        go_wp2
        go_roundw
        case rel => exact ⟨k + 1, upd g k (f k), by omega, by go_num, (rowIs_setFd hR.out.1 k (f k)).drew, (fun j hj => by
          unfold upd
          by_cases e : j = k
          · rw [if_pos e, e]
          · rw [if_neg e]; exact hR.out.2.1 j (by omega)), (setFd_below hR.out.2.2 (Nat.le_refl _) k (f k)).drew⟩
        case measure => simp [intOf]; omega
      · obtain rfl : k = n := by omega
        go_wp2
        go_ret
        refine ⟨some ⟨w.heap.size, 0, none⟩, k, rfl, rfl, ⟨(fun e => by cases e), fun _ => ⟨w.heap.size, 0, rfl, ?_⟩⟩, hR.out.2.2, fun _ => by obtain ⟨cur, hb, _⟩ := hR.out.1; exact ⟨w.heap.size, cur, 54, rfl, hb, by decide⟩⟩
        refine RowAt.of_row (hR.out.1.congr fun q hq => ?_)
        show (g (q / 4)).cell (q % 4) = (f (q / 4)).cell (q % 4)
        rw [hR.out.2.1 (q / 4) (by omega)]

/-! ### Recipients -/
structure Rc where
  addr : ByteArray
  rem : Bool
  who : ByteArray

def Rc.cell (c : Rc) : Nat → Value
  | 0 => .string c.addr
  | 1 => .bool c.rem
  | _ => .string c.who

def rcF (f : Nat → Rc) (q : Nat) : Value := (f (q / 3)).cell (q % 3)

theorem rcK {w : World} {b off n k : Nat} {f : Nat → Rc} (h : RowAt w b off (n * 3) (rcF f)) (hk : k < n) :
    w.cell? ⟨b, off + k * 3, none⟩ = some (.string (f k).addr) ∧ w.cell? ⟨b, off + k * 3 + 1, none⟩ = some (.bool (f k).rem) ∧ w.cell? ⟨b, off + k * 3 + 2, none⟩ = some (.string (f k).who) := by
  have e : ∀ j, j < 3 → w.cell? ⟨b, off + k * 3 + j, none⟩ = some ((f k).cell j) := fun j hj => by
    have := h (k * 3 + j) (by omega)
    rw [rcF, show (k * 3 + j) / 3 = k by omega, show (k * 3 + j) % 3 = j by omega] at this
    rw [Nat.add_assoc]
    exact this
  exact ⟨e 0 (by omega), e 1 (by omega), e 2 (by omega)⟩

theorem Try.info51 : (Try.prog.info? 51).map (fun i => (i.zero, i.size, i.bytes)) = some (some (.agg #[.string ⟨#[]⟩, .bool false, .string ⟨#[]⟩]), 3, 40) := by kernel_rfl
theorem Try.info55 : (Try.prog.info? 55).map (fun i => (i.zero, i.size, i.bytes)) = some (some (.agg #[.string ⟨#[]⟩, .bool false, .string ⟨#[]⟩]), 3, 40) := by kernel_rfl
def zeroRc : Rc := ⟨⟨#[]⟩, false, ⟨#[]⟩⟩

theorem made_rc (w : World) (t n : Nat) : (w.alloc (.cells (made (.agg #[.string ⟨#[]⟩, .bool false, .string ⟨#[]⟩]) (n * 3)) t)).rowIs w.heap.size t (n * 3) (rcF fun _ => zeroRc) := by
  have h := World.rowIs_alloc w (made (.agg #[.string ⟨#[]⟩, .bool false, .string ⟨#[]⟩]) (n * 3)) t (rcF fun _ => zeroRc) (fun i hi => by
    have hi' : i < n * 3 := by simpa [made_size] using hi
    rw [made_get _ #[.string ⟨#[]⟩, .bool false, .string ⟨#[]⟩] rfl (by simp) _ i hi']
    congr 1
    show _ = zeroRc.cell (i % 3)
    have h5 : i % 3 = 0 ∨ i % 3 = 1 ∨ i % 3 = 2 := by omega
    have e5 : #[Value.string ⟨#[]⟩, .bool false, .string ⟨#[]⟩].size = 3 := rfl
    simp only [e5]
    rcases h5 with e | e | e <;> simp [e, Rc.cell, zeroRc])
  rw [made_size] at h
  exact h

abbrev setRc (w : World) (b k : Nat) (c : Rc) : World :=
  ((w.setCell ⟨b, k * 3, none⟩ (.string c.addr)).setCell ⟨b, k * 3 + 1, none⟩ (.bool c.rem)).setCell ⟨b, k * 3 + 2, none⟩ (.string c.who)

theorem rowIs_setRc {w : World} {b t m : Nat} {f : Nat → Rc} (h : w.rowIs b t m (rcF f)) (k : Nat) (c : Rc) : (setRc w b k c).rowIs b t m (rcF (upd f k c)) := by
  have h5 := ((h.set (k * 3) (.string c.addr)).set (k * 3 + 1) (.bool c.rem)).set (k * 3 + 2) (.string c.who)
  refine h5.congr fun q _ => ?_
  unfold rcF upd
  by_cases e : q / 3 = k
  · have h5 : q % 3 = 0 ∨ q % 3 = 1 ∨ q % 3 = 2 := by omega
    rw [if_pos e]
    rcases h5 with e1 | e1 | e1
    · obtain rfl : q = k * 3 := by omega
      simp [e1, Rc.cell]
    · obtain rfl : q = k * 3 + 1 := by omega
      simp [e1, Rc.cell]
    · obtain rfl : q = k * 3 + 2 := by omega
      simp [e1, Rc.cell]
  · rw [if_neg e]
    rw [if_neg (by omega), if_neg (by omega), if_neg (by omega)]

theorem setRc_below {B : Nat} {w0 w : World} (h : Below B w0 w) {b : Nat} (hb : B ≤ b) (k : Nat) (c : Rc) : Below B w0 (setRc w b k c) :=
  ((h.setCell hb _).setCell hb _).setCell hb _


set_option maxHeartbeats 2000000 in
theorem cloneRc (a : Option Addr) (n c : Nat) (f : Nat → Rc) (hn : n ≤ 4096) (w : World) (h : Hid (In w a n 3 (rcF f))) :
    Calls Try.prog 9 #[.slice a n c] w fun x w' => ∃ a' c', x = .returned (.slice a' n c') ∧ Cl w w' a a' n 3 (rcF f) := by
  have hmk := run_make_recs 24 51 _ 3 40 Try.underlying24 Try.info51 (by omega) n (by omega)
  have heq := fun w a l c => Lib.run_eql_slice_nil (P := Try.prog) w 24 51 a l c 0 0 Try.underlying24
  cases a with
  | none =>
    have h0 : n = 0 := h.out.1 rfl
    subst h0
    go_enter Try.func9, Try.ntmps9
    go_wp2
    go_ret
    exact ⟨none, 0, rfl, rfl, ⟨fun _ => rfl, fun q => by omega⟩, Below.refl _ _, fun q => by omega⟩
  | some x =>
    go_enter Try.func9, Try.ntmps9
    go_wp2
    go_loopw [4] (fun i wr => ∃ (k : Nat) (g : Nat → Rc), k ≤ n ∧ i = .int .i64 k ∧ Hid (wr.rowIs w.heap.size 51 (n * 3) (rcF g) ∧ (∀ j, j < k → g j = f j) ∧ Below w.heap.size w wr)) (fun i _ => n - (intOf i).toNat)
    case atStart => exact ⟨0, _, Nat.zero_le _, rfl, made_rc w 51 n, (fun j hj => by omega), (Below.refl _ _).alloc (Nat.le_refl _) _⟩
    case round =>
      obtain ⟨k, g, hk, rfl, hR⟩ := hrel
      by_cases hlt : k < n
      · obtain ⟨b, o, e1, hr⟩ := h.out.2 (by omega)
        cases e1
        obtain ⟨q0, q1, q2⟩ := rcK (hr.below hR.out.2.2) hlt
        have hF := hR.out.1
        have d0 := hF.cell (i := k * 3) (by omega)
        have d1 := hF.cell (i := k * 3 + 1) (by omega)
        have d2 := hF.cell (i := k * 3 + 2) (by omega)
        have z0 := hF.frozen (k * 3)
        have z1 := hF.frozen (k * 3 + 1)
        have z2 := hF.frozen (k * 3 + 2)
        clear hF hr
        go_wp2
        go_roundw
        case rel => exact ⟨k + 1, upd g k (f k), by omega, by go_num, rowIs_setRc hR.out.1 k (f k), (fun j hj => by
          unfold upd
          by_cases e : j = k
          · rw [if_pos e, e]
          · rw [if_neg e]; exact hR.out.2.1 j (by omega)), setRc_below hR.out.2.2 (Nat.le_refl _) k (f k)⟩
        case measure => simp [intOf]; omega
      · obtain rfl : k = n := by omega
        go_wp2
        go_ret
        refine ⟨some ⟨w.heap.size, 0, none⟩, k, rfl, rfl, ⟨(fun e => by cases e), fun _ => ⟨w.heap.size, 0, rfl, ?_⟩⟩, hR.out.2.2, fun _ => by obtain ⟨cur, hb, _⟩ := hR.out.1; exact ⟨w.heap.size, cur, 51, rfl, hb, by decide⟩⟩
        refine RowAt.of_row (hR.out.1.congr fun q hq => ?_)
        show (g (q / 3)).cell (q % 3) = (f (q / 3)).cell (q % 3)
        rw [hR.out.2.1 (q / 3) (by omega)]


set_option maxHeartbeats 2000000 in
theorem toRc (a : Option Addr) (n c : Nat) (f : Nat → Rc) (hn : n ≤ 4096) (w : World) (h : Hid (In w a n 3 (rcF f))) :
    Calls Try.prog 12 #[.slice a n c] w fun x w' => ∃ a' c', x = .returned (.slice a' n c') ∧ Cl w w' a a' n 3 (rcF f) := by
  have hmk := run_make_recs 35 55 _ 3 40 Try.underlying35 Try.info55 (by omega) n (by omega)
  have heq := fun w a l c => Lib.run_eql_slice_nil (P := Try.prog) w 24 51 a l c 0 0 Try.underlying24
  cases a with
  | none =>
    have h0 : n = 0 := h.out.1 rfl
    subst h0
    go_enter Try.func12, Try.ntmps12
    go_wp2
    go_ret
    exact ⟨none, 0, rfl, rfl, ⟨fun _ => rfl, fun q => by omega⟩, Below.refl _ _, fun q => by omega⟩
  | some x =>
    go_enter Try.func12, Try.ntmps12
    go_wp2
    go_loopw [4] (fun i wr => ∃ (k : Nat) (g : Nat → Rc), k ≤ n ∧ i = .int .i64 k ∧ Hid (wr.rowIs w.heap.size 55 (n * 3) (rcF g) ∧ (∀ j, j < k → g j = f j) ∧ Below w.heap.size w wr)) (fun i _ => n - (intOf i).toNat)
    case atStart => exact ⟨0, _, Nat.zero_le _, rfl, made_rc w 55 n, (fun j hj => by omega), (Below.refl _ _).alloc (Nat.le_refl _) _⟩
    case round =>
      obtain ⟨k, g, hk, rfl, hR⟩ := hrel
      by_cases hlt : k < n
      · obtain ⟨b, o, e1, hr⟩ := h.out.2 (by omega)
        cases e1
        obtain ⟨q0, q1, q2⟩ := rcK (hr.below hR.out.2.2) hlt
        have hF := hR.out.1
        have d0 := hF.cell (i := k * 3) (by omega)
        have d1 := hF.cell (i := k * 3 + 1) (by omega)
        have d2 := hF.cell (i := k * 3 + 2) (by omega)
        have z0 := hF.frozen (k * 3)
        have z1 := hF.frozen (k * 3 + 1)
        have z2 := hF.frozen (k * 3 + 2)
        clear hF hr
        have b0 : (k : Int) < (n : Int) := by omega
        go_wp2
        go_region
        go_wp2
        go_roundw
        case rel => exact ⟨k + 1, upd g k (f k), by omega, by go_num, (rowIs_setRc hR.out.1 k (f k)).drew, (fun j hj => by
          unfold upd
          by_cases e : j = k
          · rw [if_pos e, e]
          · rw [if_neg e]; exact hR.out.2.1 j (by omega)), (setRc_below hR.out.2.2 (Nat.le_refl _) k (f k)).drew⟩
        case measure => simp [intOf]; omega
      · obtain rfl : k = n := by omega
        go_wp2
        go_ret
        refine ⟨some ⟨w.heap.size, 0, none⟩, k, rfl, rfl, ⟨(fun e => by cases e), fun _ => ⟨w.heap.size, 0, rfl, ?_⟩⟩, hR.out.2.2, fun _ => by obtain ⟨cur, hb, _⟩ := hR.out.1; exact ⟨w.heap.size, cur, 55, rfl, hb, by decide⟩⟩
        refine RowAt.of_row (hR.out.1.congr fun q hq => ?_)
        show (g (q / 3)).cell (q % 3) = (f (q / 3)).cell (q % 3)
        rw [hR.out.2.1 (q / 3) (by omega)]

end Go.Proofs.Qxb6623453a
