/-
  What the drawing functions of package spec come to, whatever bytes they read: pick(n) is a number from 0 to n-1; do() and long() are small numbers; each changes nothing but the reader's own block. Conditions: fewer than a million picks so far.
-/
import Derived.Test.YtlenkaobojneeaaRows
import Derived.Test.YtlenkaobojneeaaBase
namespace Go.Proofs.Ytlenkaobojneeaa
open Go.RowKit

/-- The reader in block R: the bytes (A, n, c), of which p have been asked for. -/
structure Rdr (w : World) (R : Nat) (A : Option Addr) (n c p : Nat) : Prop where
  blk : w.heap[R]? = some (.cells #[.slice A n c, .int .i64 (p : Int)] 57 (0, 0))
  bytes : ∀ i, i < n → ∃ b off z, A = some ⟨b, off, none⟩ ∧ ¬ b = R ∧ w.cell? ⟨b, off + i, none⟩ = some (.int .u8 z) ∧ 0 ≤ z ∧ z ≤ 255
  len : n ≤ 9223372036854775807
section
variable {w w' : World} {R : Nat} {A : Option Addr} {n c p : Nat}
theorem Rdr.lt (h : Rdr w R A n c p) : R < w.heap.size := (Array.getElem?_eq_some_iff.1 h.blk).1
theorem Rdr.cell0 (h : Rdr w R A n c p) : w.cell? ⟨R, 0, none⟩ = some (.slice A n c) := by rw [cell_of_row w R 0 _ _ _ h.blk]; rfl
theorem Rdr.cell1 (h : Rdr w R A n c p) : w.cell? ⟨R, 1, none⟩ = some (.int .i64 p) := by rw [cell_of_row w R 1 _ _ _ h.blk]; rfl
theorem Rdr.free (h : Rdr w R A n c p) : w.frozen? ⟨R, 1, none⟩ = false := by simp [World.frozen?, h.blk]
theorem Rdr.keep (h : Rdr w R A n c p) (hb : Below w.heap.size w w') : Rdr w' R A n c p :=
  ⟨(hb.block R h.lt).trans h.blk, fun i hi => by
    obtain ⟨b, off, z, e, hne, hc, h0, h1⟩ := h.bytes i hi
    exact ⟨b, off, z, e, hne, cell_kept hb hc, h0, h1⟩, h.len⟩
theorem Rdr.alloc (h : Rdr w R A n c p) (o : Obj) : Rdr (w.alloc o) R A n c p := h.keep ((Below.refl _ _).alloc (Nat.le_refl _) o)
theorem Rdr.step (h : Rdr w R A n c p) (m : Nat) : Rdr ((w.setCell ⟨R, 1, none⟩ (.int .i64 ((p : Int) + 1))).drewN m) R A n c (p + 1) := by
  refine ⟨?_, fun i hi => ?_, h.len⟩
  · show (w.setCell ⟨R, 1, none⟩ (.int .i64 ((p : Int) + 1))).heap[R]? = _
    simp [World.setCell, Array.getElem?_modify, h.blk]
  · obtain ⟨b, off, z, e, hne, hc, h0, h1⟩ := h.bytes i hi
    refine ⟨b, off, z, e, hne, ?_, h0, h1⟩
    show (w.setCell ⟨R, 1, none⟩ (.int .i64 ((p : Int) + 1))).cell? _ = _
    rw [World.cell?_setCell_other _ _ _ _ (by intro e; injection e with e1; exact hne e1.symm)]
    exact hc
theorem Rdr.re {p' : Nat} (h : Rdr w R A n c p) (hg : w.grownBy w' (some R)) (hblk : w'.heap[R]? = some (.cells #[.slice A n c, .int .i64 (p' : Int)] 57 (0, 0))) : Rdr w' R A n c p' :=
  ⟨hblk, fun i hi => by
    obtain ⟨b, off, z, e, hne, hc, h0, h1⟩ := h.bytes i hi
    exact ⟨b, off, z, e, hne, hg.cell hc (by intro e; injection e with e1; exact hne e1), h0, h1⟩, h.len⟩
theorem Rdr.start {w : World} {A : Option Addr} {n c : Nat} (h : Bytes w A n) : Rdr (w.alloc (.cells #[.slice A n c, .int .i64 0] 57)) w.heap.size A n c 0 :=
  ⟨heap_alloc_new w _, fun i hi => by
    obtain ⟨b, off, z, e, hc, h0, h1⟩ := h.2 i hi
    exact ⟨b, off, z, e, by have := World.block_lt_of_cell? w _ hc; simp at this; omega, cell_kept ((Below.refl _ _).alloc (Nat.le_refl _) _) hc, h0, h1⟩, h.1⟩
theorem below_of_box {w w1 : World} {o : Obj} (hg : (w.alloc o).grownBy w1 (some w.heap.size)) : Below w.heap.size w w1 :=
  ⟨hg.os, hg.tape, hg.output, by have := hg.size; simp at this; omega, fun i hi => (hg.block i (by simp; omega) (by intro e; injection e with e; omega)).trans (Below.heap_alloc w o i hi)⟩
theorem grown_step (w : World) (R : Nat) (u : Value) (m : Nat) : w.grownBy ((w.setCell ⟨R, 1, none⟩ u).drewN m) (some R) :=
  ⟨rfl, rfl, rfl, by simp [World.setCell, World.drewN], fun k _ hne => Below.heap_setCell w ⟨R, 1, none⟩ u k (fun e => hne (by rw [e]))⟩
theorem grown_of_below {row : Option Nat} (h : Below w.heap.size w w') : w.grownBy w' row := ⟨h.os, h.tape, h.output, h.size, fun i hi _ => h.block i hi⟩
theorem grown_alloc {w1 : World} {row : Option Nat} (h : w.grownBy w1 row) (o : Obj) : w.grownBy (w1.alloc o) row := h.trans (World.grownBy_alloc w1 o row)
end

theorem xor_nonneg (x y : Int) (hx0 : 0 ≤ x) (hx : x ≤ 4611686018427387904) (hy0 : 0 ≤ y) (hy : y ≤ 4611686018427387904) : 0 ≤ bits .xor .i64 x y := by
  obtain ⟨a, rfl⟩ := Int.eq_ofNat_of_zero_le hx0
  obtain ⟨b, rfl⟩ := Int.eq_ofNat_of_zero_le hy0
  have hlt : (BitVec.ofInt 64 (a : Int) ^^^ BitVec.ofInt 64 (b : Int)).toNat < 2 ^ 63 := by
    rw [BitVec.toNat_xor]
    refine Nat.xor_lt_two_pow ?_ ?_
    · rw [BitVec.ofInt_natCast, BitVec.toNat_ofNat, Nat.mod_eq_of_lt (by omega)]; omega
    · rw [BitVec.ofInt_natCast, BitVec.toNat_ofNat, Nat.mod_eq_of_lt (by omega)]; omega
  show 0 ≤ IntKind.i64.wrap ((BitVec.ofInt 64 (a : Int) ^^^ BitVec.ofInt 64 (b : Int)).toNat : Int)
  rw [IntKind.wrap_i64]
  omega
theorem tmod_range (x N : Int) (hx : 0 ≤ x) (hN : 1 ≤ N) : 0 ≤ x.tmod N ∧ x.tmod N < N := by
  rw [Int.tmod_eq_emod_of_nonneg hx]
  exact ⟨Int.emod_nonneg _ (by omega), Int.emod_lt_of_pos _ (by omega)⟩

def PickPost (R : Nat) (A : Option Addr) (n c p : Nat) (N : Int) (w : World) (e : Ending) (w' : World) : Prop :=
  ∃ r : Int, 0 ≤ r ∧ r < N ∧ e = .returned (.int .i64 r) ∧ Rdr w' R A n c (p + 1) ∧ w.grownBy w' (some R)

set_option maxHeartbeats 1000000 in
set_option maxRecDepth 100000 in
theorem pick_far (R b off n c p : Nat) (N z z' : Int) (w : World) (hr : Rdr w R (some ⟨b, off, none⟩) n c p) (hN : 1 ≤ N) (hp : p ≤ 1000000) (hpn : n ≤ p) (hn : 1 ≤ n) (hz0 : 0 ≤ z) (hz1 : z ≤ 255) (hz0' : 0 ≤ z') (hz1' : z' ≤ 255) (hbR : ¬ b = R)
    (hz : w.cell? ⟨b, off + p % n, none⟩ = some (.int .u8 z)) (hz' : w.cell? ⟨b, off + (p * 7 + 3) % n, none⟩ = some (.int .u8 z')) :
    Calls Try.prog 23 #[.pointer (some ⟨R, 0, none⟩), .int .i64 N] w (PickPost R (some ⟨b, off, none⟩) n c p N w) := by
  have h0 := hr.cell0
  have h1 := hr.cell1
  have hf := hr.free
  have hn0 : ((n : Int) == 0) = false := by simp; omega
  have hn1 : ¬ n = 0 := by omega
  have g1 : 0 ≤ (p : Int) % (n : Int) := Int.emod_nonneg _ (by omega)
  have l1 : (p : Int) % (n : Int) < n := Int.emod_lt_of_pos _ (by omega)
  have t1 : ((p : Int) % (n : Int)).toNat = p % n := by omega
  have g2 : 0 ≤ ((p : Int) * 7 + 3) % (n : Int) := Int.emod_nonneg _ (by omega)
  have l2 : ((p : Int) * 7 + 3) % (n : Int) < n := Int.emod_lt_of_pos _ (by omega)
  have t2 : (((p : Int) * 7 + 3) % (n : Int)).toNat = (p * 7 + 3) % n := by
    rw [show (p : Int) * 7 + 3 = ((p * 7 + 3 : Nat) : Int) from by omega, ← Int.natCast_emod, Int.toNat_natCast]
  have d1 : 0 ≤ (p : Int) / (n : Int) := Int.ediv_nonneg (by omega) (by omega)
  have d2 : (p : Int) / (n : Int) ≤ p := Int.ediv_le_self _ (by omega)
  have hx0 : 0 ≤ z * 131 + z' * 1117 + (p : Int) * 29 + (p : Int) / (n : Int) * 53 := by omega
  have hx1 : z * 131 + z' * 1117 + (p : Int) * 29 + (p : Int) / (n : Int) * 53 ≤ 1000000000 := by omega
  have fin := Lib.hid (tmod_range _ N (xor_nonneg _ _ hx0 (by omega) (Int.ediv_nonneg hx0 (show (0 : Int) ≤ 64 by omega)) (by omega)) hN)
  clear hx0 hx1
  have u1 := IntWalk.i64_in (z * 131) (by omega)
  have u2 := IntWalk.i64_in ((p : Int) * 7) (by omega)
  have u3 := IntWalk.i64_in ((p : Int) * 7 + 3) (by omega)
  have u4 := IntWalk.i64_in (z' * 1117) (by omega)
  have u5 := IntWalk.i64_in (z * 131 + z' * 1117) (by omega)
  have u6 := IntWalk.i64_in ((p : Int) * 29) (by omega)
  have u7 := IntWalk.i64_in (z * 131 + z' * 1117 + (p : Int) * 29) (by omega)
  have u8 := IntWalk.i64_in ((p : Int) / (n : Int) * 53) (by omega)
  have u9 := IntWalk.i64_in (z * 131 + z' * 1117 + (p : Int) * 29 + (p : Int) / (n : Int) * 53) (by omega)
  go_enter Try.func23, Try.ntmps23
  go_wp2
  go_quiet (fail)
  clear u1 u2 u3 u4 u5 u6 u7 u8 u9
  go_wp2
  go_ret
  exact ⟨_, fin.out.1, fin.out.2, rfl, hr.step _, grown_step _ _ _ _⟩

set_option maxHeartbeats 1000000 in
theorem pick_any (R : Nat) (A : Option Addr) (n c p : Nat) (N : Int) (w : World) (hr : Rdr w R A n c p) (hN : 1 ≤ N) (hp : p ≤ 1000000) :
    Calls Try.prog 23 #[.pointer (some ⟨R, 0, none⟩), .int .i64 N] w (PickPost R A n c p N w) := by
  by_cases hn : n = 0
  · subst hn
    have h0 := hr.cell0
    have h1 := hr.cell1
    have hf := hr.free
    go_enter Try.func23, Try.ntmps23
    go_wp2
    go_ret
    exact ⟨0, by omega, by omega, rfl, hr.step 0, grown_step _ _ _ 0⟩
  · by_cases hpn : p < n
    · obtain ⟨b, off, z, rfl, hne, hz, hz0, hz1⟩ := hr.bytes p hpn
      have h0 := hr.cell0
      have h1 := hr.cell1
      have hf := hr.free
      have hn0 : ((n : Int) == 0) = false := by simp; omega
      have hl := hr.len
      have fin := Lib.hid (show 0 ≤ z % N ∧ z % N < N from ⟨Int.emod_nonneg _ (by omega), Int.emod_lt_of_pos _ (by omega)⟩)
      go_enter Try.func23, Try.ntmps23
      go_wp2
      go_ret
      exact ⟨_, fin.out.1, fin.out.2, rfl, hr.step 0, grown_step _ _ _ 0⟩
    · obtain ⟨b, off, z, rfl, hne, hz, hz0, hz1⟩ := hr.bytes (p % n) (Nat.mod_lt _ (by omega))
      obtain ⟨b', off', z', e, hne', hz', hz0', hz1'⟩ := hr.bytes ((p * 7 + 3) % n) (Nat.mod_lt _ (by omega))
      injection e with e
      injection e with e1 e2
      subst e1 e2
      exact pick_far R b off n c p N z z' w hr hN hp (by omega) (by omega) hz0 hz1 hz0' hz1' hne hz hz'

/-- What bits, do and long come to. -/
def TookPost (R : Nat) (A : Option Addr) (n c p m : Nat) (Q : Value → Prop) (w : World) (e : Ending) (w' : World) : Prop :=
  ∃ v p', Q v ∧ p' ≤ p + m ∧ e = .returned v ∧ Rdr w' R A n c p' ∧ w.grownBy w' (some R)
def IsNat (m : Int) (v : Value) : Prop := ∃ z : Int, -1 ≤ z ∧ z ≤ m ∧ v = .int .i64 z
theorem long_any (R : Nat) (A : Option Addr) (n c p : Nat) (w : World) (hr : Rdr w R A n c p) (hp : p ≤ 999000) :
    Calls Try.prog 21 #[.pointer (some ⟨R, 0, none⟩)] w (TookPost R A n c p 1 (IsNat 21) w) := by
  go_enter Try.func21, Try.ntmps21
  go_wp2_with fail
  refine (pick_any R A n c p 8 _ (hr.alloc _) (by omega) (by omega)).mono ?_
  rintro e w1 ⟨r, hr0, hr1, rfl, hR1, hg1⟩
  have hgrow := (World.grownBy_alloc w _ _).trans hg1
  have hblk := (hg1.block w.heap.size (by simp) (by intro e; injection e with e; have := hr.lt; omega)).trans (heap_alloc_new w _)
  obtain ⟨q, rfl⟩ := Int.eq_ofNat_of_zero_le hr0
  have hq : q < 8 := by omega
  have hcell : ∃ z : Int, w1.cell? ⟨w.heap.size, q, none⟩ = some (.int .i64 z) ∧ -1 ≤ z ∧ z ≤ 21 := by
    rw [cell_of_row w1 w.heap.size q _ _ _ hblk]
    rcases (show q = 0 ∨ q = 1 ∨ q = 2 ∨ q = 3 ∨ q = 4 ∨ q = 5 ∨ q = 6 ∨ q = 7 by omega) with rfl | rfl | rfl | rfl | rfl | rfl | rfl | rfl <;> exact ⟨_, rfl, by omega, by omega⟩
  obtain ⟨z, hc, hz0, hz1⟩ := hcell
  clear hblk hg1
  go_wp2
  go_ret
  exact ⟨_, p + 1, ⟨z, hz0, hz1, rfl⟩, Nat.le_refl _, rfl, hR1, hgrow⟩
theorem do_any (R : Nat) (A : Option Addr) (n c p : Nat) (w : World) (hr : Rdr w R A n c p) (hp : p ≤ 999000) :
    Calls Try.prog 22 #[.pointer (some ⟨R, 0, none⟩)] w (TookPost R A n c p 1 (IsNat 21) w) := by
  go_enter Try.func22, Try.ntmps22
  go_wp2_with fail
  refine (pick_any R A n c p 11 _ (hr.alloc _) (by omega) (by omega)).mono ?_
  rintro e w1 ⟨r, hr0, hr1, rfl, hR1, hg1⟩
  have hgrow := (World.grownBy_alloc w _ _).trans hg1
  have hblk := (hg1.block w.heap.size (by simp) (by intro e; injection e with e; have := hr.lt; omega)).trans (heap_alloc_new w _)
  obtain ⟨q, rfl⟩ := Int.eq_ofNat_of_zero_le hr0
  have hq : q < 11 := by omega
  have hcell : ∃ z : Int, w1.cell? ⟨w.heap.size, q, none⟩ = some (.int .i64 z) ∧ -1 ≤ z ∧ z ≤ 21 := by
    rw [cell_of_row w1 w.heap.size q _ _ _ hblk]
    rcases (show q = 0 ∨ q = 1 ∨ q = 2 ∨ q = 3 ∨ q = 4 ∨ q = 5 ∨ q = 6 ∨ q = 7 ∨ q = 8 ∨ q = 9 ∨ q = 10 by omega) with rfl | rfl | rfl | rfl | rfl | rfl | rfl | rfl | rfl | rfl | rfl <;> exact ⟨_, rfl, by omega, by omega⟩
  obtain ⟨z, hc, hz0, hz1⟩ := hcell
  clear hblk hg1
  go_wp2
  go_ret
  exact ⟨_, p + 1, ⟨z, hz0, hz1, rfl⟩, Nat.le_refl _, rfl, hR1, hgrow⟩
end Go.Proofs.Ytlenkaobojneeaa
