/-
  spec.rd.bits draws a number of 64 bits, whatever bytes it reads, and changes nothing but the reader's own block. Conditions: fewer than a million picks so far.
-/
import Derived.Test.YtclhdhpjgabpeaaDraw
namespace Go.Proofs.Ytclhdhpjgabpeaa
open Go.RowKit
def U64 (z : Int) : Prop := 0 ≤ z ∧ z ≤ 18446744073709551615
theorem u64_wrap (z : Int) : U64 (IntKind.u64.wrap z) := by
  unfold U64 IntKind.wrap
  simp [IntKind.signed, IntKind.bits]
  omega
def IsU64 (v : Value) : Prop := ∃ z, U64 z ∧ v = .int .u64 z
theorem u64_small (z : Int) (h0 : 0 ≤ z) (h1 : z ≤ 18446744073709551615) : U64 z := ⟨h0, h1⟩
set_option maxHeartbeats 1000000 in
theorem bits_any (R : Nat) (A : Option Addr) (n c p : Nat) (w : World) (hr : Rdr w R A n c p) (hp : p ≤ 999000) :
    Calls Try.prog 47 #[.pointer (some ⟨R, 0, none⟩)] w (TookPost R A n c p 9 IsU64 w) := by
  go_enter Try.func47, Try.ntmps47
  go_wp2_with fail
  refine (pick_any R A n c p 4 _ hr (by omega) (by omega)).mono ?_
  rintro e w1 ⟨r, hr0, hr1, rfl, hR1, hg1⟩
  by_cases h0 : r = 0
  · subst h0
    go_wp2_with fail
    refine (pick_any R A n c (p + 1) 12 _ (hR1.alloc _) (by omega) (by omega)).mono ?_
    rintro e w2 ⟨r, hr0, hr1, rfl, hR2, hg2⟩
    have hgrow := (hg1.trans (World.grownBy_alloc w1 _ _)).trans hg2
    have hblk := (hg2.block w1.heap.size (by simp) (by intro e; injection e with e; have := hR1.lt; omega)).trans (heap_alloc_new w1 _)
    obtain ⟨q, rfl⟩ := Int.eq_ofNat_of_zero_le hr0
    have hq : q < 12 := by omega
    have hcell : ∃ z : Int, w2.cell? ⟨w1.heap.size, q, none⟩ = some (.int .u64 z) ∧ U64 z := by
      rw [cell_of_row w2 w1.heap.size q _ _ _ hblk]
      rcases (show q = 0 ∨ q = 1 ∨ q = 2 ∨ q = 3 ∨ q = 4 ∨ q = 5 ∨ q = 6 ∨ q = 7 ∨ q = 8 ∨ q = 9 ∨ q = 10 ∨ q = 11 by omega) with rfl | rfl | rfl | rfl | rfl | rfl | rfl | rfl | rfl | rfl | rfl | rfl <;> exact ⟨_, rfl, u64_small _ (by omega) (by omega)⟩
    obtain ⟨z, hc, hz⟩ := hcell
    have HZ := Lib.hid hz; clear hz
    clear hblk hg1 hg2
    go_wp2
    go_ret
    exact ⟨_, p + 1 + 1, ⟨z, HZ.out, rfl⟩, by omega, rfl, hR2, hgrow⟩
  · by_cases h1 : r = 1
    · subst h1
      go_wp2_with fail
      refine (pick_any R A n c (p + 1) 4 _ hR1 (by omega) (by omega)).mono ?_
      rintro e w2 ⟨r, hr0, hr1, rfl, hR2, hg2⟩
      go_wp2
      go_ret
      exact ⟨_, p + 1 + 1, ⟨r, u64_small r hr0 (by omega), rfl⟩, by omega, rfl, hR2, hg1.trans hg2⟩
    · have b0 : (r == 0) = false := by simpa using h0
      have b1 : (r == 1) = false := by simpa using h1
      go_wp2_with fail
      go_loopw [3, 4] (fun v i wr => ∃ (j q : Nat) (z : Int), j ≤ 8 ∧ i = .int .i64 j ∧ v = .int .u64 z ∧ Hid (U64 z) ∧ q ≤ p + 1 + j ∧ Rdr wr R A n c q ∧ w.grownBy wr (some R)) (fun _ i _ => 8 - (intOf i).toNat)
      case atStart => exact ⟨0, p + 1, 0, by omega, rfl, rfl, Lib.hid (u64_small 0 (by omega) (by omega)), by omega, hR1, hg1⟩
      case round =>
        obtain ⟨j, q, z, hj, rfl, rfl, hz, hq, hRr, hgr⟩ := hrel
        by_cases hlt : j < 8
        · go_wp2_with fail
          refine (pick_any R A n c q 256 _ hRr (by omega) (by omega)).mono ?_
          rintro e w2 ⟨r2, hr20, hr21, rfl, hR2, hg2⟩
          go_wp2
          go_roundw
          case rel => exact ⟨j + 1, q + 1, _, by omega, by go_num, rfl, Lib.hid (u64_wrap _), by omega, hR2, hgr.trans hg2⟩
          case measure => simp [intOf]; omega
        · go_wp2
          go_ret
          exact ⟨_, q, ⟨z, hz.out, rfl⟩, by omega, rfl, hRr, hgr⟩
end Go.Proofs.Ytclhdhpjgabpeaa
