/-
  spec.AfterUint64, the reference's step: what 'after' says. No conditions.
-/
import Derived.Test.YtclhdhpjgabpeaaAtomU64
namespace Go.Proofs.Ytclhdhpjgabpeaa.U64
open Go.RowKit
set_option maxHeartbeats 1000000 in
theorem after_any (x d y z : Int) (w : World) : Calls Try.prog 64 #[.int .u64 x, .agg #[.int .i64 d, .int .u64 y, .int .u64 z]] w (AfterPost .u64 x (d, y, z) w) := by
  by_cases h1 : d = 1
  · subst h1
    go_enter Try.func64, Try.ntmps64
    go_wp2
    go_quiet (fail)
    go_wp2
    go_ret2
    exact ⟨ret2 (after_store _ _ _ _) (rfl) (rfl), below_drewN ((Below.refl _ _).alloc (Nat.le_refl _) _) _⟩
  by_cases h2 : d = 2
  · subst h2
    go_enter Try.func64, Try.ntmps64
    go_wp2
    go_quiet (fail)
    go_wp2
    go_ret2
    exact ⟨ret2 (after_add _ _ _ _) (rfl) (rfl), below_drewN ((Below.refl _ _).alloc (Nat.le_refl _) _) _⟩
  by_cases h3 : d = 3
  · subst h3
    go_enter Try.func64, Try.ntmps64
    go_wp2
    go_quiet (fail)
    go_wp2
    go_ret2
    exact ⟨ret2 (after_and _ _ _ _) (rfl) (rfl), below_drewN ((Below.refl _ _).alloc (Nat.le_refl _) _) _⟩
  by_cases h4 : d = 4
  · subst h4
    go_enter Try.func64, Try.ntmps64
    go_wp2
    go_quiet (fail)
    go_wp2
    go_ret2
    exact ⟨ret2 (after_or _ _ _ _) (rfl) (rfl), below_drewN ((Below.refl _ _).alloc (Nat.le_refl _) _) _⟩
  by_cases h5 : d = 5
  · subst h5
    go_enter Try.func64, Try.ntmps64
    go_wp2
    go_quiet (fail)
    go_wp2
    go_ret2
    exact ⟨ret2 (after_swap _ _ _ _) (rfl) (rfl), below_drewN ((Below.refl _ _).alloc (Nat.le_refl _) _) _⟩
  by_cases h6 : d = 6
  · subst h6
    by_cases hxy : x = y
    · subst hxy
      go_enter Try.func64, Try.ntmps64
      go_wp2
      go_quiet (fail)
      go_wp2
      go_ret2
      exact ⟨ret2 (after_hit _ _ _) (rfl) (rfl), below_drewN ((Below.refl _ _).alloc (Nat.le_refl _) _) _⟩
    · have HN := Lib.hid (after_miss .u64 x y z hxy)
      have hb : (x == y) = false := by simpa using hxy
      go_enter Try.func64, Try.ntmps64
      go_wp2
      go_ret2
      exact ⟨ret2 HN.out (rfl) (rfl), (Below.refl _ _).alloc (Nat.le_refl _) _⟩
  · have HN := Lib.hid (after_else .u64 x d y z h1 h2 h3 h4 h5 h6)
    go_enter Try.func64, Try.ntmps64
    go_wp2
    go_ret2
    exact ⟨ret2 HN.out (rfl) (rfl), (Below.refl _ _).alloc (Nat.le_refl _) _⟩
end Go.Proofs.Ytclhdhpjgabpeaa.U64
