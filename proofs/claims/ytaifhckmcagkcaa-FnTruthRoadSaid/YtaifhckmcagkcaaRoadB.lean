/-
  Plain facts: a script of truths, read as a script of the numbers 1 and 0, has the answers and the number at last that the truths have; and laws.bit. No conditions.
-/
import Derived.Test.YtaifhckmcagkcaaAtomB
namespace Go.Proofs.Ytaifhckmcagkcaa.B
open Go.RowKit
def bitK (x : Bool) : Int := if x then 1 else 0
def doOf (d : Int) : Int := if d = 1 ∨ d = 5 ∨ d = 6 then d else 0
def toNum (s : Step) : Go.Proofs.Ytaifhckmcagkcaa.Step := (doOf s.1, bitK s.2.1, bitK s.2.2)
theorem doOf_same (d : Int) (h : d = 1 ∨ d = 5 ∨ d = 6) : doOf d = d := by unfold doOf; rw [if_pos h]
theorem doOf_else (d : Int) (h1 : ¬ d = 1) (h5 : ¬ d = 5) (h6 : ¬ d = 6) : doOf d = 0 := by unfold doOf; rw [if_neg (by simp [h1, h5, h6])]
theorem bitK_inj (x y : Bool) : bitK x = bitK y ↔ x = y := by cases x <;> cases y <;> simp [bitK]
theorem road_after (x : Bool) (s : Step) : Go.Proofs.Ytaifhckmcagkcaa.after .i32 (bitK x) (toNum s) = (bitK (after x s).1, bitK (after x s).2) := by
  obtain ⟨d, y, z⟩ := s
  unfold Go.Proofs.Ytaifhckmcagkcaa.after after toNum
  by_cases h1 : d = 1
  · simp [h1, doOf, bitK]
  by_cases h5 : d = 5
  · simp [h5, doOf]
  by_cases h6 : d = 6
  · by_cases h : x = y
    · simp [h6, doOf, h, bitK]
    · have : ¬ bitK x = bitK y := fun e => h ((bitK_inj x y).1 e)
      simp [h6, doOf, h, this]; simp [bitK]
  · simp [doOf_else d h1 h5 h6, h1, h5, h6]
theorem road_run (L : List Step) (x : Bool) : Go.Proofs.Ytaifhckmcagkcaa.ans .i32 (bitK x) (L.map toNum) = (ans x L).map bitK ∧ Go.Proofs.Ytaifhckmcagkcaa.fin .i32 (bitK x) (L.map toNum) = bitK (fin x L) := by
  induction L generalizing x with
  | nil => exact ⟨rfl, rfl⟩
  | cons s l ih =>
    have ha := road_after x s
    have := ih (after x s).2
    simp only [List.map_cons, Go.Proofs.Ytaifhckmcagkcaa.ans, Go.Proofs.Ytaifhckmcagkcaa.fin, ans, fin, ha]
    exact ⟨by rw [this.1], this.2⟩
theorem num_snoc (L : List Step) (i : Nat) (s : Step) (h : L[i]? = some s) : Go.Proofs.Ytaifhckmcagkcaa.cellsOfL .i32 ((L.take (i + 1)).map toNum) = Go.Proofs.Ytaifhckmcagkcaa.cellsOfL .i32 ((L.take i).map toNum) ++ Go.Proofs.Ytaifhckmcagkcaa.cellsOf1 .i32 (doOf s.1, bitK s.2.1, bitK s.2.2) := by
  rw [take_snoc L i s h, List.map_append, Go.Proofs.Ytaifhckmcagkcaa.cellsOfL_append]; simp [Go.Proofs.Ytaifhckmcagkcaa.cellsOfL, toNum]
theorem bit_any (y : Bool) (w : World) : Calls Try.prog 12 #[.bool y] w fun e w' => e = .returned (.int .i32 (bitK y)) ∧ w = w' := by
  cases y
  · go_enter Try.func12, Try.ntmps12
    go_wp2
    go_ret
    exact ⟨rfl, rfl⟩
  · go_enter Try.func12, Try.ntmps12
    go_wp2
    go_ret
    exact ⟨rfl, rfl⟩
theorem bit_same (y : Bool) (w : World) : Calls Try.prog 12 #[.bool y] w fun e w' => e = .returned (.int .i32 (bitK y)) ∧ w' = w :=
  (bit_any y w).mono fun _ _ h => ⟨h.1, h.2.symm⟩
end Go.Proofs.Ytaifhckmcagkcaa.B
