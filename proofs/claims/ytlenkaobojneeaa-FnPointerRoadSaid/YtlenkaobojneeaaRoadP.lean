/-
  Plain facts: a script of pointers, read as a script of the cells' numbers behind a store of -1, has the answers and the number at last that the pointers have; and laws.whole. No conditions.
-/
import Derived.Test.YtlenkaobojneeaaAtomP
import Derived.Test.YtlenkaobojneeaaRunI64
namespace Go.Proofs.Ytlenkaobojneeaa.P
open Go.RowKit
theorem road_run (L : List Step) : ans .i64 0 ((1, -1, 0) :: L.map toP) = 0 :: pans L ∧ fin .i64 0 ((1, -1, 0) :: L.map toP) = pfin L := by
  simp [ans, fin, after, pans, pfin]
theorem num_snoc (L : List Step) (i : Nat) (s : Step) (h : L[i]? = some s) : cellsOfL .i64 ((1, -1, 0) :: (L.take (i + 1)).map toP) = cellsOfL .i64 ((1, -1, 0) :: (L.take i).map toP) ++ cellsOf1 .i64 (doOf s.1, cl s.2.1, cl s.2.2) := by
  rw [take_snoc L i s h, List.map_append, ← List.cons_append, cellsOfL_append]; simp [cellsOfL, toP]
theorem run64_to {A : Option Addr} {n c : Nat} {x : Int} {zs : List Int} (L : List Step) (w : World) (hn : n ≤ 8796093022208) (hL : Steps .i64 w A n L) (hx : fin .i64 0 L = x) (hz : ans .i64 0 L = zs) :
    Calls Try.prog 13 #[.slice A n c] w (RunTo .i64 n x zs w) := by
  subst hx hz
  exact I64.run_any A n c L w hn hL
theorem whole_any (y : Int) (w : World) : Calls Try.prog 12 #[.int .i64 y] w fun e w' => e = .returned (.int .i64 (cl y)) ∧ w = w' := by
  by_cases h0 : y < 0
  · rw [cl_out y (.inl h0)]
    go_enter Try.func12, Try.ntmps12
    go_wp2
    go_ret
    exact ⟨rfl, rfl⟩
  · by_cases h8 : 8 ≤ y
    · rw [cl_out y (.inr h8)]
      go_enter Try.func12, Try.ntmps12
      go_wp2
      go_ret
      exact ⟨rfl, rfl⟩
    · rw [cl_of y (by omega) (by omega)]
      go_enter Try.func12, Try.ntmps12
      go_wp2
      go_ret
      exact ⟨rfl, rfl⟩
end Go.Proofs.Ytlenkaobojneeaa.P
