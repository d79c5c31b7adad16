/-
  laws.alive is true: what was stored is loaded. And a run of a script whose answers and number at last are known. No conditions.
-/
import Derived.Test.YtclhdhpjgabpeaaRunI32
namespace Go.Proofs.Ytclhdhpjgabpeaa.I32
open Go.RowKit
theorem run_to {A : Option Addr} {n c : Nat} {x : Int} {zs : List Int} (L : List Step) (w : World) (hn : n ≤ 8796093022208) (hL : Steps .i32 w A n L) (hx : fin .i32 0 L = x) (hz : ans .i32 0 L = zs) :
    Calls Try.prog 7 #[.slice A n c] w (RunTo .i32 n x zs w) := by
  subst hx hz
  exact run_any A n c L w hn hL
theorem alive_any (w : World) : Calls Try.prog 9 #[] w fun e w' => e = .returned (.bool true) ∧ Below w.heap.size w w' := by
  have hfin : fin .i32 0 [((1 : Int), (7 : Int), (0 : Int))] = 7 := by simp [fin, after]
  have HF := Lib.hid hfin; clear hfin
  go_enter Try.func9, Try.ntmps9
  go_wp2_with fail
  refine (run_any (some ⟨w.heap.size, 0, none⟩) 1 1 [(1, 7, 0)] _ (by omega) (Steps.lit [(1, 7, 0)] (heap_alloc_new w _) rfl)).mono ?_
  rintro e w1 ⟨A1, c1, rfl, hc1, hI1, hb1⟩
  rw [HF.out]
  go_wp2
  go_ret
  exact ⟨rfl, ext_trans (ext_new w _) hb1⟩
end Go.Proofs.Ytclhdhpjgabpeaa.I32
