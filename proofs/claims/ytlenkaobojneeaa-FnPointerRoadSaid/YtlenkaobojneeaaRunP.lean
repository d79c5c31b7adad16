/-
  impl.RunPointer walks a script of pointers by the methods of atomic.Pointer[int]: its answers and its cell at last are those of the cells' numbers. Conditions: the script is a slice of at most 2^43 steps.
-/
import Derived.Test.YtlenkaobojneeaaAtomP
namespace Go.Proofs.Ytlenkaobojneeaa.P
open Go.RowKit
theorem cell_flip (C : Nat) (y : Int) (w : World) : Calls Try.prog 15 #[.slice (some ⟨C, 0, none⟩) 8 8, .int .i64 y] w fun e w' => e = .returned (.pointer (pt C (cl y))) ∧ w = w' :=
  (cell_any C y w).mono fun _ _ h => ⟨h.1, h.2.symm⟩
theorem mk8 (w : World) : (Instr.makeSlice 23 (.int .i64 8) (.int .i64 8)).run Try.prog w = .ok (.slice (some ⟨w.heap.size, 0, none⟩) 8 8) (w.alloc (.cells eight 3)) := by kernel_rfl
theorem step_kept {wr : World} {X : Nat} {T : TypeId} {d y z : Int} {u : Value} (hX : X < wr.heap.size) : ((wr.alloc (.cells #[.int .i64 d, .int .i64 y, .int .i64 z] T)).setCell ⟨X, 0, none⟩ u).drew.cell? ⟨wr.heap.size, 1, none⟩ = some (.int .i64 y) ∧ ((wr.alloc (.cells #[.int .i64 d, .int .i64 y, .int .i64 z] T)).setCell ⟨X, 0, none⟩ u).drew.cell? ⟨wr.heap.size, 2, none⟩ = some (.int .i64 z) := by
  have h := (Below.heap_setCell (wr.alloc (.cells #[.int .i64 d, .int .i64 y, .int .i64 z] T)) ⟨X, 0, none⟩ u wr.heap.size (by show ¬ wr.heap.size = X; omega)).trans (heap_alloc_new wr (.cells #[.int .i64 d, .int .i64 y, .int .i64 z] T))
  exact ⟨(cell_of_row _ _ 1 _ _ _ h).trans rfl, (cell_of_row _ _ 2 _ _ _ h).trans rfl⟩
set_option maxHeartbeats 2000000 in
theorem run_any (A : Option Addr) (n c : Nat) (L : List Step) (w : World) (hn : n ≤ 8796093022208) (hL : Steps .i64 w A n L) :
    Calls Try.prog 8 #[.slice A n c] w (RunTo .i64 n (pfin L) (pans L) w) := by
  go_enter Try.func8, Try.ntmps8
  have hmk := fun w => mk8 w
  go_wp2
  clear hmk
  go_loopw [4, 13] (fun v i wr => ∃ j : Nat, j ≤ n ∧ i = .int .i64 j ∧ Mid w.heap.size (w.heap.size + 1) (w.heap.size + 1 + 1) 3 47 (pfin (L.take j)) v j (pans (L.take j)) w wr) (fun _ i _ => n - (intOf i).toNat)
  case atStart => exact ⟨0, Nat.zero_le _, rfl, mid_start w L⟩
  case round =>
    obtain ⟨j, hj, rfl, hm⟩ := hrel
    have hxi := pfin_in (L.take j)
    by_cases hlt : j < n
    · obtain ⟨⟨d, y, z⟩, hs⟩ : ∃ s, L[j]? = some s := ⟨_, List.getElem?_eq_getElem (by rw [hL.1]; exact hlt)⟩
      obtain ⟨b, off, rfl, c0, c1, c2⟩ := hL.2 j _ hs
      replace c0 := cell_kept hm.below c0
      replace c1 := cell_kept hm.below c1
      replace c2 := cell_kept hm.below c2
      generalize hx : pfin (L.take j) = x at hm hxi
      generalize hzs : pans (L.take j) = zs at hm
      have HS := Lib.hid hs; clear hs
      have HX := Lib.hid hx; clear hx
      have HZ := Lib.hid hzs; clear hzs
      have HI := Lib.hid hxi; clear hxi
      by_cases h1 : d = 1
      · subst h1
        go_wp2_with (first
          | (at_builtin; refine wp_ans rfl (.tmp 32) (.tmp 33) rfl ((hm.alloc _).setX (cl y)) rfl rfl (by simp) (by omega) ?_; intro v1 w1 hm1)
          | (go_at_call 14; refine (m_store (cl y) (cl_in y) (hm.alloc _).cells (hm.alloc _).cell (hm.alloc _).free).mono ?_; rintro e w' ⟨rfl, rfl⟩)
          | (go_at_call 15; refine (cell_any _ _ _).mono ?_; rintro e w' ⟨rfl, rfl⟩))
        go_roundw
        case rel => exact ⟨j + 1, by omega, by go_num, rel_next HS.out HX.out HZ.out (paft_store _ _ _) hm1⟩
        case measure => simp [intOf]; omega
      by_cases h5 : d = 5
      · subst h5
        go_wp2_with (first
          | (at_builtin; refine wp_ans rfl (.tmp 37) (.tmp 45) rfl ((hm.alloc _).setX (cl y)) rfl rfl (by simp) (by omega) ?_; intro v1 w1 hm1)
          | (go_at_call 17; refine (m_swap (cl y) (cl_in y) HI.out (hm.alloc _).cells hm.ne (hm.alloc _).cell (hm.alloc _).free).mono ?_; rintro e w' ⟨rfl, rfl⟩)
          | (go_at_call 16; refine (number_any _ _ _ HI.out).mono ?_; rintro e w' ⟨rfl, rfl⟩)
          | (go_at_call 15; refine (cell_any _ _ _).mono ?_; rintro e w' ⟨rfl, rfl⟩))
        go_roundw
        case rel => exact ⟨j + 1, by omega, by go_num, rel_next HS.out HX.out HZ.out (paft_swap _ _ _) hm1⟩
        case measure => simp [intOf]; omega
      by_cases h6 : d = 6
      · subst h6
        by_cases hxy : x = cl y
        · have HN := Lib.hid (paft_hit x y z hxy)
          have HY := Lib.hid hxy; clear hxy
          go_wp2_with fail
          have HK := Lib.hid (step_kept (T := 32) (d := 6) (y := y) (z := z) (u := .pointer (pt (w.heap.size + 1) (cl z))) hm.lt)
          go_region_held3 (fun w' => w'.cell? ⟨wr.heap.size, 1, none⟩ = some (.int .i64 y) ∧ w'.cell? ⟨wr.heap.size, 2, none⟩ = some (.int .i64 z)) (first | exact HK.out | go_keep)
            (first
              | ((go_at_call 15; refine (cell_flip _ _ _).mono ?_; rintro e w' ⟨rfl, rfl⟩))
              | ((go_at_call 18; rw [← HY.out]; refine (m_hit (cl z) (cl_in z) HI.out (hm.alloc _).drew.cells (hm.alloc _).drew.cell (hm.alloc _).drew.free).mono ?_; rintro e w' ⟨rfl, rfl⟩)))
          all_goals
            go_wp2_with (at_builtin; refine wp_ans rfl (.tmp 58) (.tmp 59) rfl ((hm.alloc _).drew.setX (cl z)) rfl rfl (by simp) (by omega) ?_; intro v1 w1 hm1)
            go_roundw
            case rel => exact ⟨j + 1, by omega, by go_num, rel_next HS.out HX.out HZ.out HN.out hm1⟩
            case measure => simp [intOf]; omega
        · have HN := Lib.hid (paft_miss x y z hxy)
          have HY := Lib.hid hxy; clear hxy
          go_wp2_with fail
          have HK := Lib.hid (step_kept (T := 32) (d := 6) (y := y) (z := z) (u := .pointer (pt (w.heap.size + 1) (cl z))) hm.lt)
          go_region_held3 (fun w' => w'.cell? ⟨wr.heap.size, 1, none⟩ = some (.int .i64 y) ∧ w'.cell? ⟨wr.heap.size, 2, none⟩ = some (.int .i64 z)) (first | exact HK.out | go_keep)
            (first
              | ((go_at_call 15; refine (cell_flip _ _ _).mono ?_; rintro e w' ⟨rfl, rfl⟩))
              | ((go_at_call 18; refine (m_miss (cl y) (cl z) (cl_in y) (cl_in z) HI.out (hm.alloc _).drew.cells (hm.alloc _).drew.cell (hm.alloc _).drew.free HY.out).mono ?_; rintro e w' ⟨rfl, rfl⟩)))
          all_goals
            go_wp2_with (at_builtin; refine wp_ans rfl (.tmp 61) (.tmp 62) rfl ((hm.alloc _).drew) rfl rfl (by simp) (by omega) ?_; intro v1 w1 hm1)
            go_roundw
            case rel => exact ⟨j + 1, by omega, by go_num, rel_next HS.out HX.out HZ.out HN.out hm1⟩
            case measure => simp [intOf]; omega
      · have HN := Lib.hid (paft_else x d y z h1 h5 h6)
        go_wp2_with (first
          | (at_builtin; refine wp_ans rfl (.tmp 19) (.tmp 23) rfl ((hm.alloc _)) rfl rfl (by simp) (by omega) ?_; intro v1 w1 hm1)
          | (go_at_call 19; refine (m_load HI.out (hm.alloc _).cells (hm.alloc _).cell).mono ?_; rintro e w' ⟨rfl, rfl⟩)
          | (go_at_call 16; refine (number_any _ _ _ HI.out).mono ?_; rintro e w' ⟨rfl, rfl⟩))
        go_roundw
        case rel => exact ⟨j + 1, by omega, by go_num, rel_next HS.out HX.out HZ.out HN.out hm1⟩
        case measure => simp [intOf]; omega
    · have hjn : j = n := by omega
      subst hjn
      rw [List.take_of_length_le (by rw [hL.1]; exact Nat.le_refl _)] at hm hxi
      generalize hx : pfin L = x at hm hxi
      generalize hzs : pans L = zs at hm
      have HX := Lib.hid hx; clear hx
      have HZ := Lib.hid hzs; clear hzs
      have HI := Lib.hid hxi; clear hxi
      obtain ⟨A', c', rfl, hc', hI⟩ := hm.out
      go_wp2_with (first
          | (go_at_call 19; refine (m_load HI.out hm.cells hm.cell).mono ?_; rintro e w' ⟨rfl, rfl⟩)
          | (go_at_call 16; refine (number_any _ _ _ HI.out).mono ?_; rintro e w' ⟨rfl, rfl⟩))
      go_ret2
      exact ⟨A', c', by rw [HX.out]; rfl, hc', by rw [HZ.out]; exact hI, hm.below⟩
theorem run_to {A : Option Addr} {n c : Nat} {x : Int} {zs : List Int} (L : List Step) (w : World) (hn : n ≤ 8796093022208) (hL : Steps .i64 w A n L) (hx : pfin L = x) (hz : pans L = zs) :
    Calls Try.prog 8 #[.slice A n c] w (RunTo .i64 n x zs w) := by
  subst hx hz
  exact run_any A n c L w hn hL
end Go.Proofs.Ytlenkaobojneeaa.P
