/-
  spec.RunPointer, the reference: its answers and its cell at last are what 'pans' and 'pfin' say; laws.sameCells of two equal lists is true; spec.cell and laws.whole. Conditions: the script is a slice of at most 2^43 steps.
-/
import Derived.Test.YtlenkaobojneeaaAtomP
namespace Go.Proofs.Ytlenkaobojneeaa.P
open Go.RowKit
theorem scell_any (y : Int) (w : World) : Calls Try.prog 20 #[.int .i64 y] w fun e w' => e = .returned (.int .i64 (cl y)) ∧ w' = w := by
  by_cases h0 : y < 0
  · rw [cl_out y (.inl h0)]
    go_enter Try.func20, Try.ntmps20
    go_wp2
    go_ret
    exact ⟨rfl, rfl⟩
  · by_cases h8 : 8 ≤ y
    · rw [cl_out y (.inr h8)]
      go_enter Try.func20, Try.ntmps20
      go_wp2
      go_ret
      exact ⟨rfl, rfl⟩
    · rw [cl_of y (by omega) (by omega)]
      go_enter Try.func20, Try.ntmps20
      go_wp2
      go_ret
      exact ⟨rfl, rfl⟩
theorem far_alloc {B : Nat} {e : TypeId} {v : Value} {n : Nat} {cs : List Value} {w wr : World} (hm : Gath B e 1 v n cs w wr) : v.ownBlock ≠ some wr.heap.size := fun e => by have := (hm.own.lt _ e).2; omega
/-- append of one number onto a slice that the call gathers; a block that is not the slice's own is kept. -/
theorem wp_numK {ops : Array Oper} {rest : List Oper} {o : Oper} {a : Act} {Q : Exit → Act → World → Prop} (hgd : o.guard = none) (s x : Operand)
    (ho : o.op = .call { callee := .builtin .append, args := #[s, x], argTypes := #[23, 23] })
    {B : Nat} {r : Int} {v : Value} {n sz V : Nat} {cs : List Value} {w wm : World} {ob : Obj} (hm : Gath B 3 1 v n cs w wm) (hs : a.eval s = v)
    (hx : a.eval x = .slice (some ⟨sz, 0, none⟩) 1 1) (hsz : sz = wm.heap.size) (hn : n ≤ 8796093022208) (hV : wm.heap[V]? = some ob) (hf : v.ownBlock ≠ some V)
    (h : ∀ v' w1, Gath B 3 1 v' (n + 1) (cs ++ [.int .i64 r]) w w1 → w1.heap[V]? = some ob → wpList Try.prog ops Q rest (a.put o.dst v') w1) : wpList Try.prog ops Q (o :: rest) a (wm.alloc (.cells #[.int .i64 r] 3)) := by
  obtain ⟨i0, hi, hz0, hz1, hz2⟩ := info_parts infoE
  subst hsz
  refine wpList_append_own_at _ hgd s x 23 ho B 3 i0 (.int .i64 0) 1 8 Try.underlying23 hi hz0 hz1 hz2 rfl (by decide) v n _ hs (hm.own.alloc _) ⟨wm.heap.size, 0, none⟩ 1 1 [.int .i64 r] hx rfl (cell_one_new _ _ _) (by intro u hu; simp at hu; subst hu; rfl) (by unfold maxLen; omega) (by omega)
    (by have := hm.lo; simp; omega) ?_
  intro v' w1 hown hg _ _
  have hlt := (Array.getElem?_eq_some_iff.1 hV).1
  exact h v' w1 ((hm.alloc _).append hown hg) ((hg.block V (by simp; omega) (Ne.symm hf)).trans ((Below.heap_alloc wm _ V hlt).trans hV))
set_option maxHeartbeats 2000000 in
theorem spec_any (A : Option Addr) (n c : Nat) (L : List Step) (w : World) (hn : n ≤ 8796093022208) (hL : Steps .i64 w A n L) :
    Calls Try.prog 9 #[.slice A n c] w (RunTo .i64 n (pfin L) (pans L) w) := by
  go_enter Try.func9, Try.ntmps9
  go_wp2
  go_loopw [4, 5, 6] (fun v x i wr => ∃ (j : Nat) (x0 : Int), j ≤ n ∧ i = .int .i64 j ∧ x = .int .i64 x0 ∧ x0 = pfin (L.take j) ∧ Gath w.heap.size 3 1 v j ((pans (L.take j)).map (Value.int .i64)) w wr) (fun _ _ i _ => n - (intOf i).toNat)
  case atStart => exact ⟨0, -1, Nat.zero_le _, rfl, rfl, rfl, Gath.start w _ _⟩
  case round =>
    obtain ⟨j, x, hj, rfl, rfl, hx, hm⟩ := hrel
    by_cases hlt : j < n
    · obtain ⟨⟨d, y, z⟩, hs⟩ : ∃ s, L[j]? = some s := ⟨_, List.getElem?_eq_getElem (by rw [hL.1]; exact hlt)⟩
      obtain ⟨b, off, rfl, c0, c1, c2⟩ := hL.2 j _ hs
      replace c0 := cell_kept hm.below c0
      replace c1 := cell_kept hm.below c1
      replace c2 := cell_kept hm.below c2
      generalize hzs : pans (L.take j) = zs at hm
      have HS := Lib.hid hs; clear hs
      have HX := Lib.hid hx.symm; clear hx
      have HZ := Lib.hid hzs; clear hzs
      by_cases h1 : d = 1
      · subst h1
        go_wp2_with (first
          | (at_builtin; refine wp_numK rfl (.tmp 31) (.tmp 32) rfl (hm.alloc _) rfl rfl (by simp) (by omega) (heap_alloc_new wr _) (far_alloc hm) ?_; intro v1 w1 hm1 hV; have k1 := cell_of_row w1 wr.heap.size 1 _ _ _ hV; have k2 := cell_of_row w1 wr.heap.size 2 _ _ _ hV; simp at k1 k2; clear hV)
          | (go_at_call 20; refine (scell_any _ _).mono ?_; rintro e w' ⟨rfl, rfl⟩))
        have R := Lib.hid (ref_next HS.out HX.out HZ.out (paft_store _ _ _) hm1)
        clear hm1 hm
        go_roundw
        case rel => exact ⟨j + 1, _, by omega, by go_num, rfl, R.out.1, R.out.2⟩
        case measure => simp [intOf]; omega
      by_cases h5 : d = 5
      · subst h5
        go_wp2_with (first
          | (at_builtin; refine wp_numK rfl (.tmp 37) (.tmp 39) rfl (hm.alloc _) rfl rfl (by simp) (by omega) (heap_alloc_new wr _) (far_alloc hm) ?_; intro v1 w1 hm1 hV; have k1 := cell_of_row w1 wr.heap.size 1 _ _ _ hV; have k2 := cell_of_row w1 wr.heap.size 2 _ _ _ hV; simp at k1 k2; clear hV)
          | (go_at_call 20; refine (scell_any _ _).mono ?_; rintro e w' ⟨rfl, rfl⟩))
        have R := Lib.hid (ref_next HS.out HX.out HZ.out (paft_swap _ _ _) hm1)
        clear hm1 hm
        go_roundw
        case rel => exact ⟨j + 1, _, by omega, by go_num, rfl, R.out.1, R.out.2⟩
        case measure => simp [intOf]; omega
      by_cases h6 : d = 6
      · subst h6
        by_cases hxy : x = cl y
        · have HN := Lib.hid (paft_hit x y z hxy)
          have hb : (x == cl y) = true := by simpa using hxy
          have HY := Lib.hid hxy; clear hxy
          go_wp2_with (first
            | (at_builtin; refine wp_numK rfl (.tmp 47) (.tmp 48) rfl (hm.alloc _) rfl rfl (by simp) (by omega) (heap_alloc_new wr _) (far_alloc hm) ?_; intro v1 w1 hm1 hV; have k1 := cell_of_row w1 wr.heap.size 1 _ _ _ hV; have k2 := cell_of_row w1 wr.heap.size 2 _ _ _ hV; simp at k1 k2; clear hV)
            | (go_at_call 20; refine (scell_any _ _).mono ?_; rintro e w' ⟨rfl, rfl⟩))
          have R := Lib.hid (ref_next HS.out HX.out HZ.out HN.out hm1)
          clear hm1 hm
          go_roundw
          case rel => exact ⟨j + 1, _, by omega, by go_num, rfl, R.out.1, R.out.2⟩
          case measure => simp [intOf]; omega
        · have HN := Lib.hid (paft_miss x y z hxy)
          have hb : (x == cl y) = false := by simpa using hxy
          have HY := Lib.hid hxy; clear hxy
          go_wp2_with (first
            | (at_builtin; refine wp_numK rfl (.tmp 53) (.tmp 54) rfl (hm.alloc _) rfl rfl (by simp) (by omega) (heap_alloc_new wr _) (far_alloc hm) ?_; intro v1 w1 hm1 hV; have k1 := cell_of_row w1 wr.heap.size 1 _ _ _ hV; have k2 := cell_of_row w1 wr.heap.size 2 _ _ _ hV; simp at k1 k2; clear hV)
            | (go_at_call 20; refine (scell_any _ _).mono ?_; rintro e w' ⟨rfl, rfl⟩))
          have R := Lib.hid (ref_next HS.out HX.out HZ.out HN.out hm1)
          clear hm1 hm
          go_roundw
          case rel => exact ⟨j + 1, _, by omega, by go_num, rfl, R.out.1, R.out.2⟩
          case measure => simp [intOf]; omega
      · have HN := Lib.hid (paft_else x d y z h1 h5 h6)
        go_wp2_with (first
          | (at_builtin; refine wp_numK rfl (.tmp 25) (.tmp 27) rfl (hm.alloc _) rfl rfl (by simp) (by omega) (heap_alloc_new wr _) (far_alloc hm) ?_; intro v1 w1 hm1 hV; have k1 := cell_of_row w1 wr.heap.size 1 _ _ _ hV; have k2 := cell_of_row w1 wr.heap.size 2 _ _ _ hV; simp at k1 k2; clear hV)
          | (go_at_call 20; refine (scell_any _ _).mono ?_; rintro e w' ⟨rfl, rfl⟩))
        have R := Lib.hid (ref_next HS.out HX.out HZ.out HN.out hm1)
        clear hm1 hm
        go_roundw
        case rel => exact ⟨j + 1, _, by omega, by go_num, rfl, R.out.1, R.out.2⟩
        case measure => simp [intOf]; omega
    · have hjn : j = n := by omega
      subst hjn
      rw [List.take_of_length_le (by rw [hL.1]; exact Nat.le_refl _)] at hm hx
      have HX := Lib.hid hx; clear hx
      obtain ⟨A', c', rfl, hc', hI⟩ := Gath.ints hm
      go_wp2
      go_ret2
      exact ⟨A', c', by rw [← HX.out]; rfl, hc', hI, hm.below⟩
set_option maxHeartbeats 1000000 in
theorem same_any (A A' : Option Addr) (n c c' : Nat) (zs : List Int) (w : World) (hn : n ≤ 9223372036854775807) (hz : Ints .i64 w A n zs) (hz' : Ints .i64 w A' n zs) :
    Calls Try.prog 10 #[.slice A n c, .slice A' n c'] w fun e w' => e = .returned (.bool true) ∧ ∃ m, w' = w.drewN m := by
  go_enter Try.func10, Try.ntmps10
  go_wp2
  go_loopw [5] (fun i wr => ∃ j m : Nat, j ≤ n ∧ i = .int .i64 j ∧ wr = w.drewN m) (fun i _ => n - (intOf i).toNat)
  case atStart => exact ⟨0, 0, Nat.zero_le _, rfl, rfl⟩
  case round =>
    obtain ⟨j, m, hj, rfl, rfl⟩ := hrel
    by_cases hlt : j < n
    · obtain ⟨z, hs⟩ : ∃ s, zs[j]? = some s := ⟨_, List.getElem?_eq_getElem (by rw [hz.1]; exact hlt)⟩
      obtain ⟨b, off, rfl, c0⟩ := hz.2 j _ hs
      obtain ⟨b', off', rfl, c1⟩ := hz'.2 j _ hs
      clear hs
      go_wp2
      go_quiet (fail)
      go_wp2
      go_roundw
      case rel => exact ⟨j + 1, _, by omega, by go_num, rfl⟩
      case measure => simp [intOf]; omega
    · go_wp2
      go_ret
      exact ⟨rfl, m, rfl⟩
end Go.Proofs.Ytlenkaobojneeaa.P
