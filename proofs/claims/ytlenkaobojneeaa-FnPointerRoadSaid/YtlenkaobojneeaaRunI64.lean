/-
  impl.RunInt64 walks a script by the methods of atomic.Int64: its answers and its number at last are those of a plain number (RunPost). Conditions: the script is a slice of at most 2^43 steps.
-/
import Derived.Test.YtlenkaobojneeaaAtomI64
namespace Go.Proofs.Ytlenkaobojneeaa.I64
open Go.RowKit
set_option maxHeartbeats 2000000 in
theorem run_any (A : Option Addr) (n c : Nat) (L : List Step) (w : World) (hn : n ≤ 8796093022208) (hL : Steps .i64 w A n L) :
    Calls Try.prog 13 #[.slice A n c] w (RunPost .i64 n L w) := by
  go_enter Try.func13, Try.ntmps13
  go_wp2
  go_loopw [4, 11] (fun v i wr => ∃ j : Nat, j ≤ n ∧ i = .int .i64 j ∧ Mid w.heap.size (w.heap.size + 1) 2 62 .i64 (fin .i64 0 (L.take j)) v j (ans .i64 0 (L.take j)) w wr) (fun _ i _ => n - (intOf i).toNat)
  case atStart => exact ⟨0, Nat.zero_le _, rfl, mid_start w L⟩
  case round =>
    obtain ⟨j, hj, rfl, hm⟩ := hrel
    by_cases hlt : j < n
    · obtain ⟨⟨d, y, z⟩, hs⟩ : ∃ s, L[j]? = some s := ⟨_, List.getElem?_eq_getElem (by rw [hL.1]; exact hlt)⟩
      obtain ⟨b, off, rfl, c0, c1, c2⟩ := hL.2 j _ hs
      replace c0 := cell_kept hm.below c0
      replace c1 := cell_kept hm.below c1
      replace c2 := cell_kept hm.below c2
      generalize hx : fin .i64 0 (L.take j) = x at hm
      generalize hzs : ans .i64 0 (L.take j) = zs at hm
      have HS := Lib.hid hs; clear hs
      have HX := Lib.hid hx; clear hx
      have HZ := Lib.hid hzs; clear hzs
      by_cases h1 : d = 1
      · subst h1
        go_wp2_with (first | (at_builtin; refine wp_ans rfl (.tmp 26) (.tmp 27) rfl ((hm.alloc _).setX y) rfl rfl (by simp) (by omega) ?_; intro v1 w1 hm1) | (go_at_call 24; refine (m_store y (hm.alloc _).cell (hm.alloc _).free).mono ?_; rintro e w' ⟨rfl, rfl⟩))
        go_roundw
        case rel => exact ⟨j + 1, by omega, by go_num, rel_next HS.out HX.out HZ.out (after_store _ _ _ _) hm1⟩
        case measure => simp [intOf]; omega
      by_cases h2 : d = 2
      · subst h2
        go_wp2_with (first | (at_builtin; refine wp_ans rfl (.tmp 31) (.tmp 35) rfl ((hm.alloc _).setX (addK .i64 x y)) rfl rfl (by simp) (by omega) ?_; intro v1 w1 hm1) | (go_at_call 25; refine (m_add y (hm.alloc _).cell (hm.alloc _).free).mono ?_; rintro e w' ⟨rfl, rfl⟩))
        go_roundw
        case rel => exact ⟨j + 1, by omega, by go_num, rel_next HS.out HX.out HZ.out (after_add _ _ _ _) hm1⟩
        case measure => simp [intOf]; omega
      by_cases h3 : d = 3
      · subst h3
        go_wp2_with (first | (at_builtin; refine wp_ans rfl (.tmp 39) (.tmp 43) rfl ((hm.alloc _).setX (andK .i64 x y)) rfl rfl (by simp) (by omega) ?_; intro v1 w1 hm1) | (go_at_call 26; refine (m_and y (hm.alloc _).cell (hm.alloc _).free).mono ?_; rintro e w' ⟨rfl, rfl⟩))
        go_roundw
        case rel => exact ⟨j + 1, by omega, by go_num, rel_next HS.out HX.out HZ.out (after_and _ _ _ _) hm1⟩
        case measure => simp [intOf]; omega
      by_cases h4 : d = 4
      · subst h4
        go_wp2_with (first | (at_builtin; refine wp_ans rfl (.tmp 47) (.tmp 51) rfl ((hm.alloc _).setX (orK .i64 x y)) rfl rfl (by simp) (by omega) ?_; intro v1 w1 hm1) | (go_at_call 27; refine (m_or y (hm.alloc _).cell (hm.alloc _).free).mono ?_; rintro e w' ⟨rfl, rfl⟩))
        go_roundw
        case rel => exact ⟨j + 1, by omega, by go_num, rel_next HS.out HX.out HZ.out (after_or _ _ _ _) hm1⟩
        case measure => simp [intOf]; omega
      by_cases h5 : d = 5
      · subst h5
        go_wp2_with (first | (at_builtin; refine wp_ans rfl (.tmp 55) (.tmp 59) rfl ((hm.alloc _).setX y) rfl rfl (by simp) (by omega) ?_; intro v1 w1 hm1) | (go_at_call 28; refine (m_swap y (hm.alloc _).cell (hm.alloc _).free).mono ?_; rintro e w' ⟨rfl, rfl⟩))
        go_roundw
        case rel => exact ⟨j + 1, by omega, by go_num, rel_next HS.out HX.out HZ.out (after_swap _ _ _ _) hm1⟩
        case measure => simp [intOf]; omega
      by_cases h6 : d = 6
      · subst h6
        by_cases hxy : x = y
        · subst hxy
          go_wp2_with (first | (at_builtin; refine wp_ans rfl (.tmp 68) (.tmp 69) rfl ((hm.alloc _).setX z) rfl rfl (by simp) (by omega) ?_; intro v1 w1 hm1) | (go_at_call 29; refine (m_hit z (hm.alloc _).cell (hm.alloc _).free).mono ?_; rintro e w' ⟨rfl, rfl⟩))
          go_roundw
          case rel => exact ⟨j + 1, by omega, by go_num, rel_next HS.out HX.out HZ.out (after_hit _ _ _) hm1⟩
          case measure => simp [intOf]; omega
        · have HN := Lib.hid (after_miss .i64 x y z hxy)
          go_wp2_with (first | (at_builtin; refine wp_ans rfl (.tmp 71) (.tmp 72) rfl ((hm.alloc _)) rfl rfl (by simp) (by omega) ?_; intro v1 w1 hm1) | (go_at_call 29; refine (m_miss y z (hm.alloc _).cell (hm.alloc _).free hxy).mono ?_; rintro e w' ⟨rfl, rfl⟩))
          go_roundw
          case rel => exact ⟨j + 1, by omega, by go_num, rel_next HS.out HX.out HZ.out HN.out hm1⟩
          case measure => simp [intOf]; omega
      · have HN := Lib.hid (after_else .i64 x d y z h1 h2 h3 h4 h5 h6)
        go_wp2_with (first | (at_builtin; refine wp_ans rfl (.tmp 17) (.tmp 19) rfl ((hm.alloc _)) rfl rfl (by simp) (by omega) ?_; intro v1 w1 hm1) | (go_at_call 30; refine (m_load (hm.alloc _).cell).mono ?_; rintro e w' ⟨rfl, rfl⟩))
        go_roundw
        case rel => exact ⟨j + 1, by omega, by go_num, rel_next HS.out HX.out HZ.out HN.out hm1⟩
        case measure => simp [intOf]; omega
    · have hjn : j = n := by omega
      subst hjn
      rw [List.take_of_length_le (by rw [hL.1]; exact Nat.le_refl _)] at hm
      generalize hx : fin .i64 0 L = x at hm
      generalize hzs : ans .i64 0 L = zs at hm
      have HX := Lib.hid hx; clear hx
      have HZ := Lib.hid hzs; clear hzs
      obtain ⟨A', c', rfl, hc', hI⟩ := hm.out
      go_wp2_with (go_at_call 30; refine (m_load hm.cell).mono ?_; rintro e w' ⟨rfl, rfl⟩)
      go_ret2
      exact ⟨A', c', by rw [HX.out]; rfl, hc', by rw [HZ.out]; exact hI, hm.below⟩
end Go.Proofs.Ytlenkaobojneeaa.I64
