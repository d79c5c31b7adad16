/-
  FnPointsNowhere holds for every input: a pointer is to no cell at first, and can be to none again. No conditions.
-/
import Derived.Test.YtlenkaobojneeaaRunP
import Derived.Test.YtlenkaobojneeaaSpecP
import Derived.Test.YtlenkaobojneeaaOpen
import Derived.Test.YtlenkaobojneeaaDrawPWalk
import Derived.Test.YtlenkaobojneeaaCatP
namespace Go.Proofs.Ytlenkaobojneeaa.P
open Go.ChangeShapes Go.WideShapes Go.ChangeAt Go.RowKit
set_option linter.unusedVariables false
set_option maxHeartbeats 4000000 in
theorem walk_PointsNowhere (A : Option Addr) (n c : Nat) (w : World) (hB : Bytes w A n) :
    Calls Try.prog 5 #[.slice A n c] w fun e w' => e = .returned (.bool true) ∧ Below w.heap.size w w' := by
  go_enter Try.func5, Try.ntmps5
  go_wp2_with fail
  refine (draw_any A n c _ hB).mono ?_
  rintro e w1 ⟨A1, m1, c1, L1, A2, m2, c2, L2, rfl, hm1, hc1, hS1, hm2, hc2, hS2, hb1⟩
  go_wp2_with fail
  refine (run_to (n := 0) (x := -1) (zs := []) [] _ (by omega) (Steps.nil .i64 _ _) rfl rfl).mono ?_
  rintro e w2 ⟨A3, c3, rfl, hc3, hI3, hb2⟩
  replace hS1 := hS1.keep hb2
  replace hb2 := ext_trans hb1 hb2
  have hS1a := hS1.keep (ext_new w2 (.cells #[] 32))
  clear hb1 hI3 hS2
  go_wp2_with (first | (at_builtin; refine wp_scat rfl (.tmp 21) (.tmp 22) rfl (Gath.start w2 32 3) rfl rfl hS1a (by omega) ?_; intro v3 w3 hG3; rw [Nat.zero_add] at hG3) | (at_builtin; refine wp_scat rfl (.tmp 23) (.tmp 25) rfl (hG3.alloc _) rfl rfl (Steps.lit [(1, -1, 0)] (heap_alloc_new w3 _) rfl) (by simp; omega) ?_; intro v4 w4 hG4))
  obtain ⟨A4, c4, rfl, hc4, hS4⟩ := Gath.steps (k := .i64) (L := L1 ++ [(1, -1, 0)]) (by rw [cellsOfL_append]; simpa using hG4)
  have hb4 := ext_trans hb2 hG4.below
  clear hG3 hG4 hS1 hS1a hb2
  go_wp2_with fail
  refine (run_to (n := m1 + 1) (x := -1) (L1 ++ [(1, -1, 0)]) _ (by omega) hS4 (nowhere_fin L1) rfl).mono ?_
  rintro e w5 ⟨A5, c5, rfl, hc5, hI5, hb5⟩
  replace hb5 := ext_trans hb4 hb5
  clear hb4 hI5 hS4
  go_wp2_with fail
  refine (run_to (n := 1) (x := 0) (zs := [1]) [(6, -1, 0)] _ (by omega) (Steps.lit [(6, -1, 0)] (heap_alloc_new w5 _) rfl) (by simp [pfin, fin, after, toP, doOf, cl]) (by simp [pans, ans, after, toP, doOf, cl])).mono ?_
  rintro e w6 ⟨A6, c6, rfl, hc6, hI6, hb6⟩
  go_wp2_with fail
  refine (same_any A6 (some ⟨w6.heap.size, 0, none⟩) 1 c6 1 [1] _ (by omega) (hI6.keep (ext_new w6 _)) (Ints.lit [1] (heap_alloc_new w6 _) rfl)).mono ?_
  rintro e w7 ⟨rfl, m, rfl⟩
  go_wp2
  go_ret
  exact ⟨rfl, below_drewN (ext_alloc (ext_trans (ext_alloc hb5 _) hb6) _) m⟩
end Go.Proofs.Ytlenkaobojneeaa.P
namespace Go.Proofs.Ytlenkaobojneeaa
open Go.ChangeShapes Go.WideShapes Go.ChangeAt Go.RowKit
set_option linter.unusedVariables false
theorem own_fnPointsNowhere : ownKnob Try.prog.godebug = none := by kernel_rfl
theorem laidOut_fnPointsNowhere : laidOutB Try.prog = true := by kernel_rfl
set_option maxRecDepth 100000 in
theorem lifted_fnPointsNowhere (os : Os) (started : os.Started) (H : Type) (enc : TypeId × Value → H) :
    ReturnsInHanded {} Try.checked os 5 .any (Rows.fnPointsNowhereSpec.pre6 enc Try.prog Try.f5 Rows.fnPointsNowhereRow.domain false) (Rows.fnPointsNowhereSpec.post enc Try.prog Try.f5 false true false false) := by
  refine returnsInHanded_of_change (C := Try.checked) own_fnPointsNowhere started (by kernel_rfl) Try.func5
    (ChangeSpec.witness6 (enc := enc) (C := Try.checked) false ⟨#[], #[.slice none 0 0], []⟩ 8 (by kernel_rfl) (by kernel_rfl) (by kernel_rfl) (by kernel_rfl)) ?_
  intro W base args ds gs before hval0 hW hcnd _
  have hval : ∀ (j : Nat) t v, Try.f5.params[j]? = some t → args[j]? = some v → Value.okWide Try.prog W .any base t v := hval0
  have hW' := hW
  obtain ⟨p, q, hA0, hV, rfl, hfz, hnd⟩ := hW
  have hA : DataW.TrodAll enc Try.prog W 0 (fun _ => true) true Try.f5.params.toList args.toList ds p := hA0
  rw [Try.params5] at hA hval
  obtain ⟨v0, vs0, d0, ds0, p0, q0, hargs, rfl, rfl, h0, r0⟩ := trodAll_cons hA
  obtain ⟨rfl, rfl, rfl⟩ := trodAll_nil r0
  obtain rfl : args = #[v0] := by cases args; simp_all
  obtain ⟨rfl, rfl⟩ := trodVars_none hV
  obtain ⟨a0, len0, cap0, rfl⟩ := okWide_slice Try.underlying28 (hval 0 28 v0 rfl rfl)
  have k0 := h0
  have lt0 : ∀ x ∈ p0, x.block < W.heap.size := by obtain ⟨m, hm⟩ := k0; exact DataW.trod_lt m _ _ _ hm
  have hB : Bytes W a0 len0 := by
    obtain ⟨fuel, hf⟩ := h0
    rcases open_ints Try.underlying28 Try.underlying5 (by kernel_rfl) hf with ⟨hcs, _⟩ | ⟨x, l, c, zs, hcs, _, hl, hm, hz, _, hcell, hwz⟩
    · simp [Value.cells] at hcs
      obtain ⟨rfl, rfl, rfl⟩ := hcs
      exact Bytes.of_row (cap := 0) (zs := []) (.inl ⟨rfl, rfl, rfl, rfl⟩)
    · simp [Value.cells] at hcs
      obtain ⟨rfl, rfl, rfl⟩ := hcs
      exact Bytes.of_row (.inr ⟨_, rfl, hl, hm, by simpa using hz, hcell, hwz⟩)
  clear hA0 hval0
  refine (P.walk_PointsNowhere a0 len0 cap0 W hB).mono fun e W' ⟨he, bel⟩ => ?_
  subst he
  exact ⟨_, rfl, _, _, _, [], _, [], hW', trodAll_mk1 (shut_bool Try.underlying4 _), (trodAll_cons_mk (Below.trod laidOut_fnPointsNowhere (by kernel_rfl) (of_decide_eq_true (by kernel_rfl)) k0 bel lt0) trodAll_mk0), rfl, bel.frame _, fun h => by cases h⟩

theorem fnPointsNowhere_holds : Rows.FnPointsNowhereSaid :=
  OpenClaim.holds_of_wide 5 Try.f5 rfl rfl rfl rfl rfl rfl rfl ⟨rfl, rfl, rfl, rfl, rfl⟩ rfl rfl rfl rfl rfl (by kernel_rfl) Try.func5 (by kernel_rfl)
    (of_decide_eq_true (by kernel_rfl)) (by unfold Func.isWrapper; first | (rw [if_pos (by decide +kernel)]; kernel_rfl) | (rw [if_neg (by decide +kernel)]; exact ⟨rfl, rfl⟩))
    (fun os started H enc _ => lifted_fnPointsNowhere os started H enc)
#print axioms fnPointsNowhere_holds
end Go.Proofs.Ytlenkaobojneeaa
