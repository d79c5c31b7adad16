/-
  FnTruthCompared holds for every input: the first one of two comparisons, with true to become false, tells whether it was true; the second one, with false to become true, always sets it. No conditions.
-/
import Derived.Test.YtaifhckmcagkcaaRunB
import Derived.Test.YtaifhckmcagkcaaSpecB
import Derived.Test.YtaifhckmcagkcaaOpenB
import Derived.Test.YtaifhckmcagkcaaDrawBWalk
import Derived.Test.YtaifhckmcagkcaaCatB
namespace Go.Proofs.Ytaifhckmcagkcaa.B
open Go.ChangeShapes Go.WideShapes Go.ChangeAt Go.RowKit
set_option linter.unusedVariables false
set_option maxHeartbeats 4000000 in
theorem walk_TruthCompared (A : Option Addr) (n c : Nat) (w : World) (hB : Bytes w A n) :
    Calls Try.prog 4 #[.slice A n c] w fun e w' => e = .returned (.bool true) ∧ Below w.heap.size w w' := by
  go_enter Try.func4, Try.ntmps4
  go_wp2_with fail
  refine (draw_any A n c _ hB).mono ?_
  rintro e w1 ⟨A1, m1, c1, L1, A2, m2, c2, L2, rfl, hm1, hc1, hS1, hm2, hc2, hS2, hb1⟩
  have hS1a := hS1.keep (ext_new w1 (.cells #[] 32))
  go_wp2_with (first | (at_builtin; refine wp_scat rfl (.tmp 16) (.tmp 17) rfl (Gath.start w1 32 3) rfl rfl hS1a (by omega) ?_; intro v2 w2 hG2; rw [Nat.zero_add] at hG2) | (at_builtin; refine wp_scat rfl (.tmp 18) (.tmp 21) rfl (hG2.alloc _) rfl rfl (Steps.lit [(6, true, false), (6, false, true)] (heap_alloc_new w2 _) rfl) (by simp; omega) ?_; intro v3 w3 hG3))
  obtain ⟨A3, c3, rfl, hc3, hS3⟩ := Gath.steps (L := L1 ++ [(6, true, false), (6, false, true)]) (by rw [cellsOfL_append]; simpa using hG3)
  have hb3 := hG3.below
  have hf := cmp_two L1
  have hlen := ans_length false L1
  rw [hS1.1] at hlen
  generalize hfx : fin false L1 = x1 at hf
  generalize hzx : ans false L1 = z1 at hf hlen
  have HF := Lib.hid hf; clear hf
  have HX := Lib.hid hfx; clear hfx
  replace hS1 := hS1.keep hb3
  replace hb3 := ext_trans hb1 hb3
  clear hG2 hG3 hS1a hS2
  go_wp2_with fail
  refine (run_to (n := m1 + 2) (L1 ++ [(6, true, false), (6, false, true)]) _ (by omega) hS3 HF.out.1 HF.out.2).mono ?_
  rintro e w4 ⟨A4, c4, rfl, hc4, hI4, hb4⟩
  go_wp2_with fail
  refine (run_to (n := m1) (zs := z1) L1 _ (by omega) (hS1.keep hb4) HX.out hzx).mono ?_
  rintro e w5 ⟨A5, c5, rfl, hc5, hI5, hb5⟩
  replace hI4 := hI4.keep hb5
  obtain ⟨b4, o4, rfl, k4⟩ := hI4.2 m1 x1 (by rw [List.getElem?_append_right (by omega)]; simp [hlen])
  obtain ⟨b5, o5, e5, k5⟩ := hI4.2 (m1 + 1) true (by rw [List.getElem?_append_right (by omega)]; simp [hlen])
  injection e5 with e5
  injection e5 with e6 e7
  subst e6 e7
  have u1 : (0 : Int) ≤ (m1 : Int) := by omega
  clear hzx hlen
  go_wp2
  go_ret
  exact ⟨rfl, ext_trans (ext_trans hb3 hb4) hb5⟩
end Go.Proofs.Ytaifhckmcagkcaa.B
namespace Go.Proofs.Ytaifhckmcagkcaa
open Go.ChangeShapes Go.WideShapes Go.ChangeAt Go.RowKit
set_option linter.unusedVariables false
theorem own_fnTruthCompared : ownKnob Try.prog.godebug = none := by kernel_rfl
theorem laidOut_fnTruthCompared : laidOutB Try.prog = true := by kernel_rfl
set_option maxRecDepth 100000 in
theorem lifted_fnTruthCompared (os : Os) (started : os.Started) (H : Type) (enc : TypeId × Value → H) :
    ReturnsInHanded {} Try.checked os 4 .any (Rows.fnTruthComparedSpec.pre6 enc Try.prog Try.f4 Rows.fnTruthComparedRow.domain false) (Rows.fnTruthComparedSpec.post enc Try.prog Try.f4 false true false false) := by
  refine returnsInHanded_of_change (C := Try.checked) own_fnTruthCompared started (by kernel_rfl) Try.func4
    (ChangeSpec.witness6 (enc := enc) (C := Try.checked) false ⟨#[], #[.slice none 0 0], []⟩ 8 (by kernel_rfl) (by kernel_rfl) (by kernel_rfl) (by kernel_rfl)) ?_
  intro W base args ds gs before hval0 hW hcnd _
  have hval : ∀ (j : Nat) t v, Try.f4.params[j]? = some t → args[j]? = some v → Value.okWide Try.prog W .any base t v := hval0
  have hW' := hW
  obtain ⟨p, q, hA0, hV, rfl, hfz, hnd⟩ := hW
  have hA : DataW.TrodAll enc Try.prog W 0 (fun _ => true) true Try.f4.params.toList args.toList ds p := hA0
  rw [Try.params4] at hA hval
  obtain ⟨v0, vs0, d0, ds0, p0, q0, hargs, rfl, rfl, h0, r0⟩ := trodAll_cons hA
  obtain ⟨rfl, rfl, rfl⟩ := trodAll_nil r0
  obtain rfl : args = #[v0] := by cases args; simp_all
  obtain ⟨rfl, rfl⟩ := trodVars_none hV
  obtain ⟨a0, len0, cap0, rfl⟩ := okWide_slice Try.underlying28 (hval 0 28 v0 rfl rfl)
  have k0 := h0
  have lt0 : ∀ x ∈ p0, x.block < W.heap.size := by obtain ⟨m, hm⟩ := k0; exact DataW.trod_lt m _ _ _ hm
  have hB : Bytes W a0 len0 := by
    obtain ⟨fuel, hf⟩ := h0
    rcases open_ints Try.underlying28 Try.underlying5 (by kernel_rfl) hf with ⟨hcs, _⟩ | ⟨x, l, c, zs, hcs, _, hl, hm, hz, _, hcell, hwz⟩
    · simp [Value.cells] at hcs
      obtain ⟨rfl, rfl, rfl⟩ := hcs
      exact Bytes.of_row (cap := 0) (zs := []) (.inl ⟨rfl, rfl, rfl, rfl⟩)
    · simp [Value.cells] at hcs
      obtain ⟨rfl, rfl, rfl⟩ := hcs
      exact Bytes.of_row (.inr ⟨_, rfl, hl, hm, by simpa using hz, hcell, hwz⟩)
  clear hA0 hval0
  refine (B.walk_TruthCompared a0 len0 cap0 W hB).mono fun e W' ⟨he, bel⟩ => ?_
  subst he
  exact ⟨_, rfl, _, _, _, [], _, [], hW', trodAll_mk1 (shut_bool Try.underlying4 _), (trodAll_cons_mk (Below.trod laidOut_fnTruthCompared (by kernel_rfl) (of_decide_eq_true (by kernel_rfl)) k0 bel lt0) trodAll_mk0), rfl, bel.frame _, fun h => by cases h⟩

theorem fnTruthCompared_holds : Rows.FnTruthComparedSaid :=
  OpenClaim.holds_of_wide 4 Try.f4 rfl rfl rfl rfl rfl rfl rfl ⟨rfl, rfl, rfl, rfl, rfl⟩ rfl rfl rfl rfl rfl (by kernel_rfl) Try.func4 (by kernel_rfl)
    (of_decide_eq_true (by kernel_rfl)) (by unfold Func.isWrapper; first | (rw [if_pos (by decide +kernel)]; kernel_rfl) | (rw [if_neg (by decide +kernel)]; exact ⟨rfl, rfl⟩))
    (fun os started H enc _ => lifted_fnTruthCompared os started H enc)
#print axioms fnTruthCompared_holds
end Go.Proofs.Ytaifhckmcagkcaa
