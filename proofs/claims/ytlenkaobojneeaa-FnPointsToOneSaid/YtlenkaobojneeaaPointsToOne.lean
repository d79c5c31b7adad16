/-
  FnPointsToOne holds for every input: a pointer to one cell is not one to another cell, though both hold the same. No conditions.
-/
import Derived.Test.YtlenkaobojneeaaRunP
import Derived.Test.YtlenkaobojneeaaSpecP
import Derived.Test.YtlenkaobojneeaaOpen
import Derived.Test.YtlenkaobojneeaaDrawPWalk
import Derived.Test.YtlenkaobojneeaaCatP
namespace Go.Proofs.Ytlenkaobojneeaa.P
open Go.ChangeShapes Go.WideShapes Go.ChangeAt Go.RowKit
set_option linter.unusedVariables false
set_option maxHeartbeats 4000000 in
theorem walk_PointsToOne (A : Option Addr) (n c : Nat) (w : World) (hB : Bytes w A n) :
    Calls Try.prog 6 #[.slice A n c] w fun e w' => e = .returned (.bool true) ∧ Below w.heap.size w w' := by
  go_enter Try.func6, Try.ntmps6
  go_wp2_with fail
  refine (draw_any A n c _ hB).mono ?_
  rintro e w1 ⟨A1, m1, c1, L1, A2, m2, c2, L2, rfl, hm1, hc1, hS1, hm2, hc2, hS2, hb1⟩
  have hlenL := hS1.1
  clear hS2
  go_wp2_with fail
  go_loopw [5] (fun i wr => ∃ j : Nat, j ≤ 8 ∧ i = .int .i64 j ∧ Below w1.heap.size w1 wr) (fun i _ => 8 - (intOf i).toNat)
  case atStart => exact ⟨0, by omega, rfl, Below.refl _ _⟩
  case round =>
    obtain ⟨j, hj, rfl, hbr⟩ := hrel
    by_cases hlt : j < 8
    · obtain ⟨k, hk, hkj, hne⟩ : ∃ k : Nat, k < 8 ∧ ((j : Int) + 1) % 8 = (k : Int) ∧ ¬ (j : Int) = (k : Int) := by
        by_cases h7 : j = 7
        · subst h7; exact ⟨0, by omega, by omega, by omega⟩
        · exact ⟨j + 1, by omega, by omega, by omega⟩
      have HF := Lib.hid (one_fin L1 j k (by omega) (by omega) hne); clear hne
      have hS1r := hS1.keep hbr
      have hS1a := hS1r.keep (ext_new wr (.cells #[] 32))
      have hlz := pans_length L1
      rw [hlenL] at hlz
      go_wp2_with (first | (at_builtin; refine wp_scat rfl (.tmp 19) (.tmp 20) rfl (Gath.start wr 32 3) rfl rfl hS1a (by omega) ?_; intro v3 w3 hG3; rw [Nat.zero_add] at hG3) | (at_builtin; refine wp_scat rfl (.tmp 21) (.tmp 33) rfl (hG3.alloc _) rfl rfl (Steps.lit [(1, (j : Int), 0), (6, (k : Int), -1), (6, (j : Int), (k : Int))] (heap_alloc_new w3 _) (by first | rfl | simp [cellsOfL, cellsOf1, hkj])) (by simp; omega) ?_; intro v4 w4 hG4))
      obtain ⟨A4, c4, rfl, hc4, hS4⟩ := Gath.steps (k := .i64) (L := L1 ++ [(1, (j : Int), 0), (6, (k : Int), -1), (6, (j : Int), (k : Int))]) (by rw [cellsOfL_append]; simpa using hG4)
      have hb4 := ext_trans hbr hG4.below
      clear hG3 hG4 hS1r hS1a hbr
      refine (run_to (n := m1 + 3) (L1 ++ [(1, (j : Int), 0), (6, (k : Int), -1), (6, (j : Int), (k : Int))]) _ (by omega) hS4 HF.out.1 HF.out.2).mono ?_
      rintro e w5 ⟨A5, c5, rfl, hc5, hI5, hb5⟩
      replace hb5 := ext_trans hb4 hb5
      clear hb4 hS4 HF
      generalize pans L1 = z1 at hI5 hlz
      obtain ⟨b5, o5, rfl, d1⟩ := hI5.2 (m1 + 1) 0 (by rw [List.getElem?_append_right (by omega)]; simp [hlz])
      obtain ⟨b6, o6, e6, d2⟩ := hI5.2 (m1 + 2) 1 (by rw [List.getElem?_append_right (by omega)]; simp [hlz])
      injection e6 with e6
      injection e6 with e7 e8
      subst e7 e8
      have u1 := IntWalk.i64_in ((m1 : Int) + 1) (by omega)
      have u2 := IntWalk.i64_in ((m1 : Int) + 2) (by omega)
      have u3 := IntWalk.i64_in ((m1 : Int) + 3) (by omega)
      have i1 : (0 : Int) ≤ (m1 : Int) := by omega
      clear hI5 hlz
      go_wp2
      go_roundw
      case rel => exact ⟨j + 1, by omega, by go_num, hb5⟩
      case measure => simp [intOf]; omega
    · go_wp2
      go_ret
      exact ⟨rfl, ext_trans hb1 hbr⟩
end Go.Proofs.Ytlenkaobojneeaa.P
namespace Go.Proofs.Ytlenkaobojneeaa
open Go.ChangeShapes Go.WideShapes Go.ChangeAt Go.RowKit
set_option linter.unusedVariables false
theorem own_fnPointsToOne : ownKnob Try.prog.godebug = none := by kernel_rfl
theorem laidOut_fnPointsToOne : laidOutB Try.prog = true := by kernel_rfl
set_option maxRecDepth 100000 in
theorem lifted_fnPointsToOne (os : Os) (started : os.Started) (H : Type) (enc : TypeId × Value → H) :
    ReturnsInHanded {} Try.checked os 6 .any (Rows.fnPointsToOneSpec.pre6 enc Try.prog Try.f6 Rows.fnPointsToOneRow.domain false) (Rows.fnPointsToOneSpec.post enc Try.prog Try.f6 false true false false) := by
  refine returnsInHanded_of_change (C := Try.checked) own_fnPointsToOne started (by kernel_rfl) Try.func6
    (ChangeSpec.witness6 (enc := enc) (C := Try.checked) false ⟨#[], #[.slice none 0 0], []⟩ 8 (by kernel_rfl) (by kernel_rfl) (by kernel_rfl) (by kernel_rfl)) ?_
  intro W base args ds gs before hval0 hW hcnd _
  have hval : ∀ (j : Nat) t v, Try.f6.params[j]? = some t → args[j]? = some v → Value.okWide Try.prog W .any base t v := hval0
  have hW' := hW
  obtain ⟨p, q, hA0, hV, rfl, hfz, hnd⟩ := hW
  have hA : DataW.TrodAll enc Try.prog W 0 (fun _ => true) true Try.f6.params.toList args.toList ds p := hA0
  rw [Try.params6] at hA hval
  obtain ⟨v0, vs0, d0, ds0, p0, q0, hargs, rfl, rfl, h0, r0⟩ := trodAll_cons hA
  obtain ⟨rfl, rfl, rfl⟩ := trodAll_nil r0
  obtain rfl : args = #[v0] := by cases args; simp_all
  obtain ⟨rfl, rfl⟩ := trodVars_none hV
  obtain ⟨a0, len0, cap0, rfl⟩ := okWide_slice Try.underlying28 (hval 0 28 v0 rfl rfl)
  have k0 := h0
  have lt0 : ∀ x ∈ p0, x.block < W.heap.size := by obtain ⟨m, hm⟩ := k0; exact DataW.trod_lt m _ _ _ hm
  have hB : Bytes W a0 len0 := by
    obtain ⟨fuel, hf⟩ := h0
    rcases open_ints Try.underlying28 Try.underlying5 (by kernel_rfl) hf with ⟨hcs, _⟩ | ⟨x, l, c, zs, hcs, _, hl, hm, hz, _, hcell, hwz⟩
    · simp [Value.cells] at hcs
      obtain ⟨rfl, rfl, rfl⟩ := hcs
      exact Bytes.of_row (cap := 0) (zs := []) (.inl ⟨rfl, rfl, rfl, rfl⟩)
    · simp [Value.cells] at hcs
      obtain ⟨rfl, rfl, rfl⟩ := hcs
      exact Bytes.of_row (.inr ⟨_, rfl, hl, hm, by simpa using hz, hcell, hwz⟩)
  clear hA0 hval0
  refine (P.walk_PointsToOne a0 len0 cap0 W hB).mono fun e W' ⟨he, bel⟩ => ?_
  subst he
  exact ⟨_, rfl, _, _, _, [], _, [], hW', trodAll_mk1 (shut_bool Try.underlying4 _), (trodAll_cons_mk (Below.trod laidOut_fnPointsToOne (by kernel_rfl) (of_decide_eq_true (by kernel_rfl)) k0 bel lt0) trodAll_mk0), rfl, bel.frame _, fun h => by cases h⟩

theorem fnPointsToOne_holds : Rows.FnPointsToOneSaid :=
  OpenClaim.holds_of_wide 6 Try.f6 rfl rfl rfl rfl rfl rfl rfl ⟨rfl, rfl, rfl, rfl, rfl⟩ rfl rfl rfl rfl rfl (by kernel_rfl) Try.func6 (by kernel_rfl)
    (of_decide_eq_true (by kernel_rfl)) (by unfold Func.isWrapper; first | (rw [if_pos (by decide +kernel)]; kernel_rfl) | (rw [if_neg (by decide +kernel)]; exact ⟨rfl, rfl⟩))
    (fun os started H enc _ => lifted_fnPointsToOne os started H enc)
#print axioms fnPointsToOne_holds
end Go.Proofs.Ytlenkaobojneeaa
