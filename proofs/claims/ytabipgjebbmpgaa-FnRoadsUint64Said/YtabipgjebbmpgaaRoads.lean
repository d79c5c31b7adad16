/-
  FnRoadsUint64 holds for every input: both ways, by methods and by functions, have the same answers and the same value at last. No conditions.
-/
import Derived.Test.YtabipgjebbmpgaaAlive
import Derived.Test.YtabipgjebbmpgaaScript
import Derived.Test.YtabipgjebbmpgaaSpec
import Derived.Test.YtabipgjebbmpgaaOpen
import Derived.Test.YtabipgjebbmpgaaCalls
namespace Go.Proofs.Ytabipgjebbmpgaa
open Go.ChangeShapes Go.WideShapes Go.ChangeAt Go.RowKit
set_option linter.unusedVariables false
set_option maxHeartbeats 2000000 in
theorem walk_Roads (A : Option Addr) (n c : Nat) (w : World) (hB : Bytes w A n) :
    Calls Try.prog 14 #[.slice A n c] w fun e w' => e = .returned (.bool true) ∧ Below w.heap.size w w' := by
  go_enter Try.func14, Try.ntmps14
  go_wp2_with fail
  refine (draw_any A n c _ hB).mono ?_
  rintro e w1 ⟨A1, m1, c1, L1, A2, m2, c2, L2, rfl, hm1, hc1, hS1, hW1, hm2, hc2, hS2, hW2, hb1⟩
  have HW1 := Lib.hid hW1; clear hW1
  have HW2 := Lib.hid hW2; clear hW2
  go_wp2_with fail
  refine (run_any A1 m1 c1 L1 _ (by omega) hS1).mono ?_
  rintro e w2 ⟨A3, c3, rfl, hc3, hI3, hb2⟩
  go_wp2_with fail
  refine (calls_any A1 m1 c1 L1 _ (by omega) (hS1.keep hb2)).mono ?_
  rintro e w3 ⟨A4, c4, rfl, hc4, hI4, hb3⟩
  go_wp2_with fail
  refine (same_any A3 A4 m1 c3 c4 _ _ (by omega) (hI3.keep hb3) hI4).mono ?_
  rintro e w4 ⟨rfl, m, rfl⟩
  go_wp2_with fail
  refine (alive_any _).mono ?_
  rintro e wz ⟨rfl, hbz⟩
  go_wp2
  go_ret
  exact ⟨rfl, ext_trans (below_drewN (ext_trans (ext_trans hb1 hb2) hb3) m) hbz⟩
theorem own_fnRoadsUint64 : ownKnob Try.prog.godebug = none := by kernel_rfl
theorem laidOut_fnRoadsUint64 : laidOutB Try.prog = true := by kernel_rfl
set_option maxRecDepth 100000 in
theorem lifted_fnRoadsUint64 (os : Os) (started : os.Started) (H : Type) (enc : TypeId × Value → H) :
    ReturnsInHanded {} Try.checked os 14 .any (Rows.fnRoadsUint64Spec.pre6 enc Try.prog Try.f14 Rows.fnRoadsUint64Row.domain false) (Rows.fnRoadsUint64Spec.post enc Try.prog Try.f14 false true false false) := by
  refine returnsInHanded_of_change (C := Try.checked) own_fnRoadsUint64 started (by kernel_rfl) Try.func14
    (ChangeSpec.witness6 (enc := enc) (C := Try.checked) false ⟨#[], #[.slice none 0 0], []⟩ 8 (by kernel_rfl) (by kernel_rfl) (by kernel_rfl) (by kernel_rfl)) ?_
  intro W base args ds gs before hval0 hW hcnd _
  have hval : ∀ (j : Nat) t v, Try.f14.params[j]? = some t → args[j]? = some v → Value.okWide Try.prog W .any base t v := hval0
  have hW' := hW
  obtain ⟨p, q, hA0, hV, rfl, hfz, hnd⟩ := hW
  have hA : DataW.TrodAll enc Try.prog W 0 (fun _ => true) true Try.f14.params.toList args.toList ds p := hA0
  rw [Try.params14] at hA hval
  obtain ⟨v0, vs0, d0, ds0, p0, q0, hargs, rfl, rfl, h0, r0⟩ := trodAll_cons hA
  obtain ⟨rfl, rfl, rfl⟩ := trodAll_nil r0
  obtain rfl : args = #[v0] := by cases args; simp_all
  obtain ⟨rfl, rfl⟩ := trodVars_none hV
  obtain ⟨a0, len0, cap0, rfl⟩ := okWide_slice Try.underlying29 (hval 0 29 v0 rfl rfl)
  have k0 := h0
  have lt0 : ∀ x ∈ p0, x.block < W.heap.size := by obtain ⟨m, hm⟩ := k0; exact DataW.trod_lt m _ _ _ hm
  have hB : Bytes W a0 len0 := by
    obtain ⟨fuel, hf⟩ := h0
    rcases open_ints Try.underlying29 Try.underlying5 (by kernel_rfl) hf with ⟨hcs, _⟩ | ⟨x, l, c, zs, hcs, _, hl, hm, hz, _, hcell, hwz⟩
    · simp [Value.cells] at hcs
      obtain ⟨rfl, rfl, rfl⟩ := hcs
      exact Bytes.of_row (cap := 0) (zs := []) (.inl ⟨rfl, rfl, rfl, rfl⟩)
    · simp [Value.cells] at hcs
      obtain ⟨rfl, rfl, rfl⟩ := hcs
      exact Bytes.of_row (.inr ⟨_, rfl, hl, hm, by simpa using hz, hcell, hwz⟩)
  clear hA0 hval0
  refine (walk_Roads a0 len0 cap0 W hB).mono fun e W' ⟨he, bel⟩ => ?_
  subst he
  exact ⟨_, rfl, _, _, _, [], _, [], hW', trodAll_mk1 (shut_bool Try.underlying4 _), (trodAll_cons_mk (Below.trod laidOut_fnRoadsUint64 (by kernel_rfl) (of_decide_eq_true (by kernel_rfl)) k0 bel lt0) trodAll_mk0), rfl, bel.frame _, fun h => by cases h⟩

theorem fnRoadsUint64_holds : Rows.FnRoadsUint64Said :=
  OpenClaim.holds_of_wide 14 Try.f14 rfl rfl rfl rfl rfl rfl rfl ⟨rfl, rfl, rfl, rfl, rfl⟩ rfl rfl rfl rfl rfl (by kernel_rfl) Try.func14 (by kernel_rfl)
    (of_decide_eq_true (by kernel_rfl)) (by unfold Func.isWrapper; first | (rw [if_pos (by decide +kernel)]; kernel_rfl) | (rw [if_neg (by decide +kernel)]; exact ⟨rfl, rfl⟩))
    (fun os started H enc _ => lifted_fnRoadsUint64 os started H enc)
#print axioms fnRoadsUint64_holds
end Go.Proofs.Ytabipgjebbmpgaa
