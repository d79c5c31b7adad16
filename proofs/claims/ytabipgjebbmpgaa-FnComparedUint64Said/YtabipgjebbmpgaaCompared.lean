/-
  FnComparedUint64 holds for every input: compared with the value that is there, another one is set; compared with any other one, nothing is; and so it is once alone. No conditions.
-/
import Derived.Test.YtabipgjebbmpgaaAlive
import Derived.Test.YtabipgjebbmpgaaScript
import Derived.Test.YtabipgjebbmpgaaSpec
import Derived.Test.YtabipgjebbmpgaaOpen
import Derived.Test.YtabipgjebbmpgaaBits
namespace Go.Proofs.Ytabipgjebbmpgaa
open Go.ChangeShapes Go.WideShapes Go.ChangeAt Go.RowKit
set_option linter.unusedVariables false
set_option maxHeartbeats 2000000 in
theorem walk_Compared (A : Option Addr) (n c : Nat) (w : World) (hB : Bytes w A n) :
    Calls Try.prog 4 #[.slice A n c] w fun e w' => e = .returned (.bool true) ∧ Below w.heap.size w w' := by
  go_enter Try.func4, Try.ntmps4
  go_wp2_with fail
  refine (two_any A n c _ hB).mono ?_
  rintro e w1 ⟨xa, xb, xc, rfl, ha, hb, hc, hb1⟩
  have HA := Lib.hid ha; clear ha
  have HB := Lib.hid hb; clear hb
  have HC := Lib.hid hc; clear hc
  by_cases hac : xa = xc
  · subst hac
    by_cases hab : xa = xb
    · subst hab
      go_wp2_with fail
      refine (run_to (n := 3) (x := xa) (zs := [0, 1, 1]) [(1, xa, 0), (6, xa, xa), (6, xa, xa)] _ (by omega) (Steps.lit [(1, xa, 0), (6, xa, xa), (6, xa, xa)] (heap_alloc_new w1 _) rfl) (by simp [fin, after]) (by simp [ans, after])).mono ?_
      rintro e w2 ⟨A2, c2, rfl, hc2, hI2, hb2⟩
      go_wp2_with fail
      refine (run_to (n := 2) (x := xa) (zs := [0, 1]) [(1, xa, 0), (6, xa, xa)] _ (by omega) (Steps.lit [(1, xa, 0), (6, xa, xa)] (heap_alloc_new w2 _) rfl) (by simp [fin, after]) (by simp [ans, after])).mono ?_
      rintro e w3 ⟨A3, c3, rfl, hc3, hI3, hb3⟩
      replace hI2 := (hI2.keep (ext_new w2 _)).keep hb3
      obtain ⟨b1, o1, rfl, d1⟩ := hI2.2 1 _ rfl
      obtain ⟨b1', o1', e1, d2⟩ := hI2.2 2 _ rfl
      injection e1 with e1
      injection e1 with e1 e2
      subst e1 e2
      obtain ⟨b3, o3, rfl, d3⟩ := hI3.2 1 _ rfl
      go_wp2
      go_ret
      exact ⟨rfl, ext_trans (ext_alloc (ext_trans (ext_alloc hb1 _) hb2) _) hb3⟩
    · have f1 : (xa == xb) = false := by simpa using hab
      have f2 : (xb == xa) = false := by simpa using fun h => hab (by rw [h])
      go_wp2_with fail
      refine (run_to (n := 3) (x := xb) (zs := [0, 1, 1]) [(1, xa, 0), (6, xa, xa), (6, xa, xb)] _ (by omega) (Steps.lit [(1, xa, 0), (6, xa, xa), (6, xa, xb)] (heap_alloc_new w1 _) rfl) (by simp [fin, after]) (by simp [ans, after])).mono ?_
      rintro e w2 ⟨A2, c2, rfl, hc2, hI2, hb2⟩
      go_wp2_with fail
      refine (run_to (n := 2) (x := xa) (zs := [0, 0]) [(1, xa, 0), (6, xb, xa)] _ (by omega) (Steps.lit [(1, xa, 0), (6, xb, xa)] (heap_alloc_new w2 _) rfl) (by simp [fin, after, hab]) (by simp [ans, after, hab])).mono ?_
      rintro e w3 ⟨A3, c3, rfl, hc3, hI3, hb3⟩
      replace hI2 := (hI2.keep (ext_new w2 _)).keep hb3
      obtain ⟨b1, o1, rfl, d1⟩ := hI2.2 1 _ rfl
      obtain ⟨b1', o1', e1, d2⟩ := hI2.2 2 _ rfl
      injection e1 with e1
      injection e1 with e1 e2
      subst e1 e2
      obtain ⟨b3, o3, rfl, d3⟩ := hI3.2 1 _ rfl
      go_wp2
      go_ret
      exact ⟨rfl, ext_trans (ext_alloc (ext_trans (ext_alloc hb1 _) hb2) _) hb3⟩
  · have g0 : ¬ xc = xa := fun h => hac h.symm
    have g1 : (xa == xc) = false := by simpa using hac
    have g2 : (xc == xa) = false := by simpa using g0
    by_cases hab : xa = xb
    · subst hab
      go_wp2_with fail
      refine (run_to (n := 3) (x := xc) (zs := [0, 1, 0]) [(1, xa, 0), (6, xa, xc), (6, xa, xa)] _ (by omega) (Steps.lit [(1, xa, 0), (6, xa, xc), (6, xa, xa)] (heap_alloc_new w1 _) rfl) (by simp [fin, after, g0]) (by simp [ans, after, g0])).mono ?_
      rintro e w2 ⟨A2, c2, rfl, hc2, hI2, hb2⟩
      go_wp2_with fail
      refine (run_to (n := 2) (x := xc) (zs := [0, 1]) [(1, xa, 0), (6, xa, xc)] _ (by omega) (Steps.lit [(1, xa, 0), (6, xa, xc)] (heap_alloc_new w2 _) rfl) (by simp [fin, after]) (by simp [ans, after])).mono ?_
      rintro e w3 ⟨A3, c3, rfl, hc3, hI3, hb3⟩
      replace hI2 := (hI2.keep (ext_new w2 _)).keep hb3
      obtain ⟨b1, o1, rfl, d1⟩ := hI2.2 1 _ rfl
      obtain ⟨b1', o1', e1, d2⟩ := hI2.2 2 _ rfl
      injection e1 with e1
      injection e1 with e1 e2
      subst e1 e2
      obtain ⟨b3, o3, rfl, d3⟩ := hI3.2 1 _ rfl
      go_wp2
      go_ret
      exact ⟨rfl, ext_trans (ext_alloc (ext_trans (ext_alloc hb1 _) hb2) _) hb3⟩
    · have f1 : (xa == xb) = false := by simpa using hab
      have f2 : (xb == xa) = false := by simpa using fun h => hab (by rw [h])
      go_wp2_with fail
      refine (run_to (n := 3) (x := xc) (zs := [0, 1, 0]) [(1, xa, 0), (6, xa, xc), (6, xa, xb)] _ (by omega) (Steps.lit [(1, xa, 0), (6, xa, xc), (6, xa, xb)] (heap_alloc_new w1 _) rfl) (by simp [fin, after, g0]) (by simp [ans, after, g0])).mono ?_
      rintro e w2 ⟨A2, c2, rfl, hc2, hI2, hb2⟩
      go_wp2_with fail
      refine (run_to (n := 2) (x := xa) (zs := [0, 0]) [(1, xa, 0), (6, xb, xc)] _ (by omega) (Steps.lit [(1, xa, 0), (6, xb, xc)] (heap_alloc_new w2 _) rfl) (by simp [fin, after, hab]) (by simp [ans, after, hab])).mono ?_
      rintro e w3 ⟨A3, c3, rfl, hc3, hI3, hb3⟩
      replace hI2 := (hI2.keep (ext_new w2 _)).keep hb3
      obtain ⟨b1, o1, rfl, d1⟩ := hI2.2 1 _ rfl
      obtain ⟨b1', o1', e1, d2⟩ := hI2.2 2 _ rfl
      injection e1 with e1
      injection e1 with e1 e2
      subst e1 e2
      obtain ⟨b3, o3, rfl, d3⟩ := hI3.2 1 _ rfl
      go_wp2
      go_ret
      exact ⟨rfl, ext_trans (ext_alloc (ext_trans (ext_alloc hb1 _) hb2) _) hb3⟩
theorem own_fnComparedUint64 : ownKnob Try.prog.godebug = none := by kernel_rfl
theorem laidOut_fnComparedUint64 : laidOutB Try.prog = true := by kernel_rfl
set_option maxRecDepth 100000 in
theorem lifted_fnComparedUint64 (os : Os) (started : os.Started) (H : Type) (enc : TypeId × Value → H) :
    ReturnsInHanded {} Try.checked os 4 .any (Rows.fnComparedUint64Spec.pre6 enc Try.prog Try.f4 Rows.fnComparedUint64Row.domain false) (Rows.fnComparedUint64Spec.post enc Try.prog Try.f4 false true false false) := by
  refine returnsInHanded_of_change (C := Try.checked) own_fnComparedUint64 started (by kernel_rfl) Try.func4
    (ChangeSpec.witness6 (enc := enc) (C := Try.checked) false ⟨#[], #[.slice none 0 0], []⟩ 8 (by kernel_rfl) (by kernel_rfl) (by kernel_rfl) (by kernel_rfl)) ?_
  intro W base args ds gs before hval0 hW hcnd _
  have hval : ∀ (j : Nat) t v, Try.f4.params[j]? = some t → args[j]? = some v → Value.okWide Try.prog W .any base t v := hval0
  have hW' := hW
  obtain ⟨p, q, hA0, hV, rfl, hfz, hnd⟩ := hW
  have hA : DataW.TrodAll enc Try.prog W 0 (fun _ => true) true Try.f4.params.toList args.toList ds p := hA0
  rw [Try.params4] at hA hval
  obtain ⟨v0, vs0, d0, ds0, p0, q0, hargs, rfl, rfl, h0, r0⟩ := trodAll_cons hA
  obtain ⟨rfl, rfl, rfl⟩ := trodAll_nil r0
  obtain rfl : args = #[v0] := by cases args; simp_all
  obtain ⟨rfl, rfl⟩ := trodVars_none hV
  obtain ⟨a0, len0, cap0, rfl⟩ := okWide_slice Try.underlying29 (hval 0 29 v0 rfl rfl)
  have k0 := h0
  have lt0 : ∀ x ∈ p0, x.block < W.heap.size := by obtain ⟨m, hm⟩ := k0; exact DataW.trod_lt m _ _ _ hm
  have hB : Bytes W a0 len0 := by
    obtain ⟨fuel, hf⟩ := h0
    rcases open_ints Try.underlying29 Try.underlying5 (by kernel_rfl) hf with ⟨hcs, _⟩ | ⟨x, l, c, zs, hcs, _, hl, hm, hz, _, hcell, hwz⟩
    · simp [Value.cells] at hcs
      obtain ⟨rfl, rfl, rfl⟩ := hcs
      exact Bytes.of_row (cap := 0) (zs := []) (.inl ⟨rfl, rfl, rfl, rfl⟩)
    · simp [Value.cells] at hcs
      obtain ⟨rfl, rfl, rfl⟩ := hcs
      exact Bytes.of_row (.inr ⟨_, rfl, hl, hm, by simpa using hz, hcell, hwz⟩)
  clear hA0 hval0
  refine (walk_Compared a0 len0 cap0 W hB).mono fun e W' ⟨he, bel⟩ => ?_
  subst he
  exact ⟨_, rfl, _, _, _, [], _, [], hW', trodAll_mk1 (shut_bool Try.underlying4 _), (trodAll_cons_mk (Below.trod laidOut_fnComparedUint64 (by kernel_rfl) (of_decide_eq_true (by kernel_rfl)) k0 bel lt0) trodAll_mk0), rfl, bel.frame _, fun h => by cases h⟩

theorem fnComparedUint64_holds : Rows.FnComparedUint64Said :=
  OpenClaim.holds_of_wide 4 Try.f4 rfl rfl rfl rfl rfl rfl rfl ⟨rfl, rfl, rfl, rfl, rfl⟩ rfl rfl rfl rfl rfl (by kernel_rfl) Try.func4 (by kernel_rfl)
    (of_decide_eq_true (by kernel_rfl)) (by unfold Func.isWrapper; first | (rw [if_pos (by decide +kernel)]; kernel_rfl) | (rw [if_neg (by decide +kernel)]; exact ⟨rfl, rfl⟩))
    (fun os started H enc _ => lifted_fnComparedUint64 os started H enc)
#print axioms fnComparedUint64_holds
end Go.Proofs.Ytabipgjebbmpgaa
