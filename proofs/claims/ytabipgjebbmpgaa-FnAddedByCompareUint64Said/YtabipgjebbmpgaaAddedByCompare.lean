/-
  FnAddedByCompareUint64 holds for every input: to add is to load, and then to compare with what was loaded and to set the sum. No conditions.
-/
import Derived.Test.YtabipgjebbmpgaaAlive
import Derived.Test.YtabipgjebbmpgaaScript
import Derived.Test.YtabipgjebbmpgaaSpec
import Derived.Test.YtabipgjebbmpgaaOpen
import Derived.Test.YtabipgjebbmpgaaBits
namespace Go.Proofs.Ytabipgjebbmpgaa
open Go.ChangeShapes Go.WideShapes Go.ChangeAt Go.RowKit
set_option linter.unusedVariables false
set_option maxHeartbeats 2000000 in
theorem walk_AddedByCompare (A : Option Addr) (n c : Nat) (w : World) (hB : Bytes w A n) :
    Calls Try.prog 8 #[.slice A n c] w fun e w' => e = .returned (.bool true) ∧ Below w.heap.size w w' := by
  go_enter Try.func8, Try.ntmps8
  go_wp2_with fail
  refine (draw_any A n c _ hB).mono ?_
  rintro e w1 ⟨A1, m1, c1, L1, A2, m2, c2, L2, rfl, hm1, hc1, hS1, hW1, hm2, hc2, hS2, hW2, hb1⟩
  have HW1 := Lib.hid hW1; clear hW1
  have HW2 := Lib.hid hW2; clear hW2
  go_wp2_with fail
  go_loopw [5, 6] (fun x i wr => ∃ (j : Nat) (x0 : Int), j ≤ m1 ∧ i = .int .i64 j ∧ x = .int .u64 x0 ∧ Below w1.heap.size w1 wr) (fun _ i _ => m1 - (intOf i).toNat)
  case atStart => exact ⟨0, 0, by omega, rfl, rfl, Below.refl _ _⟩
  case round =>
    obtain ⟨j, x0, hj, rfl, rfl, hbr⟩ := hrel
    by_cases hlt : j < m1
    · obtain ⟨⟨d, y, z⟩, hs⟩ : ∃ s, L1[j]? = some s := ⟨_, List.getElem?_eq_getElem (by rw [hS1.1]; exact hlt)⟩
      obtain ⟨b, off, rfl, c0, q1, q2⟩ := hS1.2 j _ hs
      clear hs c0 q2
      have q1r := cell_kept hbr q1
      have hpf : fin .u64 0 [(1, x0, 0), (6, x0, IntKind.u64.wrap (x0 + y))] = IntKind.u64.wrap (x0 + y) := by simp [fin, after]
      have hpz : ans .u64 0 [(1, x0, 0), (6, x0, IntKind.u64.wrap (x0 + y))] = [0, 1] := by simp [ans, after]
      have hqf : fin .u64 0 [(1, x0, 0), (2, y, 0)] = IntKind.u64.wrap (x0 + y) := by simp only [fin, after_store, after_add]; exact rfl
      have HPF := Lib.hid hpf; clear hpf
      have HPZ := Lib.hid hpz; clear hpz
      have HQF := Lib.hid hqf; clear hqf
      go_wp2_with fail
      refine (run_to (n := 2) [(1, x0, 0), (6, x0, IntKind.u64.wrap (x0 + y))] _ (by omega) (Steps.lit [(1, x0, 0), (6, x0, IntKind.u64.wrap (x0 + y))] (heap_alloc_new wr _) rfl) HPF.out HPZ.out).mono ?_
      rintro e w2 ⟨A3, c3, rfl, hc3, hI3, hb2⟩
      replace hb2 := ext_trans (ext_alloc hbr _) hb2
      have q1s := cell_kept hb2 q1
      clear q1r hbr
      go_wp2_with fail
      refine (run_to (n := 2) [(1, x0, 0), (2, y, 0)] _ (by omega) (Steps.lit [(1, x0, 0), (2, y, 0)] (heap_alloc_new w2 _) rfl) HQF.out rfl).mono ?_
      rintro e w3 ⟨A4, c4, rfl, hc4, hI4, hb3⟩
      replace hI3 := (hI3.keep (ext_new w2 _)).keep hb3
      obtain ⟨b3, o3, rfl, d3⟩ := hI3.2 1 _ rfl
      replace hb3 := ext_trans (ext_alloc hb2 _) hb3
      clear hI3 hI4 HPF HPZ HQF q1s hb2
      generalize IntKind.u64.wrap (x0 + y) = x1
      go_wp2
      go_roundw
      case rel => exact ⟨j + 1, x1, by omega, by go_num, rfl, hb3⟩
      case measure => simp [intOf]; omega
    · go_wp2_with fail
      refine (alive_any _).mono ?_
      rintro e wz ⟨rfl, hbz⟩
      go_wp2
      go_ret
      exact ⟨rfl, ext_trans (ext_trans hb1 hbr) hbz⟩
theorem own_fnAddedByCompareUint64 : ownKnob Try.prog.godebug = none := by kernel_rfl
theorem laidOut_fnAddedByCompareUint64 : laidOutB Try.prog = true := by kernel_rfl
set_option maxRecDepth 100000 in
theorem lifted_fnAddedByCompareUint64 (os : Os) (started : os.Started) (H : Type) (enc : TypeId × Value → H) :
    ReturnsInHanded {} Try.checked os 8 .any (Rows.fnAddedByCompareUint64Spec.pre6 enc Try.prog Try.f8 Rows.fnAddedByCompareUint64Row.domain false) (Rows.fnAddedByCompareUint64Spec.post enc Try.prog Try.f8 false true false false) := by
  refine returnsInHanded_of_change (C := Try.checked) own_fnAddedByCompareUint64 started (by kernel_rfl) Try.func8
    (ChangeSpec.witness6 (enc := enc) (C := Try.checked) false ⟨#[], #[.slice none 0 0], []⟩ 8 (by kernel_rfl) (by kernel_rfl) (by kernel_rfl) (by kernel_rfl)) ?_
  intro W base args ds gs before hval0 hW hcnd _
  have hval : ∀ (j : Nat) t v, Try.f8.params[j]? = some t → args[j]? = some v → Value.okWide Try.prog W .any base t v := hval0
  have hW' := hW
  obtain ⟨p, q, hA0, hV, rfl, hfz, hnd⟩ := hW
  have hA : DataW.TrodAll enc Try.prog W 0 (fun _ => true) true Try.f8.params.toList args.toList ds p := hA0
  rw [Try.params8] at hA hval
  obtain ⟨v0, vs0, d0, ds0, p0, q0, hargs, rfl, rfl, h0, r0⟩ := trodAll_cons hA
  obtain ⟨rfl, rfl, rfl⟩ := trodAll_nil r0
  obtain rfl : args = #[v0] := by cases args; simp_all
  obtain ⟨rfl, rfl⟩ := trodVars_none hV
  obtain ⟨a0, len0, cap0, rfl⟩ := okWide_slice Try.underlying29 (hval 0 29 v0 rfl rfl)
  have k0 := h0
  have lt0 : ∀ x ∈ p0, x.block < W.heap.size := by obtain ⟨m, hm⟩ := k0; exact DataW.trod_lt m _ _ _ hm
  have hB : Bytes W a0 len0 := by
    obtain ⟨fuel, hf⟩ := h0
    rcases open_ints Try.underlying29 Try.underlying5 (by kernel_rfl) hf with ⟨hcs, _⟩ | ⟨x, l, c, zs, hcs, _, hl, hm, hz, _, hcell, hwz⟩
    · simp [Value.cells] at hcs
      obtain ⟨rfl, rfl, rfl⟩ := hcs
      exact Bytes.of_row (cap := 0) (zs := []) (.inl ⟨rfl, rfl, rfl, rfl⟩)
    · simp [Value.cells] at hcs
      obtain ⟨rfl, rfl, rfl⟩ := hcs
      exact Bytes.of_row (.inr ⟨_, rfl, hl, hm, by simpa using hz, hcell, hwz⟩)
  clear hA0 hval0
  refine (walk_AddedByCompare a0 len0 cap0 W hB).mono fun e W' ⟨he, bel⟩ => ?_
  subst he
  exact ⟨_, rfl, _, _, _, [], _, [], hW', trodAll_mk1 (shut_bool Try.underlying4 _), (trodAll_cons_mk (Below.trod laidOut_fnAddedByCompareUint64 (by kernel_rfl) (of_decide_eq_true (by kernel_rfl)) k0 bel lt0) trodAll_mk0), rfl, bel.frame _, fun h => by cases h⟩

theorem fnAddedByCompareUint64_holds : Rows.FnAddedByCompareUint64Said :=
  OpenClaim.holds_of_wide 8 Try.f8 rfl rfl rfl rfl rfl rfl rfl ⟨rfl, rfl, rfl, rfl, rfl⟩ rfl rfl rfl rfl rfl (by kernel_rfl) Try.func8 (by kernel_rfl)
    (of_decide_eq_true (by kernel_rfl)) (by unfold Func.isWrapper; first | (rw [if_pos (by decide +kernel)]; kernel_rfl) | (rw [if_neg (by decide +kernel)]; exact ⟨rfl, rfl⟩))
    (fun os started H enc _ => lifted_fnAddedByCompareUint64 os started H enc)
#print axioms fnAddedByCompareUint64_holds
end Go.Proofs.Ytabipgjebbmpgaa
