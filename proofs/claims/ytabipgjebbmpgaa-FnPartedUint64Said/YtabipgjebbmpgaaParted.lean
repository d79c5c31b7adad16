/-
  FnPartedUint64 holds for every input: a value is what is left of it by a mask, with what is left by the mask of all other bits set again. No conditions.
-/
import Derived.Test.YtabipgjebbmpgaaAlive
import Derived.Test.YtabipgjebbmpgaaScript
import Derived.Test.YtabipgjebbmpgaaSpec
import Derived.Test.YtabipgjebbmpgaaOpen
import Derived.Test.YtabipgjebbmpgaaBits
namespace Go.Proofs.Ytabipgjebbmpgaa
open Go.ChangeShapes Go.WideShapes Go.ChangeAt Go.RowKit
set_option linter.unusedVariables false
set_option maxHeartbeats 2000000 in
theorem walk_Parted (A : Option Addr) (n c : Nat) (w : World) (hB : Bytes w A n) :
    Calls Try.prog 13 #[.slice A n c] w fun e w' => e = .returned (.bool true) ∧ Below w.heap.size w w' := by
  go_enter Try.func13, Try.ntmps13
  go_wp2_with fail
  refine (two_any A n c _ hB).mono ?_
  rintro e w1 ⟨xa, xb, xc, rfl, ha, hb, hc, hb1⟩
  have HA := Lib.hid ha; clear ha
  have HB := Lib.hid hb; clear hb
  have HC := Lib.hid hc; clear hc
  go_wp2_with fail
  refine (run_to (n := 2) (x := bits .and .u64 xa xb) (zs := [0, xa]) [(1, xa, 0), (3, xb, 0)] _ (by omega) (Steps.lit [(1, xa, 0), (3, xb, 0)] (heap_alloc_new w1 _) rfl) (by simp [fin, after, andK]) (by simp [ans, after])).mono ?_
  rintro e w2 ⟨A2, c2, rfl, hc2, hI2, hb2⟩
  have HP := Lib.hid (parted .u64 xa xb HA.out)
  have HQ := Lib.hid (apart_bits .u64 xa xb)
  go_wp2_with fail
  refine (run_to (n := 2) (x := bits .and .u64 xa (bits .xor .u64 (if IntKind.u64.signed then -1 else IntKind.u64.max) xb)) (zs := [0, xa]) [(1, xa, 0), (3, bits .xor .u64 (if IntKind.u64.signed then -1 else IntKind.u64.max) xb, 0)] _ (by omega) (Steps.lit [(1, xa, 0), (3, bits .xor .u64 (if IntKind.u64.signed then -1 else IntKind.u64.max) xb, 0)] (heap_alloc_new w2 _) rfl) (rfl) (rfl)).mono ?_
  rintro e w3 ⟨A3, c3, rfl, hc3, hI3, hb3⟩
  generalize bits .and .u64 xa (bits .xor .u64 (if IntKind.u64.signed then -1 else IntKind.u64.max) xb) = rest at HP HQ
  generalize bits .and .u64 xa xb = kept at HP HQ
  go_wp2_with fail
  refine (run_to (n := 2) (x := xa) (zs := [0, kept]) [(1, kept, 0), (4, rest, 0)] _ (by omega) (Steps.lit [(1, kept, 0), (4, rest, 0)] (heap_alloc_new w3 _) rfl) (by simp [fin, after, orK, HP.out]) (by simp [ans, after])).mono ?_
  rintro e w4 ⟨A4, c4, rfl, hc4, hI4, hb4⟩
  have hq := HQ.out
  go_wp2_with fail
  refine (alive_any _).mono ?_
  rintro e wz ⟨rfl, hbz⟩
  go_wp2
  go_ret
  exact ⟨rfl, ext_trans (ext_trans (ext_alloc (ext_trans (ext_alloc (ext_trans (ext_alloc hb1 _) hb2) _) hb3) _) hb4) hbz⟩
theorem own_fnPartedUint64 : ownKnob Try.prog.godebug = none := by kernel_rfl
theorem laidOut_fnPartedUint64 : laidOutB Try.prog = true := by kernel_rfl
set_option maxRecDepth 100000 in
theorem lifted_fnPartedUint64 (os : Os) (started : os.Started) (H : Type) (enc : TypeId × Value → H) :
    ReturnsInHanded {} Try.checked os 13 .any (Rows.fnPartedUint64Spec.pre6 enc Try.prog Try.f13 Rows.fnPartedUint64Row.domain false) (Rows.fnPartedUint64Spec.post enc Try.prog Try.f13 false true false false) := by
  refine returnsInHanded_of_change (C := Try.checked) own_fnPartedUint64 started (by kernel_rfl) Try.func13
    (ChangeSpec.witness6 (enc := enc) (C := Try.checked) false ⟨#[], #[.slice none 0 0], []⟩ 8 (by kernel_rfl) (by kernel_rfl) (by kernel_rfl) (by kernel_rfl)) ?_
  intro W base args ds gs before hval0 hW hcnd _
  have hval : ∀ (j : Nat) t v, Try.f13.params[j]? = some t → args[j]? = some v → Value.okWide Try.prog W .any base t v := hval0
  have hW' := hW
  obtain ⟨p, q, hA0, hV, rfl, hfz, hnd⟩ := hW
  have hA : DataW.TrodAll enc Try.prog W 0 (fun _ => true) true Try.f13.params.toList args.toList ds p := hA0
  rw [Try.params13] at hA hval
  obtain ⟨v0, vs0, d0, ds0, p0, q0, hargs, rfl, rfl, h0, r0⟩ := trodAll_cons hA
  obtain ⟨rfl, rfl, rfl⟩ := trodAll_nil r0
  obtain rfl : args = #[v0] := by cases args; simp_all
  obtain ⟨rfl, rfl⟩ := trodVars_none hV
  obtain ⟨a0, len0, cap0, rfl⟩ := okWide_slice Try.underlying29 (hval 0 29 v0 rfl rfl)
  have k0 := h0
  have lt0 : ∀ x ∈ p0, x.block < W.heap.size := by obtain ⟨m, hm⟩ := k0; exact DataW.trod_lt m _ _ _ hm
  have hB : Bytes W a0 len0 := by
    obtain ⟨fuel, hf⟩ := h0
    rcases open_ints Try.underlying29 Try.underlying5 (by kernel_rfl) hf with ⟨hcs, _⟩ | ⟨x, l, c, zs, hcs, _, hl, hm, hz, _, hcell, hwz⟩
    · simp [Value.cells] at hcs
      obtain ⟨rfl, rfl, rfl⟩ := hcs
      exact Bytes.of_row (cap := 0) (zs := []) (.inl ⟨rfl, rfl, rfl, rfl⟩)
    · simp [Value.cells] at hcs
      obtain ⟨rfl, rfl, rfl⟩ := hcs
      exact Bytes.of_row (.inr ⟨_, rfl, hl, hm, by simpa using hz, hcell, hwz⟩)
  clear hA0 hval0
  refine (walk_Parted a0 len0 cap0 W hB).mono fun e W' ⟨he, bel⟩ => ?_
  subst he
  exact ⟨_, rfl, _, _, _, [], _, [], hW', trodAll_mk1 (shut_bool Try.underlying4 _), (trodAll_cons_mk (Below.trod laidOut_fnPartedUint64 (by kernel_rfl) (of_decide_eq_true (by kernel_rfl)) k0 bel lt0) trodAll_mk0), rfl, bel.frame _, fun h => by cases h⟩

theorem fnPartedUint64_holds : Rows.FnPartedUint64Said :=
  OpenClaim.holds_of_wide 13 Try.f13 rfl rfl rfl rfl rfl rfl rfl ⟨rfl, rfl, rfl, rfl, rfl⟩ rfl rfl rfl rfl rfl (by kernel_rfl) Try.func13 (by kernel_rfl)
    (of_decide_eq_true (by kernel_rfl)) (by unfold Func.isWrapper; first | (rw [if_pos (by decide +kernel)]; kernel_rfl) | (rw [if_neg (by decide +kernel)]; exact ⟨rfl, rfl⟩))
    (fun os started H enc _ => lifted_fnPartedUint64 os started H enc)
#print axioms fnPartedUint64_holds
end Go.Proofs.Ytabipgjebbmpgaa
