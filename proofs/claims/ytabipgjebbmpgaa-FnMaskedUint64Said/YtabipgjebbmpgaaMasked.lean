/-
  FnMaskedUint64 holds for every input: to keep the bits of a mask, and then to set those of another one, leaves what plain operations do. No conditions.
-/
import Derived.Test.YtabipgjebbmpgaaAlive
import Derived.Test.YtabipgjebbmpgaaScript
import Derived.Test.YtabipgjebbmpgaaSpec
import Derived.Test.YtabipgjebbmpgaaOpen
import Derived.Test.YtabipgjebbmpgaaBits
namespace Go.Proofs.Ytabipgjebbmpgaa
open Go.ChangeShapes Go.WideShapes Go.ChangeAt Go.RowKit
set_option linter.unusedVariables false
set_option maxHeartbeats 2000000 in
theorem walk_Masked (A : Option Addr) (n c : Nat) (w : World) (hB : Bytes w A n) :
    Calls Try.prog 12 #[.slice A n c] w fun e w' => e = .returned (.bool true) ∧ Below w.heap.size w w' := by
  go_enter Try.func12, Try.ntmps12
  go_wp2_with fail
  refine (two_any A n c _ hB).mono ?_
  rintro e w1 ⟨xa, xb, xc, rfl, ha, hb, hc, hb1⟩
  have HA := Lib.hid ha; clear ha
  have HB := Lib.hid hb; clear hb
  have HC := Lib.hid hc; clear hc
  go_wp2_with fail
  refine (run_to (n := 5) (x := bits .or .u64 (bits .and .u64 xa xb) xc) (zs := [0, xa, bits .and .u64 xa xb, bits .or .u64 (bits .and .u64 xa xb) xc, bits .or .u64 (bits .and .u64 xa xb) xc]) [(1, xa, 0), (3, xb, 0), (4, xc, 0), (4, xc, 0), (0, 0, 0)] _ (by omega) (Steps.lit [(1, xa, 0), (3, xb, 0), (4, xc, 0), (4, xc, 0), (0, 0, 0)] (heap_alloc_new w1 _) rfl) (by simp [fin, after, andK, orK, or_again]) (by simp [ans, after, andK, orK, or_again])).mono ?_
  rintro e w2 ⟨A2, c2, rfl, hc2, hI2, hb2⟩
  go_wp2_with fail
  refine (same_any A2 (some ⟨w2.heap.size, 0, none⟩) 5 c2 5 [0, xa, bits .and .u64 xa xb, bits .or .u64 (bits .and .u64 xa xb) xc, bits .or .u64 (bits .and .u64 xa xb) xc] _ (by omega) (hI2.keep (ext_new w2 _)) (Ints.lit [0, xa, bits .and .u64 xa xb, bits .or .u64 (bits .and .u64 xa xb) xc, bits .or .u64 (bits .and .u64 xa xb) xc] (heap_alloc_new w2 _) rfl)).mono ?_
  rintro e w3 ⟨rfl, m, rfl⟩
  go_wp2_with fail
  refine (alive_any _).mono ?_
  rintro e wz ⟨rfl, hbz⟩
  go_wp2
  go_ret
  exact ⟨rfl, ext_trans (below_drewN (ext_alloc (ext_trans (ext_alloc hb1 _) hb2) _) m) hbz⟩
theorem own_fnMaskedUint64 : ownKnob Try.prog.godebug = none := by kernel_rfl
theorem laidOut_fnMaskedUint64 : laidOutB Try.prog = true := by kernel_rfl
set_option maxRecDepth 100000 in
theorem lifted_fnMaskedUint64 (os : Os) (started : os.Started) (H : Type) (enc : TypeId × Value → H) :
    ReturnsInHanded {} Try.checked os 12 .any (Rows.fnMaskedUint64Spec.pre6 enc Try.prog Try.f12 Rows.fnMaskedUint64Row.domain false) (Rows.fnMaskedUint64Spec.post enc Try.prog Try.f12 false true false false) := by
  refine returnsInHanded_of_change (C := Try.checked) own_fnMaskedUint64 started (by kernel_rfl) Try.func12
    (ChangeSpec.witness6 (enc := enc) (C := Try.checked) false ⟨#[], #[.slice none 0 0], []⟩ 8 (by kernel_rfl) (by kernel_rfl) (by kernel_rfl) (by kernel_rfl)) ?_
  intro W base args ds gs before hval0 hW hcnd _
  have hval : ∀ (j : Nat) t v, Try.f12.params[j]? = some t → args[j]? = some v → Value.okWide Try.prog W .any base t v := hval0
  have hW' := hW
  obtain ⟨p, q, hA0, hV, rfl, hfz, hnd⟩ := hW
  have hA : DataW.TrodAll enc Try.prog W 0 (fun _ => true) true Try.f12.params.toList args.toList ds p := hA0
  rw [Try.params12] at hA hval
  obtain ⟨v0, vs0, d0, ds0, p0, q0, hargs, rfl, rfl, h0, r0⟩ := trodAll_cons hA
  obtain ⟨rfl, rfl, rfl⟩ := trodAll_nil r0
  obtain rfl : args = #[v0] := by cases args; simp_all
  obtain ⟨rfl, rfl⟩ := trodVars_none hV
  obtain ⟨a0, len0, cap0, rfl⟩ := okWide_slice Try.underlying29 (hval 0 29 v0 rfl rfl)
  have k0 := h0
  have lt0 : ∀ x ∈ p0, x.block < W.heap.size := by obtain ⟨m, hm⟩ := k0; exact DataW.trod_lt m _ _ _ hm
  have hB : Bytes W a0 len0 := by
    obtain ⟨fuel, hf⟩ := h0
    rcases open_ints Try.underlying29 Try.underlying5 (by kernel_rfl) hf with ⟨hcs, _⟩ | ⟨x, l, c, zs, hcs, _, hl, hm, hz, _, hcell, hwz⟩
    · simp [Value.cells] at hcs
      obtain ⟨rfl, rfl, rfl⟩ := hcs
      exact Bytes.of_row (cap := 0) (zs := []) (.inl ⟨rfl, rfl, rfl, rfl⟩)
    · simp [Value.cells] at hcs
      obtain ⟨rfl, rfl, rfl⟩ := hcs
      exact Bytes.of_row (.inr ⟨_, rfl, hl, hm, by simpa using hz, hcell, hwz⟩)
  clear hA0 hval0
  refine (walk_Masked a0 len0 cap0 W hB).mono fun e W' ⟨he, bel⟩ => ?_
  subst he
  exact ⟨_, rfl, _, _, _, [], _, [], hW', trodAll_mk1 (shut_bool Try.underlying4 _), (trodAll_cons_mk (Below.trod laidOut_fnMaskedUint64 (by kernel_rfl) (of_decide_eq_true (by kernel_rfl)) k0 bel lt0) trodAll_mk0), rfl, bel.frame _, fun h => by cases h⟩

theorem fnMaskedUint64_holds : Rows.FnMaskedUint64Said :=
  OpenClaim.holds_of_wide 12 Try.f12 rfl rfl rfl rfl rfl rfl rfl ⟨rfl, rfl, rfl, rfl, rfl⟩ rfl rfl rfl rfl rfl (by kernel_rfl) Try.func12 (by kernel_rfl)
    (of_decide_eq_true (by kernel_rfl)) (by unfold Func.isWrapper; first | (rw [if_pos (by decide +kernel)]; kernel_rfl) | (rw [if_neg (by decide +kernel)]; exact ⟨rfl, rfl⟩))
    (fun os started H enc _ => lifted_fnMaskedUint64 os started H enc)
#print axioms fnMaskedUint64_holds
end Go.Proofs.Ytabipgjebbmpgaa
