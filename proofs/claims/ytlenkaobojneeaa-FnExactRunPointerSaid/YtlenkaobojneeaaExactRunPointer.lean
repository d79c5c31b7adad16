/-
  FnExactRunPointer holds for every script: all answers, and the cell at last, equal the reference. No conditions.
-/
import Derived.Test.YtlenkaobojneeaaRunP
import Derived.Test.YtlenkaobojneeaaSpecP
import Derived.Test.YtlenkaobojneeaaOpen
namespace Go.Proofs.Ytlenkaobojneeaa.P
open Go.ChangeShapes Go.WideShapes Go.ChangeAt Go.RowKit
set_option linter.unusedVariables false
theorem walk_ExactRunPointer (A : Option Addr) (n c : Nat) (L : List Step) (w : World) (hn : n ≤ 8796093022208) (hL : Steps .i64 w A n L) :
    Calls Try.prog 3 #[.slice A n c] w fun e w' => e = .returned (.bool true) ∧ Below w.heap.size w w' := by
  go_enter Try.func3, Try.ntmps3
  go_wp2_with fail
  refine (run_any A n c L _ hn hL).mono ?_
  rintro e w1 ⟨A1, c1, rfl, hc1, hI1, hb1⟩
  go_wp2_with fail
  refine (spec_any A n c L _ hn (hL.keep hb1)).mono ?_
  rintro e w2 ⟨A2, c2, rfl, hc2, hI2, hb2⟩
  go_wp2_with fail
  refine (same_any A1 A2 n c1 c2 _ _ (by omega) (hI1.keep hb2) hI2).mono ?_
  rintro e w3 ⟨rfl, m, rfl⟩
  go_wp2
  go_ret
  exact ⟨rfl, below_drewN (below_into hb1 hb1.size hb2) m⟩
end Go.Proofs.Ytlenkaobojneeaa.P
namespace Go.Proofs.Ytlenkaobojneeaa
open Go.ChangeShapes Go.WideShapes Go.ChangeAt Go.RowKit
set_option linter.unusedVariables false
theorem own_fnExactRunPointer : ownKnob Try.prog.godebug = none := by kernel_rfl
theorem laidOut_fnExactRunPointer : laidOutB Try.prog = true := by kernel_rfl
set_option maxRecDepth 100000 in
theorem lifted_fnExactRunPointer (os : Os) (started : os.Started) (H : Type) (enc : TypeId × Value → H) :
    ReturnsInHanded {} Try.checked os 3 .any (Rows.fnExactRunPointerSpec.pre6 enc Try.prog Try.f3 Rows.fnExactRunPointerRow.domain false) (Rows.fnExactRunPointerSpec.post enc Try.prog Try.f3 false true false false) := by
  refine returnsInHanded_of_change_sized (C := Try.checked) own_fnExactRunPointer started (by kernel_rfl) Try.func3
    (ChangeSpec.witness6 (enc := enc) (C := Try.checked) false ⟨#[], #[.slice none 0 0], []⟩ 8 (by kernel_rfl) (by kernel_rfl) (by kernel_rfl) (by kernel_rfl)) ?_
  intro W base args ds gs before hval0 hW hcnd hsz0 _
  have hval : ∀ (j : Nat) t v, Try.f3.params[j]? = some t → args[j]? = some v → Value.okWide Try.prog W .any base t v := hval0
  have hsz : (DataW.weightsEach Try.prog (Try.f3.params.toList ++ Rows.fnExactRunPointerSpec.plain.varTypes Try.prog) (ds ++ gs)).all (· ≤ reachBytes) = true := hsz0
  have hW' := hW
  obtain ⟨p, q, hA0, hV, rfl, hfz, hnd⟩ := hW
  have hA : DataW.TrodAll enc Try.prog W 0 (fun _ => true) true Try.f3.params.toList args.toList ds p := hA0
  rw [Try.params3] at hA hval hsz
  obtain ⟨v0, vs0, d0, ds0, p0, q0, hargs, rfl, rfl, h0, r0⟩ := trodAll_cons hA
  obtain ⟨rfl, rfl, rfl⟩ := trodAll_nil r0
  obtain rfl : args = #[v0] := by cases args; simp_all
  obtain ⟨rfl, rfl⟩ := trodVars_none hV
  obtain ⟨a0, len0, cap0, rfl⟩ := okWide_slice Try.underlying22 (hval 0 22 v0 rfl rfl)
  have k0 := h0
  have lt0 : ∀ x ∈ p0, x.block < W.heap.size := by obtain ⟨m, hm⟩ := k0; exact DataW.trod_lt m _ _ _ hm
  obtain ⟨L, hL, hn⟩ : ∃ L, Steps .i64 W a0 len0 L ∧ len0 ≤ 8796093022208 := by
    obtain ⟨fuel, hf⟩ := h0
    obtain ⟨A, len, cap, L, hcs, hL, _, _, hd⟩ := open_steps Try.underlying22 Try.underlying32 (by kernel_rfl) ⟨rfl, rfl, rfl, rfl, rfl, rfl⟩ Try.underlying3 Try.underlying3 (by kernel_rfl) (by kernel_rfl) hf
    simp [Value.cells] at hcs
    obtain ⟨rfl, rfl, rfl⟩ := hcs
    refine ⟨L, hL, ?_⟩
    rcases hd with hd | ⟨es, sp, hd, hle⟩
    · omega
    · have hd' : d0 = .slice es sp := hd
      subst hd'
      have := sized_slice hsz (j := 0) (t := 22) (e := 32) rfl rfl Try.underlying22
      rw [show Try.prog.bytesOf 32 = 24 from by kernel_rfl] at this
      simp only [reachBytes] at this
      omega
  clear hA0 hval0
  refine (P.walk_ExactRunPointer a0 len0 cap0 L W hn hL).mono fun e W' ⟨he, bel⟩ => ?_
  subst he
  exact ⟨_, rfl, _, _, _, [], _, [], hW', trodAll_mk1 (shut_bool Try.underlying4 _), (trodAll_cons_mk (Below.trod laidOut_fnExactRunPointer (by kernel_rfl) (of_decide_eq_true (by kernel_rfl)) k0 bel lt0) trodAll_mk0), rfl, bel.frame _, fun h => by cases h⟩

theorem fnExactRunPointer_holds : Rows.FnExactRunPointerSaid :=
  OpenClaim.holds_of_wide 3 Try.f3 rfl rfl rfl rfl rfl rfl rfl ⟨rfl, rfl, rfl, rfl, rfl⟩ rfl rfl rfl rfl rfl (by kernel_rfl) Try.func3 (by kernel_rfl)
    (of_decide_eq_true (by kernel_rfl)) (by unfold Func.isWrapper; first | (rw [if_pos (by decide +kernel)]; kernel_rfl) | (rw [if_neg (by decide +kernel)]; exact ⟨rfl, rfl⟩))
    (fun os started H enc _ => lifted_fnExactRunPointer os started H enc)
#print axioms fnExactRunPointer_holds
end Go.Proofs.Ytlenkaobojneeaa
