/-
  FnTruthEmpty holds for every input: a truth is false at first; what was stored is loaded; and what is exchanged comes out. No conditions.
-/
import Derived.Test.YtaifhckmcagkcaaRunB
import Derived.Test.YtaifhckmcagkcaaSpecB
import Derived.Test.YtaifhckmcagkcaaOpenB
import Derived.Test.YtaifhckmcagkcaaDrawBWalk
namespace Go.Proofs.Ytaifhckmcagkcaa.B
open Go.ChangeShapes Go.WideShapes Go.ChangeAt Go.RowKit
set_option linter.unusedVariables false
set_option maxHeartbeats 4000000 in
theorem walk_TruthEmpty (A : Option Addr) (n c : Nat) (w : World) (hB : Bytes w A n) :
    Calls Try.prog 5 #[.slice A n c] w fun e w' => e = .returned (.bool true) ∧ Below w.heap.size w w' := by
  go_enter Try.func5, Try.ntmps5
  go_wp2_with fail
  refine (draw_any A n c _ hB).mono ?_
  rintro e w1 ⟨A1, m1, c1, L1, A2, m2, c2, L2, rfl, hm1, hc1, hS1, hm2, hc2, hS2, hb1⟩
  go_wp2_with fail
  refine (run_to (n := 0) [] _ (by omega) (Steps.nil _ _) rfl rfl).mono ?_
  rintro e w2 ⟨A3, c3, rfl, hc3, hI3, hb2⟩
  replace hS1 := hS1.keep hb2
  by_cases h0 : m1 = 0
  · subst h0
    go_wp2_with fail
    refine (run_to (n := 4) (x := true) (zs := [false, false, false, true]) [(0, false, false), (1, false, false), (5, true, false), (0, false, false)] _ (by omega) (Steps.lit [(0, false, false), (1, false, false), (5, true, false), (0, false, false)] (heap_alloc_new w2 _) rfl) (by simp [fin, after]) (by simp [ans, after])).mono ?_
    rintro e w3 ⟨A4, c4, rfl, hc4, hI4, hb3⟩
    go_wp2_with fail
    refine (same_any A4 (some ⟨w3.heap.size, 0, none⟩) 4 c4 4 [false, false, false, true] _ (by omega) (hI4.keep (ext_new w3 _)) (Bools.lit [false, false, false, true] (heap_alloc_new w3 _) rfl)).mono ?_
    rintro e w4 ⟨rfl, m, rfl⟩
    go_wp2
    go_ret
    exact ⟨rfl, below_drewN (ext_alloc (ext_trans (ext_alloc (ext_trans hb1 hb2) _) hb3) _) m⟩
  · obtain ⟨⟨d, y, z⟩, hs⟩ : ∃ s, L1[0]? = some s := ⟨_, List.getElem?_eq_getElem (by rw [hS1.1]; omega)⟩
    obtain ⟨b, off, rfl, k0, k1, k2⟩ := hS1.2 0 _ hs
    simp only [Nat.zero_mul, Nat.add_zero] at k0 k1 k2
    have hp : (0 : Int) < (m1 : Int) := by omega
    clear hs k0 k2
    go_wp2_with fail
    refine (run_to (n := 4) (x := (!y)) (zs := [false, false, y, (!y)]) [(0, false, false), (1, y, false), (5, (!y), false), (0, false, false)] _ (by omega) (Steps.lit [(0, false, false), (1, y, false), (5, (!y), false), (0, false, false)] (heap_alloc_new w2 _) rfl) (by simp [fin, after]) (by simp [ans, after])).mono ?_
    rintro e w3 ⟨A4, c4, rfl, hc4, hI4, hb3⟩
    go_wp2_with fail
    refine (same_any A4 (some ⟨w3.heap.size, 0, none⟩) 4 c4 4 [false, false, y, (!y)] _ (by omega) (hI4.keep (ext_new w3 _)) (Bools.lit [false, false, y, (!y)] (heap_alloc_new w3 _) rfl)).mono ?_
    rintro e w4 ⟨rfl, m, rfl⟩
    go_wp2
    go_ret
    exact ⟨rfl, below_drewN (ext_alloc (ext_trans (ext_alloc (ext_trans hb1 hb2) _) hb3) _) m⟩
end Go.Proofs.Ytaifhckmcagkcaa.B
namespace Go.Proofs.Ytaifhckmcagkcaa
open Go.ChangeShapes Go.WideShapes Go.ChangeAt Go.RowKit
set_option linter.unusedVariables false
theorem own_fnTruthEmpty : ownKnob Try.prog.godebug = none := by kernel_rfl
theorem laidOut_fnTruthEmpty : laidOutB Try.prog = true := by kernel_rfl
set_option maxRecDepth 100000 in
theorem lifted_fnTruthEmpty (os : Os) (started : os.Started) (H : Type) (enc : TypeId × Value → H) :
    ReturnsInHanded {} Try.checked os 5 .any (Rows.fnTruthEmptySpec.pre6 enc Try.prog Try.f5 Rows.fnTruthEmptyRow.domain false) (Rows.fnTruthEmptySpec.post enc Try.prog Try.f5 false true false false) := by
  refine returnsInHanded_of_change (C := Try.checked) own_fnTruthEmpty started (by kernel_rfl) Try.func5
    (ChangeSpec.witness6 (enc := enc) (C := Try.checked) false ⟨#[], #[.slice none 0 0], []⟩ 8 (by kernel_rfl) (by kernel_rfl) (by kernel_rfl) (by kernel_rfl)) ?_
  intro W base args ds gs before hval0 hW hcnd _
  have hval : ∀ (j : Nat) t v, Try.f5.params[j]? = some t → args[j]? = some v → Value.okWide Try.prog W .any base t v := hval0
  have hW' := hW
  obtain ⟨p, q, hA0, hV, rfl, hfz, hnd⟩ := hW
  have hA : DataW.TrodAll enc Try.prog W 0 (fun _ => true) true Try.f5.params.toList args.toList ds p := hA0
  rw [Try.params5] at hA hval
  obtain ⟨v0, vs0, d0, ds0, p0, q0, hargs, rfl, rfl, h0, r0⟩ := trodAll_cons hA
  obtain ⟨rfl, rfl, rfl⟩ := trodAll_nil r0
  obtain rfl : args = #[v0] := by cases args; simp_all
  obtain ⟨rfl, rfl⟩ := trodVars_none hV
  obtain ⟨a0, len0, cap0, rfl⟩ := okWide_slice Try.underlying28 (hval 0 28 v0 rfl rfl)
  have k0 := h0
  have lt0 : ∀ x ∈ p0, x.block < W.heap.size := by obtain ⟨m, hm⟩ := k0; exact DataW.trod_lt m _ _ _ hm
  have hB : Bytes W a0 len0 := by
    obtain ⟨fuel, hf⟩ := h0
    rcases open_ints Try.underlying28 Try.underlying5 (by kernel_rfl) hf with ⟨hcs, _⟩ | ⟨x, l, c, zs, hcs, _, hl, hm, hz, _, hcell, hwz⟩
    · simp [Value.cells] at hcs
      obtain ⟨rfl, rfl, rfl⟩ := hcs
      exact Bytes.of_row (cap := 0) (zs := []) (.inl ⟨rfl, rfl, rfl, rfl⟩)
    · simp [Value.cells] at hcs
      obtain ⟨rfl, rfl, rfl⟩ := hcs
      exact Bytes.of_row (.inr ⟨_, rfl, hl, hm, by simpa using hz, hcell, hwz⟩)
  clear hA0 hval0
  refine (B.walk_TruthEmpty a0 len0 cap0 W hB).mono fun e W' ⟨he, bel⟩ => ?_
  subst he
  exact ⟨_, rfl, _, _, _, [], _, [], hW', trodAll_mk1 (shut_bool Try.underlying4 _), (trodAll_cons_mk (Below.trod laidOut_fnTruthEmpty (by kernel_rfl) (of_decide_eq_true (by kernel_rfl)) k0 bel lt0) trodAll_mk0), rfl, bel.frame _, fun h => by cases h⟩

theorem fnTruthEmpty_holds : Rows.FnTruthEmptySaid :=
  OpenClaim.holds_of_wide 5 Try.f5 rfl rfl rfl rfl rfl rfl rfl ⟨rfl, rfl, rfl, rfl, rfl⟩ rfl rfl rfl rfl rfl (by kernel_rfl) Try.func5 (by kernel_rfl)
    (of_decide_eq_true (by kernel_rfl)) (by unfold Func.isWrapper; first | (rw [if_pos (by decide +kernel)]; kernel_rfl) | (rw [if_neg (by decide +kernel)]; exact ⟨rfl, rfl⟩))
    (fun os started H enc _ => lifted_fnTruthEmpty os started H enc)
#print axioms fnTruthEmpty_holds
end Go.Proofs.Ytaifhckmcagkcaa
