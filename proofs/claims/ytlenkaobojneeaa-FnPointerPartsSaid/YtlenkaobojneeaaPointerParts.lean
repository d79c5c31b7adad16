/-
  FnPointerParts holds for every input: two scripts, one behind the other, have the answers of the first one, and then those of the second one that begins with the cell at last of the first one. No conditions.
-/
import Derived.Test.YtlenkaobojneeaaRunP
import Derived.Test.YtlenkaobojneeaaSpecP
import Derived.Test.YtlenkaobojneeaaOpen
import Derived.Test.YtlenkaobojneeaaDrawPWalk
import Derived.Test.YtlenkaobojneeaaCatP
namespace Go.Proofs.Ytlenkaobojneeaa.P
open Go.ChangeShapes Go.WideShapes Go.ChangeAt Go.RowKit
set_option linter.unusedVariables false
set_option maxHeartbeats 4000000 in
theorem walk_PointerParts (A : Option Addr) (n c : Nat) (w : World) (hB : Bytes w A n) :
    Calls Try.prog 4 #[.slice A n c] w fun e w' => e = .returned (.bool true) ∧ Below w.heap.size w w' := by
  go_enter Try.func4, Try.ntmps4
  go_wp2_with fail
  refine (draw_any A n c _ hB).mono ?_
  rintro e w1 ⟨A1, m1, c1, L1, A2, m2, c2, L2, rfl, hm1, hc1, hS1, hm2, hc2, hS2, hb1⟩
  go_wp2_with fail
  refine (run_any A1 m1 c1 L1 _ (by omega) hS1).mono ?_
  rintro e w2 ⟨A3, c3, rfl, hc3, hI3, hb2⟩
  replace hS1 := hS1.keep hb2
  replace hS2 := hS2.keep hb2
  replace hb2 := ext_trans hb1 hb2
  have hx1 := pfin_in L1
  have hf0 := pfin_append L1 L2
  have hz0 := pans_append L1 L2
  generalize pans L1 = zp at hI3 hz0
  generalize pfin L1 = x1 at hx1 hf0 hz0
  have hlp := hI3.1
  have HF := Lib.hid hf0; clear hf0
  have HZ := Lib.hid hz0; clear hz0
  clear hb1
  have HQ := Lib.hid (parts_q x1 L2 hx1)
  clear hx1
  have hS2a := hS2.keep (ext_new w2 (.cells #[.int .i64 1, .int .i64 x1, .int .i64 0] 32))
  go_wp2_with (at_builtin; refine wp_scat rfl (.tmp 24) (.tmp 25) rfl (Gath.lit w2 32 3 1 #[.int .i64 1, .int .i64 x1, .int .i64 0] (by omega) rfl) rfl rfl hS2a (by omega) ?_; intro v3 w3 hG3)
  rw [Nat.add_comm 1 m2] at hG3
  obtain ⟨A4, c4, rfl, hc4, hS4⟩ := Gath.steps (L := (1, x1, 0) :: L2) (k := .i64) hG3
  have hb3 := hG3.below
  replace hS1 := hS1.keep hb3
  replace hS2 := hS2.keep hb3
  replace hI3 := hI3.keep hb3
  replace hb3 := ext_trans hb2 hb3
  clear hG3 hS2a hb2
  go_wp2_with fail
  refine (run_to (n := m2 + 1) ((1, x1, 0) :: L2) _ (by omega) hS4 HQ.out.1 HQ.out.2).mono ?_
  rintro e w4 ⟨A5, c5, rfl, hc5, hI5, hb4⟩
  replace hS1 := hS1.keep hb4
  replace hS2 := hS2.keep hb4
  replace hI3 := hI3.keep hb4
  replace hb4 := ext_trans hb3 hb4
  clear hb3 hS4 HQ
  generalize fin .i64 x1 (L2.map toP) = x2 at HF
  generalize ans .i64 x1 (L2.map toP) = zq at HZ hI5
  have hS1a := hS1.keep (ext_new w4 (.cells #[] 32))
  go_wp2_with (first | (at_builtin; refine wp_scat rfl (.tmp 31) (.tmp 32) rfl (Gath.start w4 32 3) rfl rfl hS1a (by omega) ?_; intro v5 w5 hG5; have hS2b := hS2.keep hG5.below) | (at_builtin; refine wp_scat rfl (.tmp 33) (.tmp 34) rfl hG5 rfl rfl hS2b (by omega) ?_; intro v6 w6 hG6))
  rw [Nat.zero_add] at hG6
  obtain ⟨A6, c6, rfl, hc6, hS6⟩ := Gath.steps (L := L1 ++ L2) (k := .i64) (by rw [cellsOfL_append]; simpa using hG6)
  have hb6 := hG6.below
  replace hI3 := hI3.keep hb6
  replace hI5 := hI5.keep hb6
  replace hb6 := ext_trans hb4 hb6
  clear hG5 hG6 hS1 hS2 hS1a hS2b hb4
  go_wp2_with fail
  refine (run_to (n := m1 + m2) (L1 ++ L2) _ (by omega) hS6 HF.out HZ.out).mono ?_
  rintro e w7 ⟨A7, c7, rfl, hc7, hI7, hb7⟩
  replace hI3 := hI3.keep hb7
  replace hI5 := hI5.keep hb7
  replace hb7 := ext_trans hb6 hb7
  clear hb6 hS6 HF HZ
  obtain ⟨b5, o5, rfl, _⟩ := hI5.2 0 0 rfl
  have u1 := IntWalk.i64_in ((m2 : Int) + 1) (by omega)
  have hlen7 := hI7.1
  have hIt := hI5.tail
  have hlq := hIt.1
  have i1 : (1 : Int) ≤ (m2 : Int) + 1 := by omega
  have i2 : (m2 : Int) + 1 ≤ (c5 : Int) := by omega
  by_cases hc1 : c5 = 1
  · obtain rfl : m2 = 0 := by omega
    subst hc1
    obtain rfl : zq = [] := List.eq_nil_of_length_eq_zero hlq
    have hIn : Ints .i64 w7 (some ⟨b5, o5, none⟩) 0 [] := ⟨rfl, fun i z h => by simp at h⟩
    simp only [List.append_nil, Nat.add_zero] at hI7 hlen7
    clear u1 i1 i2 hIt hlq hm2 hc2 hc4 hc5 hI5
    have u1 := IntWalk.i64_in 1 (by omega)
    go_wp2_with fail
    go_region_held3 (fun w' => True) (trivial)
      (first
        | ((refine step_icat (by simp [Region.wanted, yielded]) (.tmp 47) (.tmp 48) (by rfl) ((Gath.start w7 3 1).drew) (by rfl) (by rfl) (hI3.keep (ext_new w7 _).drew) (by omega) ?_; intro v8 w8 hG8))
        | ((refine step_icat (by simp [Region.wanted, yielded]) (.tmp 49) (.tmp 51) (by rfl) hG8 (by rfl) (by rfl) (hIn.keep hG8.below) (by omega) ?_; intro v9 w9 hG9; obtain ⟨A9, c9, rfl, hc9, hI9⟩ := Gath.ints (n := m1) (zs := zp) (k := .i64) (by simpa using hG9)))
        | ((go_simp; go_at_call 10; refine (same_any A7 A9 m1 c7 c9 zp _ (by omega) (hI7.keep hG9.below) hI9).mono ?_; rintro e wz ⟨rfl, mm, rfl⟩)))
    go_wp2
    go_ret
    exact ⟨rfl, below_drewN (ext_trans hb7 hG9.below) mm⟩
  · go_wp2_with fail
    go_region_held3 (fun w' => True) (trivial)
      (first
        | ((refine step_icat (by simp [Region.wanted, yielded]) (.tmp 47) (.tmp 48) (by rfl) ((Gath.start w7 3 1).drew) (by rfl) (by rfl) (hI3.keep (ext_new w7 _).drew) (by omega) ?_; intro v8 w8 hG8))
        | ((refine step_icat (by simp [Region.wanted, yielded]) (.tmp 49) (.tmp 51) (by rfl) hG8 (by rfl) (by rfl) (hIt.keep hG8.below) (by omega) ?_; intro v9 w9 hG9; obtain ⟨A9, c9, rfl, hc9, hI9⟩ := Gath.ints (n := m1 + m2) (zs := zp ++ zq) (k := .i64) (by simpa using hG9)))
        | ((go_simp; go_at_call 10; refine (same_any A7 A9 (m1 + m2) c7 c9 (zp ++ zq) _ (by omega) (hI7.keep hG9.below) hI9).mono ?_; rintro e wz ⟨rfl, mm, rfl⟩)))
    go_wp2
    go_ret
    exact ⟨rfl, below_drewN (ext_trans hb7 hG9.below) mm⟩
end Go.Proofs.Ytlenkaobojneeaa.P
namespace Go.Proofs.Ytlenkaobojneeaa
open Go.ChangeShapes Go.WideShapes Go.ChangeAt Go.RowKit
set_option linter.unusedVariables false
theorem own_fnPointerParts : ownKnob Try.prog.godebug = none := by kernel_rfl
theorem laidOut_fnPointerParts : laidOutB Try.prog = true := by kernel_rfl
set_option maxRecDepth 100000 in
theorem lifted_fnPointerParts (os : Os) (started : os.Started) (H : Type) (enc : TypeId × Value → H) :
    ReturnsInHanded {} Try.checked os 4 .any (Rows.fnPointerPartsSpec.pre6 enc Try.prog Try.f4 Rows.fnPointerPartsRow.domain false) (Rows.fnPointerPartsSpec.post enc Try.prog Try.f4 false true false false) := by
  refine returnsInHanded_of_change (C := Try.checked) own_fnPointerParts started (by kernel_rfl) Try.func4
    (ChangeSpec.witness6 (enc := enc) (C := Try.checked) false ⟨#[], #[.slice none 0 0], []⟩ 8 (by kernel_rfl) (by kernel_rfl) (by kernel_rfl) (by kernel_rfl)) ?_
  intro W base args ds gs before hval0 hW hcnd _
  have hval : ∀ (j : Nat) t v, Try.f4.params[j]? = some t → args[j]? = some v → Value.okWide Try.prog W .any base t v := hval0
  have hW' := hW
  obtain ⟨p, q, hA0, hV, rfl, hfz, hnd⟩ := hW
  have hA : DataW.TrodAll enc Try.prog W 0 (fun _ => true) true Try.f4.params.toList args.toList ds p := hA0
  rw [Try.params4] at hA hval
  obtain ⟨v0, vs0, d0, ds0, p0, q0, hargs, rfl, rfl, h0, r0⟩ := trodAll_cons hA
  obtain ⟨rfl, rfl, rfl⟩ := trodAll_nil r0
  obtain rfl : args = #[v0] := by cases args; simp_all
  obtain ⟨rfl, rfl⟩ := trodVars_none hV
  obtain ⟨a0, len0, cap0, rfl⟩ := okWide_slice Try.underlying28 (hval 0 28 v0 rfl rfl)
  have k0 := h0
  have lt0 : ∀ x ∈ p0, x.block < W.heap.size := by obtain ⟨m, hm⟩ := k0; exact DataW.trod_lt m _ _ _ hm
  have hB : Bytes W a0 len0 := by
    obtain ⟨fuel, hf⟩ := h0
    rcases open_ints Try.underlying28 Try.underlying5 (by kernel_rfl) hf with ⟨hcs, _⟩ | ⟨x, l, c, zs, hcs, _, hl, hm, hz, _, hcell, hwz⟩
    · simp [Value.cells] at hcs
      obtain ⟨rfl, rfl, rfl⟩ := hcs
      exact Bytes.of_row (cap := 0) (zs := []) (.inl ⟨rfl, rfl, rfl, rfl⟩)
    · simp [Value.cells] at hcs
      obtain ⟨rfl, rfl, rfl⟩ := hcs
      exact Bytes.of_row (.inr ⟨_, rfl, hl, hm, by simpa using hz, hcell, hwz⟩)
  clear hA0 hval0
  refine (P.walk_PointerParts a0 len0 cap0 W hB).mono fun e W' ⟨he, bel⟩ => ?_
  subst he
  exact ⟨_, rfl, _, _, _, [], _, [], hW', trodAll_mk1 (shut_bool Try.underlying4 _), (trodAll_cons_mk (Below.trod laidOut_fnPointerParts (by kernel_rfl) (of_decide_eq_true (by kernel_rfl)) k0 bel lt0) trodAll_mk0), rfl, bel.frame _, fun h => by cases h⟩

theorem fnPointerParts_holds : Rows.FnPointerPartsSaid :=
  OpenClaim.holds_of_wide 4 Try.f4 rfl rfl rfl rfl rfl rfl rfl ⟨rfl, rfl, rfl, rfl, rfl⟩ rfl rfl rfl rfl rfl (by kernel_rfl) Try.func4 (by kernel_rfl)
    (of_decide_eq_true (by kernel_rfl)) (by unfold Func.isWrapper; first | (rw [if_pos (by decide +kernel)]; kernel_rfl) | (rw [if_neg (by decide +kernel)]; exact ⟨rfl, rfl⟩))
    (fun os started H enc _ => lifted_fnPointerParts os started H enc)
#print axioms fnPointerParts_holds
end Go.Proofs.Ytlenkaobojneeaa
