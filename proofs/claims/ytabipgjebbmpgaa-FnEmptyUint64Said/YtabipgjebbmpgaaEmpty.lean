/-
  FnEmptyUint64 holds for every input: a value is 0 at first, and 0 again after nothing but loads. No conditions.
-/
import Derived.Test.YtabipgjebbmpgaaAlive
import Derived.Test.YtabipgjebbmpgaaScript
import Derived.Test.YtabipgjebbmpgaaSpec
import Derived.Test.YtabipgjebbmpgaaOpen
import Derived.Test.YtabipgjebbmpgaaCat
namespace Go.Proofs.Ytabipgjebbmpgaa
open Go.ChangeShapes Go.WideShapes Go.ChangeAt Go.RowKit
set_option linter.unusedVariables false
theorem infoG : (Try.prog.info? 33).map (fun i => (i.zero, i.size, i.bytes)) = some (some (.agg #[.int .i64 0, .int .u64 0, .int .u64 0]), 3, 24) := by kernel_rfl
/-- append of one step onto a slice of steps that the call gathers, at a step of a region that draws its order. -/
theorem step_gstep {ops : Array Oper} {o : Oper} {a : Act} {K : Act → World → Prop} {Q : Exit → Act → World → Prop} {E : Prop} (hw : Region.wanted o (yielded ops a.tmps) = true) (s x : Operand)
    (ho : o.op = .call { callee := .builtin .append, args := #[s, x], argTypes := #[22, 22] })
    {B : Nat} {v : Value} {n sz : Nat} {cs : List Value} {w wm : World} (st : Step) (hm : Gath B 33 3 v n cs w wm) (hs : a.eval s = v)
    (hx : a.eval x = .slice (some ⟨sz, 0, none⟩) 1 1) (hV : wm.heap[sz]? = some (.cells #[.int .i64 st.1, .int .u64 st.2.1, .int .u64 st.2.2] 33 (0, 0))) (hn : n ≤ 999999)
    (h : ∀ v' w1, Gath B 33 3 v' (n + 1) (cs ++ cellsOf1 .u64 st) w w1 → K (a.put o.dst v') w1) :
    if Region.wanted o (yielded ops a.tmps) = true then Oper.wp Try.prog o a wm K Q else E := by
  obtain ⟨i0, hi, hz0, hz1, hz2⟩ := info_parts infoG
  rw [if_pos hw]
  refine wp_cat s x 22 ho B 33 i0 _ 3 24 Try.underlying22 hi hz0 hz1 hz2 rfl (by decide) v n cs hs hm (some ⟨sz, 0, none⟩) 1 1 (cellsOf1 .u64 st) hx rfl (fun a ha j u hu => ?_) (fun e => by cases e) (one_cell3 _ _) (by omega) (by omega) h
  injection ha with ha
  subst ha
  have hadd : (⟨sz, 0, none⟩ : Addr).add j = ⟨sz, j, none⟩ := by unfold Addr.add; split <;> simp_all
  rw [hadd, cell_of_row wm sz j _ _ _ hV]
  simpa [cellsOf1] using hu
set_option maxHeartbeats 2000000 in
theorem walk_Empty (A : Option Addr) (n c : Nat) (w : World) (hB : Bytes w A n) :
    Calls Try.prog 10 #[.slice A n c] w fun e w' => e = .returned (.bool true) ∧ Below w.heap.size w w' := by
  go_enter Try.func10, Try.ntmps10
  go_wp2_with fail
  refine (draw_any A n c _ hB).mono ?_
  rintro e w1 ⟨A1, m1, c1, L1, A2, m2, c2, L2, rfl, hm1, hc1, hS1, hW1, hm2, hc2, hS2, hW2, hb1⟩
  have HW1 := Lib.hid hW1; clear hW1
  have HW2 := Lib.hid hW2; clear hW2
  go_wp2_with fail
  refine (run_to (n := 0) [] _ (by omega) (Steps.nil .u64 _ _) rfl rfl).mono ?_
  rintro e w2 ⟨A3, c3, rfl, hc3, hI3, hb2⟩
  replace hS1 := hS1.keep hb2
  go_wp2_with fail
  go_loopw [7, 8] (fun v i wr => ∃ j : Nat, j ≤ m1 ∧ i = .int .i64 j ∧ Gath w2.heap.size 33 3 v j (cellsOfL .u64 ((L1.take j).map toLoad)) w2 wr) (fun _ i _ => m1 - (intOf i).toNat)
  case atStart => exact ⟨0, by omega, rfl, Gath.start w2 _ _⟩
  case round =>
    obtain ⟨j, hj, rfl, hG⟩ := hrel
    by_cases hlt : j < m1
    · obtain ⟨⟨d, y, z⟩, hs⟩ : ∃ s, L1[j]? = some s := ⟨_, List.getElem?_eq_getElem (by rw [hS1.1]; exact hlt)⟩
      obtain ⟨b, off, rfl, c0, q1, q2⟩ := hS1.2 j _ hs
      have HS := Lib.hid hs; clear hs c0
      have p1 := cell_kept hG.below q1
      have p2 := cell_kept hG.below q2
      have Q1 := Lib.hid q1; clear q1
      have Q2 := Lib.hid q2; clear q2
      have i1 : (0 : Int) ≤ (j : Int) := by omega
      have i2 : (j : Int) < (m1 : Int) := by omega
      go_wp2_with fail
      go_region_held3 (fun w' => w'.cell? ⟨b, off + j * 3 + 1, none⟩ = some (.int .u64 y) ∧ w'.cell? ⟨b, off + j * 3 + 2, none⟩ = some (.int .u64 z))
        (first | go_keep | exact ⟨cell_kept hG3.below Q1.out, cell_kept hG3.below Q2.out⟩)
        ((refine step_gstep (by rfl) _ _ (by rfl) (0, y, z) ((hG.alloc _).drew) (by rfl) (by rfl) (heap_alloc_new wr _) (by omega) ?_; intro v1 w3 hG3))
      go_wp2
      go_roundw
      case rel => exact ⟨j + 1, by omega, by go_num, by rw [loads_snoc .u64 L1 j _ HS.out]; exact hG3⟩
      case measure => simp [intOf]; omega
    · have hjn : j = m1 := by omega
      subst hjn
      rw [List.take_of_length_le (by rw [hS1.1]; exact Nat.le_refl _)] at hG
      obtain ⟨A4, c4, rfl, hc4, hS4⟩ := hG.steps
      have HF := Lib.hid (loads_fin .u64 L1)
      have HZ := Lib.hid (loads_ans .u64 L1)
      have hb3 := ext_trans (ext_trans hb1 hb2) hG.below
      have hlen := hS1.1
      clear hb1 hb2 hG hS1 hS2 HW1 HW2
      go_wp2_with fail
      refine (run_to (n := j) (L1.map toLoad) _ (by omega) hS4 HF.out HZ.out).mono ?_
      rintro e w4 ⟨A5, c5, rfl, hc5, hI5, hb4⟩
      replace hb4 := ext_trans hb3 hb4
      rw [hlen] at hI5
      clear hb3 HF HZ hlen hS4
      go_wp2_with fail
      go_loop [11] (fun i => ∃ q : Nat, q ≤ j ∧ i = .int .i64 q) (fun i => j - (intOf i).toNat)
      case atStart => exact ⟨0, by omega, rfl⟩
      case round =>
        obtain ⟨q, hq, rfl⟩ := hrel
        by_cases hlq : q < j
        · obtain ⟨b5, o5, rfl, d5⟩ := hI5.2 q 0 (by simp [hlq])
          go_wp2
          go_round
          case rel => exact ⟨q + 1, by omega, by go_num⟩
          case measure => simp [intOf]; omega
        · go_wp2_with fail
          refine (alive_any _).mono ?_
          rintro e wz ⟨rfl, hbz⟩
          go_wp2
          go_ret
          exact ⟨rfl, ext_trans hb4 hbz⟩
theorem own_fnEmptyUint64 : ownKnob Try.prog.godebug = none := by kernel_rfl
theorem laidOut_fnEmptyUint64 : laidOutB Try.prog = true := by kernel_rfl
set_option maxRecDepth 100000 in
theorem lifted_fnEmptyUint64 (os : Os) (started : os.Started) (H : Type) (enc : TypeId × Value → H) :
    ReturnsInHanded {} Try.checked os 10 .any (Rows.fnEmptyUint64Spec.pre6 enc Try.prog Try.f10 Rows.fnEmptyUint64Row.domain false) (Rows.fnEmptyUint64Spec.post enc Try.prog Try.f10 false true false false) := by
  refine returnsInHanded_of_change (C := Try.checked) own_fnEmptyUint64 started (by kernel_rfl) Try.func10
    (ChangeSpec.witness6 (enc := enc) (C := Try.checked) false ⟨#[], #[.slice none 0 0], []⟩ 8 (by kernel_rfl) (by kernel_rfl) (by kernel_rfl) (by kernel_rfl)) ?_
  intro W base args ds gs before hval0 hW hcnd _
  have hval : ∀ (j : Nat) t v, Try.f10.params[j]? = some t → args[j]? = some v → Value.okWide Try.prog W .any base t v := hval0
  have hW' := hW
  obtain ⟨p, q, hA0, hV, rfl, hfz, hnd⟩ := hW
  have hA : DataW.TrodAll enc Try.prog W 0 (fun _ => true) true Try.f10.params.toList args.toList ds p := hA0
  rw [Try.params10] at hA hval
  obtain ⟨v0, vs0, d0, ds0, p0, q0, hargs, rfl, rfl, h0, r0⟩ := trodAll_cons hA
  obtain ⟨rfl, rfl, rfl⟩ := trodAll_nil r0
  obtain rfl : args = #[v0] := by cases args; simp_all
  obtain ⟨rfl, rfl⟩ := trodVars_none hV
  obtain ⟨a0, len0, cap0, rfl⟩ := okWide_slice Try.underlying29 (hval 0 29 v0 rfl rfl)
  have k0 := h0
  have lt0 : ∀ x ∈ p0, x.block < W.heap.size := by obtain ⟨m, hm⟩ := k0; exact DataW.trod_lt m _ _ _ hm
  have hB : Bytes W a0 len0 := by
    obtain ⟨fuel, hf⟩ := h0
    rcases open_ints Try.underlying29 Try.underlying5 (by kernel_rfl) hf with ⟨hcs, _⟩ | ⟨x, l, c, zs, hcs, _, hl, hm, hz, _, hcell, hwz⟩
    · simp [Value.cells] at hcs
      obtain ⟨rfl, rfl, rfl⟩ := hcs
      exact Bytes.of_row (cap := 0) (zs := []) (.inl ⟨rfl, rfl, rfl, rfl⟩)
    · simp [Value.cells] at hcs
      obtain ⟨rfl, rfl, rfl⟩ := hcs
      exact Bytes.of_row (.inr ⟨_, rfl, hl, hm, by simpa using hz, hcell, hwz⟩)
  clear hA0 hval0
  refine (walk_Empty a0 len0 cap0 W hB).mono fun e W' ⟨he, bel⟩ => ?_
  subst he
  exact ⟨_, rfl, _, _, _, [], _, [], hW', trodAll_mk1 (shut_bool Try.underlying4 _), (trodAll_cons_mk (Below.trod laidOut_fnEmptyUint64 (by kernel_rfl) (of_decide_eq_true (by kernel_rfl)) k0 bel lt0) trodAll_mk0), rfl, bel.frame _, fun h => by cases h⟩

theorem fnEmptyUint64_holds : Rows.FnEmptyUint64Said :=
  OpenClaim.holds_of_wide 10 Try.f10 rfl rfl rfl rfl rfl rfl rfl ⟨rfl, rfl, rfl, rfl, rfl⟩ rfl rfl rfl rfl rfl (by kernel_rfl) Try.func10 (by kernel_rfl)
    (of_decide_eq_true (by kernel_rfl)) (by unfold Func.isWrapper; first | (rw [if_pos (by decide +kernel)]; kernel_rfl) | (rw [if_neg (by decide +kernel)]; exact ⟨rfl, rfl⟩))
    (fun os started H enc _ => lifted_fnEmptyUint64 os started H enc)
#print axioms fnEmptyUint64_holds
end Go.Proofs.Ytabipgjebbmpgaa
