/-
  FnPointerRoad holds for every input: a pointer does what the number of its cell does, none being -1. No conditions.
-/
import Derived.Test.YtlenkaobojneeaaRunP
import Derived.Test.YtlenkaobojneeaaSpecP
import Derived.Test.YtlenkaobojneeaaOpen
import Derived.Test.YtlenkaobojneeaaDrawPWalk
import Derived.Test.YtlenkaobojneeaaCatP
import Derived.Test.YtlenkaobojneeaaRoadP
import Derived.Test.YtlenkaobojneeaaGsI64
namespace Go.Proofs.Ytlenkaobojneeaa.P
open Go.ChangeShapes Go.WideShapes Go.ChangeAt Go.RowKit
set_option linter.unusedVariables false
set_option maxHeartbeats 4000000 in
theorem walk_PointerRoad (A : Option Addr) (n c : Nat) (w : World) (hB : Bytes w A n) :
    Calls Try.prog 7 #[.slice A n c] w fun e w' => e = .returned (.bool true) ∧ Below w.heap.size w w' := by
  go_enter Try.func7, Try.ntmps7
  go_wp2_with fail
  refine (draw_any A n c _ hB).mono ?_
  rintro e w1 ⟨A1, m1, c1, L1, A2, m2, c2, L2, rfl, hm1, hc1, hS1, hm2, hc2, hS2, hb1⟩
  obtain ⟨i0, hi0, if0, if1, if2⟩ := info_parts I64.infoG
  go_wp2_with fail
  go_loopw [5, 6] (fun v i wr => ∃ j : Nat, j ≤ m1 ∧ i = .int .i64 j ∧ Gath w1.heap.size 35 3 v (j + 1) (cellsOfL .i64 ((1, -1, 0) :: (L1.take j).map toP)) w1 wr) (fun _ i _ => m1 - (intOf i).toNat)
  case atStart => exact ⟨0, by omega, rfl, Gath.lit w1 35 3 1 #[.int .i64 1, .int .i64 (-1), .int .i64 0] (by omega) rfl⟩
  case round =>
    obtain ⟨j, hj, rfl, hG⟩ := hrel
    by_cases hlt : j < m1
    · obtain ⟨⟨d, y, z⟩, hs⟩ : ∃ s, L1[j]? = some s := ⟨_, List.getElem?_eq_getElem (by rw [hS1.1]; exact hlt)⟩
      obtain ⟨b, off, rfl, q0, q1, q2⟩ := hS1.2 j _ hs
      have p0 := cell_kept hG.below q0
      have p1 := cell_kept hG.below q1
      have p2 := cell_kept hG.below q2
      have HS := Lib.hid hs; clear hs
      have Q1 := Lib.hid q1; clear q1
      have Q2 := Lib.hid q2; clear q2
      clear q0
      have i1 : (0 : Int) ≤ (j : Int) := by omega
      have i2 : (j : Int) < (m1 : Int) := by omega
      have HR := Lib.hid (num_snoc L1 j _ HS.out)
      by_cases hd : d = 1 ∨ d = 5 ∨ d = 6
      · have HD := Lib.hid (doOf_same d hd)
        rcases hd with rfl | rfl | rfl
        · go_wp2_with fail
          go_region_held3 (fun w' => w'.cell? ⟨b, off + j * 3 + 1, none⟩ = some (.int .i64 y) ∧ w'.cell? ⟨b, off + j * 3 + 2, none⟩ = some (.int .i64 z))
            (first | go_keep | exact ⟨cell_kept hG3.below Q1.out, cell_kept hG3.below Q2.out⟩)
            (first
              | ((refine I64.step_gstep (by rfl) _ _ (by rfl) (1, cl y, cl z) ((hG.alloc _).drew) (by rfl) (by rfl) (heap_alloc_new wr _) (by omega) ?_; intro v1 w3 hG3))
              | ((go_at_call 12; refine (whole_any _ _).mono ?_; rintro e w' ⟨rfl, rfl⟩)))
          go_wp2
          go_roundw
          case rel => exact ⟨j + 1, by omega, by go_num, by rw [HR.out, HD.out]; exact hG3⟩
          case measure => simp [intOf]; omega
        · go_wp2_with fail
          go_region_held3 (fun w' => w'.cell? ⟨b, off + j * 3 + 1, none⟩ = some (.int .i64 y) ∧ w'.cell? ⟨b, off + j * 3 + 2, none⟩ = some (.int .i64 z))
            (first | go_keep | exact ⟨cell_kept hG3.below Q1.out, cell_kept hG3.below Q2.out⟩)
            (first
              | ((refine I64.step_gstep (by rfl) _ _ (by rfl) (5, cl y, cl z) ((hG.alloc _).drew) (by rfl) (by rfl) (heap_alloc_new wr _) (by omega) ?_; intro v1 w3 hG3))
              | ((go_at_call 12; refine (whole_any _ _).mono ?_; rintro e w' ⟨rfl, rfl⟩)))
          go_wp2
          go_roundw
          case rel => exact ⟨j + 1, by omega, by go_num, by rw [HR.out, HD.out]; exact hG3⟩
          case measure => simp [intOf]; omega
        · go_wp2_with fail
          go_region_held3 (fun w' => w'.cell? ⟨b, off + j * 3 + 1, none⟩ = some (.int .i64 y) ∧ w'.cell? ⟨b, off + j * 3 + 2, none⟩ = some (.int .i64 z))
            (first | go_keep | exact ⟨cell_kept hG3.below Q1.out, cell_kept hG3.below Q2.out⟩)
            (first
              | ((refine I64.step_gstep (by rfl) _ _ (by rfl) (6, cl y, cl z) ((hG.alloc _).drew) (by rfl) (by rfl) (heap_alloc_new wr _) (by omega) ?_; intro v1 w3 hG3))
              | ((go_at_call 12; refine (whole_any _ _).mono ?_; rintro e w' ⟨rfl, rfl⟩)))
          go_wp2
          go_roundw
          case rel => exact ⟨j + 1, by omega, by go_num, by rw [HR.out, HD.out]; exact hG3⟩
          case measure => simp [intOf]; omega
      · have h1 : ¬ d = 1 := fun e => hd (.inl e)
        have h5 : ¬ d = 5 := fun e => hd (.inr (.inl e))
        have h6 : ¬ d = 6 := fun e => hd (.inr (.inr e))
        have HD := Lib.hid (doOf_else d h1 h5 h6)
        have f1 : (d != 1) = true := by simpa using h1
        have f5 : (d != 5) = true := by simpa using h5
        have f6 : (d != 6) = true := by simpa using h6
        clear hd
        go_wp2_with fail
        go_region_held3 (fun w' => w'.cell? ⟨b, off + j * 3 + 1, none⟩ = some (.int .i64 y) ∧ w'.cell? ⟨b, off + j * 3 + 2, none⟩ = some (.int .i64 z))
          (first | go_keep | exact ⟨cell_kept hG3.below Q1.out, cell_kept hG3.below Q2.out⟩)
          (first
            | ((refine I64.step_gstep (by rfl) _ _ (by rfl) (0, cl y, cl z) ((hG.alloc _).drew) (by rfl) (by rfl) (heap_alloc_new wr _) (by omega) ?_; intro v1 w3 hG3))
            | ((go_at_call 12; refine (whole_any _ _).mono ?_; rintro e w' ⟨rfl, rfl⟩)))
        go_wp2
        go_roundw
        case rel => exact ⟨j + 1, by omega, by go_num, by rw [HR.out, HD.out]; exact hG3⟩
        case measure => simp [intOf]; omega
    · have hj' : j = m1 := by omega
      subst hj'
      rw [List.take_of_length_le (by rw [hS1.1]; exact Nat.le_refl _)] at hG
      obtain ⟨A3, c3, rfl, hc3, hS3⟩ := Gath.steps (k := .i64) (L := (1, -1, 0) :: L1.map toP) hG
      have hb2 := hG.below
      have HP := Lib.hid (road_run L1)
      replace hS1 := hS1.keep hb2
      replace hb2 := ext_trans hb1 hb2
      generalize hfx : pfin L1 = x1 at HP
      generalize hzx : pans L1 = z1 at HP
      have hlen : z1.length = j := by rw [← hzx, pans_length, hS1.1]
      clear hG hb1 hS2 hlt
      go_wp2_with fail
      refine (run_to (n := j) (x := x1) (zs := z1) L1 _ (by omega) hS1 hfx hzx).mono ?_
      rintro e w4 ⟨A4, c4, rfl, hc4, hI4, hb4⟩
      go_wp2_with fail
      refine (run64_to (n := j + 1) (x := x1) (zs := 0 :: z1) ((1, -1, 0) :: L1.map toP) _ (by omega) (hS3.keep hb4) HP.out.2 HP.out.1).mono ?_
      rintro e w5 ⟨A5, c5, rfl, hc5, hI5, hb5⟩
      replace hI4 := hI4.keep hb5
      have hb6 := ext_trans (ext_trans hb2 hb4) hb5
      clear hb2 hb4 hb5 HP hfx hzx hS1 hS3
      have v1 := IntWalk.i64_in ((j : Int) + 1) (by omega)
      go_wp2_with fail
      go_loopw [12] (fun i wr => ∃ q : Nat, q ≤ j ∧ i = .int .i64 q ∧ Below w5.heap.size w5 wr) (fun i _ => j - (intOf i).toNat)
      case atStart => exact ⟨0, by omega, rfl, Below.refl _ _⟩
      case round =>
        obtain ⟨q, hq, rfl, hbq⟩ := hrel
        by_cases hqt : q < j
        · obtain ⟨z, hs⟩ : ∃ s, z1[q]? = some s := ⟨_, List.getElem?_eq_getElem (by rw [hlen]; exact hqt)⟩
          obtain ⟨b, off, rfl, k0⟩ := hI4.2 q _ hs
          obtain ⟨b', off', rfl, k1⟩ := hI5.2 (q + 1) z (by simpa using hs)
          replace k0 := cell_kept hbq k0
          replace k1 := cell_kept hbq k1
          clear hs
          have i1 : (0 : Int) ≤ (q : Int) := by omega
          have i2 : (q : Int) < (j : Int) := by omega
          have i3 := IntWalk.i64_in ((q : Int) + 1) (by omega)
          go_wp2_with fail
          go_quiet (fail)
          go_wp2
          go_roundw
          case rel => exact ⟨q + 1, by omega, by go_num, below_drewN hbq _⟩
          case measure => simp [intOf]; omega
        · go_wp2
          go_ret
          exact ⟨rfl, below_into hb6 hb6.size hbq⟩
end Go.Proofs.Ytlenkaobojneeaa.P
namespace Go.Proofs.Ytlenkaobojneeaa
open Go.ChangeShapes Go.WideShapes Go.ChangeAt Go.RowKit
set_option linter.unusedVariables false
theorem own_fnPointerRoad : ownKnob Try.prog.godebug = none := by kernel_rfl
theorem laidOut_fnPointerRoad : laidOutB Try.prog = true := by kernel_rfl
set_option maxRecDepth 100000 in
theorem lifted_fnPointerRoad (os : Os) (started : os.Started) (H : Type) (enc : TypeId × Value → H) :
    ReturnsInHanded {} Try.checked os 7 .any (Rows.fnPointerRoadSpec.pre6 enc Try.prog Try.f7 Rows.fnPointerRoadRow.domain false) (Rows.fnPointerRoadSpec.post enc Try.prog Try.f7 false true false false) := by
  refine returnsInHanded_of_change (C := Try.checked) own_fnPointerRoad started (by kernel_rfl) Try.func7
    (ChangeSpec.witness6 (enc := enc) (C := Try.checked) false ⟨#[], #[.slice none 0 0], []⟩ 8 (by kernel_rfl) (by kernel_rfl) (by kernel_rfl) (by kernel_rfl)) ?_
  intro W base args ds gs before hval0 hW hcnd _
  have hval : ∀ (j : Nat) t v, Try.f7.params[j]? = some t → args[j]? = some v → Value.okWide Try.prog W .any base t v := hval0
  have hW' := hW
  obtain ⟨p, q, hA0, hV, rfl, hfz, hnd⟩ := hW
  have hA : DataW.TrodAll enc Try.prog W 0 (fun _ => true) true Try.f7.params.toList args.toList ds p := hA0
  rw [Try.params7] at hA hval
  obtain ⟨v0, vs0, d0, ds0, p0, q0, hargs, rfl, rfl, h0, r0⟩ := trodAll_cons hA
  obtain ⟨rfl, rfl, rfl⟩ := trodAll_nil r0
  obtain rfl : args = #[v0] := by cases args; simp_all
  obtain ⟨rfl, rfl⟩ := trodVars_none hV
  obtain ⟨a0, len0, cap0, rfl⟩ := okWide_slice Try.underlying28 (hval 0 28 v0 rfl rfl)
  have k0 := h0
  have lt0 : ∀ x ∈ p0, x.block < W.heap.size := by obtain ⟨m, hm⟩ := k0; exact DataW.trod_lt m _ _ _ hm
  have hB : Bytes W a0 len0 := by
    obtain ⟨fuel, hf⟩ := h0
    rcases open_ints Try.underlying28 Try.underlying5 (by kernel_rfl) hf with ⟨hcs, _⟩ | ⟨x, l, c, zs, hcs, _, hl, hm, hz, _, hcell, hwz⟩
    · simp [Value.cells] at hcs
      obtain ⟨rfl, rfl, rfl⟩ := hcs
      exact Bytes.of_row (cap := 0) (zs := []) (.inl ⟨rfl, rfl, rfl, rfl⟩)
    · simp [Value.cells] at hcs
      obtain ⟨rfl, rfl, rfl⟩ := hcs
      exact Bytes.of_row (.inr ⟨_, rfl, hl, hm, by simpa using hz, hcell, hwz⟩)
  clear hA0 hval0
  refine (P.walk_PointerRoad a0 len0 cap0 W hB).mono fun e W' ⟨he, bel⟩ => ?_
  subst he
  exact ⟨_, rfl, _, _, _, [], _, [], hW', trodAll_mk1 (shut_bool Try.underlying4 _), (trodAll_cons_mk (Below.trod laidOut_fnPointerRoad (by kernel_rfl) (of_decide_eq_true (by kernel_rfl)) k0 bel lt0) trodAll_mk0), rfl, bel.frame _, fun h => by cases h⟩

theorem fnPointerRoad_holds : Rows.FnPointerRoadSaid :=
  OpenClaim.holds_of_wide 7 Try.f7 rfl rfl rfl rfl rfl rfl rfl ⟨rfl, rfl, rfl, rfl, rfl⟩ rfl rfl rfl rfl rfl (by kernel_rfl) Try.func7 (by kernel_rfl)
    (of_decide_eq_true (by kernel_rfl)) (by unfold Func.isWrapper; first | (rw [if_pos (by decide +kernel)]; kernel_rfl) | (rw [if_neg (by decide +kernel)]; exact ⟨rfl, rfl⟩))
    (fun os started H enc _ => lifted_fnPointerRoad os started H enc)
#print axioms fnPointerRoad_holds
end Go.Proofs.Ytlenkaobojneeaa
