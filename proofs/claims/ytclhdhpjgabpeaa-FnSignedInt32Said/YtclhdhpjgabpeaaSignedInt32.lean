/-
  FnSignedInt32 holds for every input: numbers with and without a sign have the same bits, step by step. No conditions.
-/
import Derived.Test.YtclhdhpjgabpeaaOpen
import Derived.Test.YtclhdhpjgabpeaaConv
import Derived.Test.YtclhdhpjgabpeaaScriptI32
import Derived.Test.YtclhdhpjgabpeaaRunI32
import Derived.Test.YtclhdhpjgabpeaaGsU32
import Derived.Test.YtclhdhpjgabpeaaRunU32
import Derived.Test.YtclhdhpjgabpeaaAliveI32
namespace Go.Proofs.Ytclhdhpjgabpeaa
open Go.ChangeShapes Go.WideShapes Go.ChangeAt Go.RowKit
set_option linter.unusedVariables false
theorem U32run_to {A : Option Addr} {n c : Nat} {x : Int} {zs : List Int} (L : List Step) (w : World) (hn : n ≤ 8796093022208) (hL : Steps .u32 w A n L) (hx : fin .u32 0 L = x) (hz : ans .u32 0 L = zs) :
    Calls Try.prog 8 #[.slice A n c] w (RunTo .u32 n x zs w) := by
  subst hx hz
  exact U32.run_any A n c L w hn hL
set_option maxHeartbeats 4000000 in
theorem walk_SignedInt32 (A : Option Addr) (n c : Nat) (w : World) (hB : Bytes w A n) :
    Calls Try.prog 3 #[.slice A n c] w fun e w' => e = .returned (.bool true) ∧ Below w.heap.size w w' := by
  go_enter Try.func3, Try.ntmps3
  go_wp2_with fail
  refine (I32.draw_any A n c _ hB).mono ?_
  rintro e w1 ⟨A1, m1, c1, L1, A2, m2, c2, L2, rfl, hm1, hc1, hS1, hW1, hm2, hc2, hS2, hW2, hb1⟩
  have HP := Lib.hid (conv_signed wraps_32 inj_32 L1 hW1)
  clear hW1 hW2 hS2
  obtain ⟨i0, hi0, if0, if1, if2⟩ := info_parts U32.infoG
  go_wp2_with fail
  go_loopw [5, 6] (fun v i wr => ∃ j : Nat, j ≤ m1 ∧ i = .int .i64 j ∧ Gath w1.heap.size 31 3 v j (cellsOfL .u32 ((L1.take j).map (conv .u32))) w1 wr) (fun _ i _ => m1 - (intOf i).toNat)
  case atStart => exact ⟨0, by omega, rfl, Gath.start w1 _ _⟩
  case round =>
    obtain ⟨j, hj, rfl, hG⟩ := hrel
    by_cases hlt : j < m1
    · obtain ⟨⟨d, y, z⟩, hs⟩ : ∃ s, L1[j]? = some s := ⟨_, List.getElem?_eq_getElem (by rw [hS1.1]; exact hlt)⟩
      obtain ⟨b, off, rfl, q0, q1, q2⟩ := hS1.2 j _ hs
      have p0 := cell_kept hG.below q0
      have p1 := cell_kept hG.below q1
      have p2 := cell_kept hG.below q2
      have HR := Lib.hid (conv_snoc .u32 L1 j _ hs); clear hs
      have Q0 := Lib.hid q0; clear q0
      have Q1 := Lib.hid q1; clear q1
      have Q2 := Lib.hid q2; clear q2
      have i1 : (0 : Int) ≤ (j : Int) := by omega
      have i2 : (j : Int) < (m1 : Int) := by omega
      obtain ⟨yl, ylh⟩ : ∃ yl, IntKind.u32.wrap y = yl := ⟨_, rfl⟩
      have yle : y % 4294967296 = yl := by rw [← ylh, IntKind.wrap_u32]
      obtain ⟨zl, zlh⟩ : ∃ zl, IntKind.u32.wrap z = zl := ⟨_, rfl⟩
      have zle : z % 4294967296 = zl := by rw [← zlh, IntKind.wrap_u32]
      go_wp2_with fail
      go_region_held3 (fun w' => w'.cell? ⟨b, off + j * 3, none⟩ = some (.int .i64 d) ∧ w'.cell? ⟨b, off + j * 3 + 1, none⟩ = some (.int .i32 y) ∧ w'.cell? ⟨b, off + j * 3 + 2, none⟩ = some (.int .i32 z))
        (first | go_keep | exact ⟨cell_kept hG3.below Q0.out, cell_kept hG3.below Q1.out, cell_kept hG3.below Q2.out⟩)
        ((refine U32.step_gstep (by rfl) _ _ (by rfl) (d, yl, zl) ((hG.alloc _).drew) (by rfl) (by rfl) (heap_alloc_new wr _) (by omega) ?_; intro v1 w3 hG3))
      go_wp2
      go_roundw
      case rel => exact ⟨j + 1, by omega, by go_num, by rw [HR.out, ylh, zlh]; exact hG3⟩
      case measure => simp [intOf]; omega
    · have hj' : j = m1 := by omega
      subst hj'
      rw [List.take_of_length_le (by rw [hS1.1]; exact Nat.le_refl _)] at hG
      obtain ⟨A3, c3, rfl, hc3, hT2⟩ := Gath.steps (L := L1.map (conv .u32)) hG
      have hb2 := hG.below
      have hT1 := hS1.keep hb2
      replace hb2 := ext_trans hb1 hb2
      generalize hfx : fin .i32 0 L1 = x1 at HP
      generalize hzx : ans .i32 0 L1 = z1 at HP
      have hlen : z1.length = j := by rw [← hzx, ans_length, hS1.1]
      clear hG hb1 hS1 hlt
      go_wp2_with fail
      refine (I32.run_to (n := j) (x := x1) (zs := z1) (L1) _ (by omega) hT1 hfx hzx).mono ?_
      rintro e w4 ⟨A4, c4, rfl, hc4, hI4, hb4⟩
      go_wp2_with fail
      refine (U32run_to (n := j) (x := IntKind.u32.wrap x1) (zs := z1.map IntKind.u32.wrap) (L1.map (conv .u32)) _ (by omega) (hT2.keep hb4) HP.out.2 HP.out.1).mono ?_
      rintro e w5 ⟨A5, c5, rfl, hc5, hI5, hb5⟩
      replace hI4 := hI4.keep hb5
      have hb6 := ext_trans (ext_trans hb2 hb4) hb5
      clear hb2 hb4 hb5 HP hfx hzx hT1 hT2
      obtain ⟨y1, y1h⟩ : ∃ y1, IntKind.u32.wrap x1 = y1 := ⟨_, rfl⟩
      have y1e : x1 % 4294967296 = y1 := by rw [← y1h, IntKind.wrap_u32]
      rw [y1h]
      go_wp2_with fail
      go_loopw [11] (fun i wr => ∃ q : Nat, q ≤ j ∧ i = .int .i64 q ∧ Below w5.heap.size w5 wr) (fun i _ => j - (intOf i).toNat)
      case atStart => exact ⟨0, by omega, rfl, Below.refl _ _⟩
      case round =>
        obtain ⟨q, hq, rfl, hbq⟩ := hrel
        by_cases hqt : q < j
        · obtain ⟨z, hs⟩ : ∃ s, z1[q]? = some s := ⟨_, List.getElem?_eq_getElem (by rw [hlen]; exact hqt)⟩
          obtain ⟨b, off, rfl, k0⟩ := hI4.2 q _ hs
          obtain ⟨b', off', rfl, k1⟩ := hI5.2 q (IntKind.u32.wrap z) (by rw [List.getElem?_map, hs]; rfl)
          replace k0 := cell_kept hbq k0
          replace k1 := cell_kept hbq k1
          clear hs
          have i1 : (0 : Int) ≤ (q : Int) := by omega
          have i2 : (q : Int) < (j : Int) := by omega
          obtain ⟨z2, z2h⟩ : ∃ z2, IntKind.u32.wrap z = z2 := ⟨_, rfl⟩
          have z2e : z % 4294967296 = z2 := by rw [← z2h, IntKind.wrap_u32]
          rw [z2h] at k1
          go_wp2_with fail
          go_quiet (fail)
          go_wp2
          go_roundw
          case rel => exact ⟨q + 1, by omega, by go_num, below_drewN hbq _⟩
          case measure => simp [intOf]; omega
        · go_wp2_with fail
          refine (I32.alive_any _).mono ?_
          rintro e wz ⟨rfl, hbz⟩
          go_wp2
          go_ret
          exact ⟨rfl, ext_trans (below_into hb6 hb6.size hbq) hbz⟩
theorem own_fnSignedInt32 : ownKnob Try.prog.godebug = none := by kernel_rfl
theorem laidOut_fnSignedInt32 : laidOutB Try.prog = true := by kernel_rfl
set_option maxRecDepth 100000 in
theorem lifted_fnSignedInt32 (os : Os) (started : os.Started) (H : Type) (enc : TypeId × Value → H) :
    ReturnsInHanded {} Try.checked os 3 .any (Rows.fnSignedInt32Spec.pre6 enc Try.prog Try.f3 Rows.fnSignedInt32Row.domain false) (Rows.fnSignedInt32Spec.post enc Try.prog Try.f3 false true false false) := by
  refine returnsInHanded_of_change (C := Try.checked) own_fnSignedInt32 started (by kernel_rfl) Try.func3
    (ChangeSpec.witness6 (enc := enc) (C := Try.checked) false ⟨#[], #[.slice none 0 0], []⟩ 8 (by kernel_rfl) (by kernel_rfl) (by kernel_rfl) (by kernel_rfl)) ?_
  intro W base args ds gs before hval0 hW hcnd _
  have hval : ∀ (j : Nat) t v, Try.f3.params[j]? = some t → args[j]? = some v → Value.okWide Try.prog W .any base t v := hval0
  have hW' := hW
  obtain ⟨p, q, hA0, hV, rfl, hfz, hnd⟩ := hW
  have hA : DataW.TrodAll enc Try.prog W 0 (fun _ => true) true Try.f3.params.toList args.toList ds p := hA0
  rw [Try.params3] at hA hval
  obtain ⟨v0, vs0, d0, ds0, p0, q0, hargs, rfl, rfl, h0, r0⟩ := trodAll_cons hA
  obtain ⟨rfl, rfl, rfl⟩ := trodAll_nil r0
  obtain rfl : args = #[v0] := by cases args; simp_all
  obtain ⟨rfl, rfl⟩ := trodVars_none hV
  obtain ⟨a0, len0, cap0, rfl⟩ := okWide_slice Try.underlying22 (hval 0 22 v0 rfl rfl)
  have k0 := h0
  have lt0 : ∀ x ∈ p0, x.block < W.heap.size := by obtain ⟨m, hm⟩ := k0; exact DataW.trod_lt m _ _ _ hm
  have hB : Bytes W a0 len0 := by
    obtain ⟨fuel, hf⟩ := h0
    rcases open_ints Try.underlying22 Try.underlying5 (by kernel_rfl) hf with ⟨hcs, _⟩ | ⟨x, l, c, zs, hcs, _, hl, hm, hz, _, hcell, hwz⟩
    · simp [Value.cells] at hcs
      obtain ⟨rfl, rfl, rfl⟩ := hcs
      exact Bytes.of_row (cap := 0) (zs := []) (.inl ⟨rfl, rfl, rfl, rfl⟩)
    · simp [Value.cells] at hcs
      obtain ⟨rfl, rfl, rfl⟩ := hcs
      exact Bytes.of_row (.inr ⟨_, rfl, hl, hm, by simpa using hz, hcell, hwz⟩)
  clear hA0 hval0
  refine (walk_SignedInt32 a0 len0 cap0 W hB).mono fun e W' ⟨he, bel⟩ => ?_
  subst he
  exact ⟨_, rfl, _, _, _, [], _, [], hW', trodAll_mk1 (shut_bool Try.underlying4 _), (trodAll_cons_mk (Below.trod laidOut_fnSignedInt32 (by kernel_rfl) (of_decide_eq_true (by kernel_rfl)) k0 bel lt0) trodAll_mk0), rfl, bel.frame _, fun h => by cases h⟩

theorem fnSignedInt32_holds : Rows.FnSignedInt32Said :=
  OpenClaim.holds_of_wide 3 Try.f3 rfl rfl rfl rfl rfl rfl rfl ⟨rfl, rfl, rfl, rfl, rfl⟩ rfl rfl rfl rfl rfl (by kernel_rfl) Try.func3 (by kernel_rfl)
    (of_decide_eq_true (by kernel_rfl)) (by unfold Func.isWrapper; first | (rw [if_pos (by decide +kernel)]; kernel_rfl) | (rw [if_neg (by decide +kernel)]; exact ⟨rfl, rfl⟩))
    (fun os started H enc _ => lifted_fnSignedInt32 os started H enc)
#print axioms fnSignedInt32_holds
end Go.Proofs.Ytclhdhpjgabpeaa
