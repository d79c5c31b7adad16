/-
  FnLowBits holds for every input: if nothing is compared, all answers of 32 bits are the lower halves of those of 64 bits. No conditions.
-/
import Derived.Test.YtclhdhpjgabpeaaOpen
import Derived.Test.YtclhdhpjgabpeaaPair
import Derived.Test.YtclhdhpjgabpeaaScriptU64
import Derived.Test.YtclhdhpjgabpeaaRunU64
import Derived.Test.YtclhdhpjgabpeaaRunU32
import Derived.Test.YtclhdhpjgabpeaaAliveI32
namespace Go.Proofs.Ytclhdhpjgabpeaa
open Go.ChangeShapes Go.WideShapes Go.ChangeAt Go.RowKit
set_option linter.unusedVariables false
theorem U64run_to {A : Option Addr} {n c : Nat} {x : Int} {zs : List Int} (L : List Step) (w : World) (hn : n ≤ 8796093022208) (hL : Steps .u64 w A n L) (hx : fin .u64 0 L = x) (hz : ans .u64 0 L = zs) :
    Calls Try.prog 11 #[.slice A n c] w (RunTo .u64 n x zs w) := by
  subst hx hz
  exact U64.run_any A n c L w hn hL
theorem U32run_to {A : Option Addr} {n c : Nat} {x : Int} {zs : List Int} (L : List Step) (w : World) (hn : n ≤ 8796093022208) (hL : Steps .u32 w A n L) (hx : fin .u32 0 L = x) (hz : ans .u32 0 L = zs) :
    Calls Try.prog 8 #[.slice A n c] w (RunTo .u32 n x zs w) := by
  subst hx hz
  exact U32.run_any A n c L w hn hL
set_option maxHeartbeats 40000000 in
theorem walk_LowBits (A : Option Addr) (n c : Nat) (w : World) (hB : Bytes w A n) :
    Calls Try.prog 4 #[.slice A n c] w fun e w' => e = .returned (.bool true) ∧ Below w.heap.size w w' := by
  go_enter Try.func4, Try.ntmps4
  go_wp2_with fail
  refine (U64.draw_any A n c _ hB).mono ?_
  rintro e w1 ⟨A1, m1, c1, L1, A2, m2, c2, L2, rfl, hm1, hc1, hS1, hW1, hm2, hc2, hS2, hW2, hb1⟩
  have HP := Lib.hid (conv_low wraps_low (still L1) (still_ne L1))
  clear hW1 hW2 hS2
  go_wp2_with fail
  go_loopw [5, 6, 7] (fun v u i wr => ∃ j m : Nat, j ≤ m1 ∧ m ≤ j ∧ m = (still (L1.take j)).length ∧ i = .int .i64 j ∧ Pair w1.heap.size 45 31 v u m m (cellsOfL .u64 (still (L1.take j))) (cellsOfL .u32 ((still (L1.take j)).map (conv .u32))) w1 wr) (fun _ _ i _ => m1 - (intOf i).toNat)
  case atStart => exact ⟨0, 0, by omega, by omega, rfl, rfl, Pair.start w1 _ _⟩
  case round =>
    obtain ⟨j, m, hj, hmj, hm, rfl, hG⟩ := hrel
    by_cases hlt : j < m1
    · obtain ⟨⟨d, y, z⟩, hs⟩ : ∃ s, L1[j]? = some s := ⟨_, List.getElem?_eq_getElem (by rw [hS1.1]; exact hlt)⟩
      obtain ⟨b, off, rfl, q0, q1, q2⟩ := hS1.2 j _ hs
      have p0 := cell_kept hG.g1.below q0
      have p1 := cell_kept hG.g1.below q1
      have p2 := cell_kept hG.g1.below q2
      have Q0 := Lib.hid q0; clear q0
      have Q1 := Lib.hid q1; clear q1
      have Q2 := Lib.hid q2; clear q2
      have i1 : (0 : Int) ≤ (j : Int) := by omega
      have i2 : (j : Int) < (m1 : Int) := by omega
      by_cases hd : d = 6
      · subst hd
        have HK := Lib.hid (still_skip L1 j _ hs rfl); clear hs
        go_wp2
        go_roundw
        case rel => exact ⟨j + 1, m, by omega, by omega, by rw [HK.out]; exact hm, by go_num, by rw [HK.out]; exact hG⟩
        case measure => simp [intOf]; omega
      · have HK := Lib.hid (still_snoc L1 j _ hs hd); clear hs
        have f6 : (d != 6) = true := by simpa using hd
        obtain ⟨yl, ylh⟩ : ∃ yl, IntKind.u32.wrap y = yl := ⟨_, rfl⟩
        have yle : y % 4294967296 = yl := by rw [← ylh, IntKind.wrap_u32]
        obtain ⟨zl, zlh⟩ : ∃ zl, IntKind.u32.wrap z = zl := ⟨_, rfl⟩
        have zle : z % 4294967296 = zl := by rw [← zlh, IntKind.wrap_u32]
        go_wp2_with (first | (at_builtin; refine wp_wide rfl (.tmp 32) (.tmp 37) rfl (d, y, z) (hG.alloc _) rfl rfl (heap_alloc_new wr _) (by omega) ?_; intro v2 w2 hP2; have r0 := cell_kept hP2.g1.below Q0.out; have r1 := cell_kept hP2.g1.below Q1.out; have r2 := cell_kept hP2.g1.below Q2.out; clear p0 p1 p2 hG))
        go_region_held3 (fun w' => w'.cell? ⟨b, off + j * 3, none⟩ = some (.int .i64 d) ∧ w'.cell? ⟨b, off + j * 3 + 1, none⟩ = some (.int .u64 y) ∧ w'.cell? ⟨b, off + j * 3 + 2, none⟩ = some (.int .u64 z))
          (first | go_keep | exact ⟨cell_kept hP3.g1.below Q0.out, cell_kept hP3.g1.below Q1.out, cell_kept hP3.g1.below Q2.out⟩)
          ((refine step_narrow (by rfl) _ _ (by rfl) (d, yl, zl) ((hP2.alloc _).drew) (by rfl) (by rfl) (heap_alloc_new w2 _) (by omega) ?_; intro v3 w3 hP3))
        go_wp2
        go_roundw
        case rel =>
          refine ⟨j + 1, m + 1, by omega, by omega, by rw [HK.out]; simp [← hm], by go_num, ?_⟩
          rw [HK.out, List.map_append, cellsOfL_append, cellsOfL_append]
          have e1 : cellsOfL .u64 [(d, y, z)] = cellsOf1 .u64 (d, y, z) := by simp [cellsOfL]
          have e2 : cellsOfL .u32 ([(d, y, z)].map (conv .u32)) = cellsOf1 .u32 (d, yl, zl) := by simp [cellsOfL, conv, ylh, zlh]
          rw [e1, e2]
          exact hP3
        case measure => simp [intOf]; omega
    · have hj' : j = m1 := by omega
      subst hj'
      rw [List.take_of_length_le (by rw [hS1.1]; exact Nat.le_refl _)] at hG hm
      obtain ⟨A7, c7, rfl, hc7, hT1⟩ := Gath.steps (L := still L1) hG.g1
      obtain ⟨A3, c3, rfl, hc3, hT2⟩ := Gath.steps (L := (still L1).map (conv .u32)) hG.g2
      have hb2 := ext_trans hb1 hG.g1.below
      generalize hfx : fin .u64 0 (still L1) = x1 at HP
      generalize hzx : ans .u64 0 (still L1) = z1 at HP
      have hlen : z1.length = m := by rw [← hzx, ans_length, hm]
      have hm9 : m ≤ 8796093022208 := by clear hm hlen hzx hfx HP; omega
      clear hG hb1 hS1 hlt hm
      have HN : m ≤ 8796093022208 := by clear HP hfx hzx hlen; omega
      go_wp2_with fail
      refine (U64run_to (n := m) (x := x1) (zs := z1) (still L1) _ HN hT1 hfx hzx).mono ?_
      rintro e w4 ⟨A4, c4, rfl, hc4, hI4, hb4⟩
      go_wp2_with fail
      refine (U32run_to (n := m) (x := IntKind.u32.wrap x1) (zs := z1.map IntKind.u32.wrap) ((still L1).map (conv .u32)) _ HN (hT2.keep hb4) HP.out.2 HP.out.1).mono ?_
      rintro e w5 ⟨A5, c5, rfl, hc5, hI5, hb5⟩
      replace hI4 := hI4.keep hb5
      have hb6 := ext_trans (ext_trans hb2 hb4) hb5
      clear hb2 hb4 hb5 HP hfx hzx hT1 hT2
      obtain ⟨y1, y1h⟩ : ∃ y1, IntKind.u32.wrap x1 = y1 := ⟨_, rfl⟩
      have y1e : x1 % 4294967296 = y1 := by rw [← y1h, IntKind.wrap_u32]
      rw [y1h]
      go_wp2_with fail
      go_loopw [12] (fun i wr => ∃ q : Nat, q ≤ m ∧ i = .int .i64 q ∧ Below w5.heap.size w5 wr) (fun i _ => m - (intOf i).toNat)
      case atStart => exact ⟨0, by omega, rfl, Below.refl _ _⟩
      case round =>
        obtain ⟨q, hq, rfl, hbq⟩ := hrel
        by_cases hqt : q < m
        · obtain ⟨z, hs⟩ : ∃ s, z1[q]? = some s := ⟨_, List.getElem?_eq_getElem (by rw [hlen]; exact hqt)⟩
          obtain ⟨b, off, rfl, k0⟩ := hI4.2 q _ hs
          obtain ⟨b', off', rfl, k1⟩ := hI5.2 q (IntKind.u32.wrap z) (by rw [List.getElem?_map, hs]; rfl)
          replace k0 := cell_kept hbq k0
          replace k1 := cell_kept hbq k1
          clear hs
          have i1 : (0 : Int) ≤ (q : Int) := by omega
          have i2 : (q : Int) < (m : Int) := by omega
          obtain ⟨z2, z2h⟩ : ∃ z2, IntKind.u32.wrap z = z2 := ⟨_, rfl⟩
          have z2e : z % 4294967296 = z2 := by rw [← z2h, IntKind.wrap_u32]
          rw [z2h] at k1
          go_wp2_with fail
          go_quiet (fail)
          go_wp2
          go_roundw
          case rel => exact ⟨q + 1, by omega, by go_num, below_drewN hbq _⟩
          case measure => simp [intOf]; omega
        · go_wp2_with fail
          refine (I32.alive_any _).mono ?_
          rintro e wz ⟨rfl, hbz⟩
          go_wp2
          go_ret
          exact ⟨rfl, ext_trans (below_into hb6 hb6.size hbq) hbz⟩
theorem own_fnLowBits : ownKnob Try.prog.godebug = none := by kernel_rfl
theorem laidOut_fnLowBits : laidOutB Try.prog = true := by kernel_rfl
set_option maxRecDepth 100000 in
theorem lifted_fnLowBits (os : Os) (started : os.Started) (H : Type) (enc : TypeId × Value → H) :
    ReturnsInHanded {} Try.checked os 4 .any (Rows.fnLowBitsSpec.pre6 enc Try.prog Try.f4 Rows.fnLowBitsRow.domain false) (Rows.fnLowBitsSpec.post enc Try.prog Try.f4 false true false false) := by
  refine returnsInHanded_of_change (C := Try.checked) own_fnLowBits started (by kernel_rfl) Try.func4
    (ChangeSpec.witness6 (enc := enc) (C := Try.checked) false ⟨#[], #[.slice none 0 0], []⟩ 8 (by kernel_rfl) (by kernel_rfl) (by kernel_rfl) (by kernel_rfl)) ?_
  intro W base args ds gs before hval0 hW hcnd _
  have hval : ∀ (j : Nat) t v, Try.f4.params[j]? = some t → args[j]? = some v → Value.okWide Try.prog W .any base t v := hval0
  have hW' := hW
  obtain ⟨p, q, hA0, hV, rfl, hfz, hnd⟩ := hW
  have hA : DataW.TrodAll enc Try.prog W 0 (fun _ => true) true Try.f4.params.toList args.toList ds p := hA0
  rw [Try.params4] at hA hval
  obtain ⟨v0, vs0, d0, ds0, p0, q0, hargs, rfl, rfl, h0, r0⟩ := trodAll_cons hA
  obtain ⟨rfl, rfl, rfl⟩ := trodAll_nil r0
  obtain rfl : args = #[v0] := by cases args; simp_all
  obtain ⟨rfl, rfl⟩ := trodVars_none hV
  obtain ⟨a0, len0, cap0, rfl⟩ := okWide_slice Try.underlying22 (hval 0 22 v0 rfl rfl)
  have k0 := h0
  have lt0 : ∀ x ∈ p0, x.block < W.heap.size := by obtain ⟨m, hm⟩ := k0; exact DataW.trod_lt m _ _ _ hm
  have hB : Bytes W a0 len0 := by
    obtain ⟨fuel, hf⟩ := h0
    rcases open_ints Try.underlying22 Try.underlying5 (by kernel_rfl) hf with ⟨hcs, _⟩ | ⟨x, l, c, zs, hcs, _, hl, hm, hz, _, hcell, hwz⟩
    · simp [Value.cells] at hcs
      obtain ⟨rfl, rfl, rfl⟩ := hcs
      exact Bytes.of_row (cap := 0) (zs := []) (.inl ⟨rfl, rfl, rfl, rfl⟩)
    · simp [Value.cells] at hcs
      obtain ⟨rfl, rfl, rfl⟩ := hcs
      exact Bytes.of_row (.inr ⟨_, rfl, hl, hm, by simpa using hz, hcell, hwz⟩)
  clear hA0 hval0
  refine (walk_LowBits a0 len0 cap0 W hB).mono fun e W' ⟨he, bel⟩ => ?_
  subst he
  exact ⟨_, rfl, _, _, _, [], _, [], hW', trodAll_mk1 (shut_bool Try.underlying4 _), (trodAll_cons_mk (Below.trod laidOut_fnLowBits (by kernel_rfl) (of_decide_eq_true (by kernel_rfl)) k0 bel lt0) trodAll_mk0), rfl, bel.frame _, fun h => by cases h⟩

theorem fnLowBits_holds : Rows.FnLowBitsSaid :=
  OpenClaim.holds_of_wide 4 Try.f4 rfl rfl rfl rfl rfl rfl rfl ⟨rfl, rfl, rfl, rfl, rfl⟩ rfl rfl rfl rfl rfl (by kernel_rfl) Try.func4 (by kernel_rfl)
    (of_decide_eq_true (by kernel_rfl)) (by unfold Func.isWrapper; first | (rw [if_pos (by decide +kernel)]; kernel_rfl) | (rw [if_neg (by decide +kernel)]; exact ⟨rfl, rfl⟩))
    (fun os started H enc _ => lifted_fnLowBits os started H enc)
#print axioms fnLowBits_holds
end Go.Proofs.Ytclhdhpjgabpeaa
