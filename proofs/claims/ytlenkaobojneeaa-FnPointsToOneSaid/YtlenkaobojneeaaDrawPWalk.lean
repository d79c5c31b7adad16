/-
  spec.DrawPointer draws two scripts of pointers of at most 21 steps each in new memory; nothing that was there is changed. Conditions: the bytes are a slice of bytes.
-/
import Derived.Test.YtlenkaobojneeaaDrawP
import Derived.Deep.AppendLies
import Derived.Deep.RegionLaw
import Derived.Deep.DrawnRows
namespace Go.Proofs.Ytlenkaobojneeaa.P
open Go.RowKit
attribute [local go_sem ↓] Go.wp_at_zero Go.wp_at_succ
theorem own_steps {w : World} {B n : Nat} {e : TypeId} {v : Value} {L : List Step} (h : w.ownsRow B e 3 v n (cellsOfL .i64 L)) : ∃ A c, v = .slice A n c ∧ n ≤ c ∧ Steps .i64 w A n L := by
  rcases h.2 with ⟨hv, hn⟩ | ⟨g, cap, cur, hv, _, _, hnc, _⟩
  · subst hn; rw [hv] at h; exact ⟨none, 0, hv, Nat.le_refl _, Steps.of_own h⟩
  · rw [hv] at h; exact ⟨_, cap, hv, hnc, Steps.of_own h⟩
theorem two_start (A : Option Addr) (n c : Nat) (w : World) (hB : Bytes w A n) : Two w.heap.size (w.heap.size + 1 + 1 + 1) A n c 0 (.slice (some ⟨w.heap.size + 1, 0, none⟩) 0 0) (.slice (some ⟨w.heap.size + 1 + 1, 0, none⟩) 0 0) [] [] w
    ((((w.alloc (.cells #[.slice A n c, .int .i64 0] 57)).alloc (.cells #[] 32)).alloc (.cells #[] 32)).alloc (.cells #[.slice (some ⟨w.heap.size + 1, 0, none⟩) 0 0, .slice (some ⟨w.heap.size + 1 + 1, 0, none⟩) 0 0] 22)) := by
  have h0 : Rdr (w.alloc (.cells #[.slice A n c, .int .i64 0] 57)) w.heap.size A n c 0 := Rdr.start hB
  have s1 : (w.alloc (.cells #[.slice A n c, .int .i64 0] 57)).heap.size = w.heap.size + 1 := by simp
  have s2 : ((w.alloc (.cells #[.slice A n c, .int .i64 0] 57)).alloc (.cells #[] 32)).heap.size = w.heap.size + 1 + 1 := by simp
  have s3 : (((w.alloc (.cells #[.slice A n c, .int .i64 0] 57)).alloc (.cells #[] 32)).alloc (.cells #[] 32)).heap.size = w.heap.size + 1 + 1 + 1 := by simp
  have o0 := World.ownsRow_made (base := w.heap.size + 1) (e := 32) (size := 3) (w.alloc (.cells #[.slice A n c, .int .i64 0] 57)) #[] 0 (by omega) (by unfold maxLen; omega) (by simp)
  have o1 := World.ownsRow_made (base := w.heap.size + 1) (e := 32) (size := 3) ((w.alloc (.cells #[.slice A n c, .int .i64 0] 57)).alloc (.cells #[] 32)) #[] 0 (by omega) (by unfold maxLen; omega) (by simp)
  have g := heap_alloc_new (((w.alloc (.cells #[.slice A n c, .int .i64 0] 57)).alloc (.cells #[] 32)).alloc (.cells #[] 32)) (.cells #[.slice (some ⟨w.heap.size + 1, 0, none⟩) 0 0, .slice (some ⟨w.heap.size + 1 + 1, 0, none⟩) 0 0] 22)
  rw [s1] at o0
  rw [s2] at o1
  rw [s3] at g
  exact ⟨((h0.alloc _).alloc _).alloc _, g, (o0.alloc _).alloc _, o1.alloc _, by simp [Value.ownBlock], by simp [Value.ownBlock], by intro g hg; simp [Value.ownBlock] at hg ⊢; omega,
    ext_alloc (ext_alloc (ext_alloc (ext_new w _) _) _) _, rfl, by omega⟩
set_option maxHeartbeats 4000000 in
theorem draw_any (A : Option Addr) (n c : Nat) (w : World) (hB : Bytes w A n) : Calls Try.prog 11 #[.slice A n c] w fun e w' => ∃ A1 m1 c1 L1 A2 m2 c2 L2, e = .returned (.tuple #[.slice A1 m1 c1, .slice A2 m2 c2]) ∧ m1 ≤ 21 ∧ m1 ≤ c1 ∧ Steps .i64 w' A1 m1 L1 ∧ m2 ≤ 21 ∧ m2 ≤ c2 ∧ Steps .i64 w' A2 m2 L2 ∧ Below w.heap.size w w' := by
  obtain ⟨i0, hi0, if0, if1, if2⟩ := info_parts infoS
  go_enter Try.func11, Try.ntmps11
  go_wp2_with fail
  go_loopw [6] (fun i wr => ∃ (t q : Nat) (V0 V1 : Value) (L0 L1 : List Step), i = .int .i64 t ∧ t ≤ 2 ∧ L0.length ≤ 21 ∧ L1.length ≤ 21 ∧ q ≤ 100 * t ∧ (t = 0 → L0 = []) ∧ (t ≤ 1 → L1 = []) ∧ Two w.heap.size (w.heap.size + 1 + 1 + 1) A n c q V0 V1 L0 L1 w wr) (fun i _ => 2 - (intOf i).toNat)
  case atStart => exact ⟨0, 0, _, _, [], [], rfl, by omega, by simp, by simp, by omega, fun _ => rfl, fun _ => rfl, two_start A n c w hB⟩
  case round =>
    obtain ⟨t, q, V0, V1, L0, L1, rfl, ht, hl0, hl1, hq, he0, he1, hT⟩ := hrel
    rcases (show t = 0 ∨ t = 1 ∨ t = 2 by omega) with rfl | rfl | rfl
    · obtain rfl := he0 rfl
      obtain rfl := he1 (by omega)
      clear he0 he1
      go_wp2_with fail
      refine (long_any w.heap.size A n c q _ hT.rd (by omega)).mono ?_
      rintro e w1 ⟨_, q1, ⟨K, hK0, hK1, rfl⟩, hq1, rfl, hR1, hg1⟩
      have hT1 := hT.read hg1 hR1
      clear hT
      go_wp2_with fail
      go_loopw [7] (fun k wr => ∃ (q : Nat) (z : Int) (V0 : Value) (L0 : List Step), k = .int .i64 z ∧ -1 ≤ z ∧ z ≤ 21 - (L0.length : Int) ∧ L0.length ≤ 21 ∧ q ≤ 1 + L0.length * 4 ∧ Two w.heap.size (w.heap.size + 1 + 1 + 1) A n c q V0 V1 L0 [] w wr) (fun k _ => (intOf k).toNat)
      case atStart => exact ⟨q1, K, V0, [], rfl, hK0, by simpa using hK1, by simp, by simp; omega, hT1⟩
      case round =>
        obtain ⟨q, z, V0, L0, rfl, hz0, hz1, hl, hq, hT⟩ := hrel
        by_cases hlt : 0 < z
        · have hcell := hT.cell0
          have tok1 : True := trivial
          have tok2 : True := trivial
          have tok3 : True := trivial
          have HT := Lib.hid hT; clear hT
          go_wp2_with fail
          go_region_law
            (first
              | ((refine step_append_lies _ (by rfl) _ _ _ (by rfl) (w.heap.size + 1) 32 i0 _ 3 24 Try.underlying22 hi0 if0 if1 if2 rfl (by omega) V0 L0.length (cellsOfL .i64 L0) (by rfl) (hT5.alloc _).own0 ⟨w5.heap.size, 0, none⟩ 1 1 (cellsOf1 .i64 (d, IntKind.i64.wrap (IntKind.i64.wrap (r1 - 1) + IntKind.i64.wrap (IntKind.i64.wrap (r2.tdiv 19) * 7)), IntKind.i64.wrap (r3 - 1))) (by rfl) (by rfl) (World.news_of_block (cs := #[.int .i64 d, .int .i64 (IntKind.i64.wrap (IntKind.i64.wrap (r1 - 1) + IntKind.i64.wrap (IntKind.i64.wrap (r2.tdiv 19) * 7))), .int .i64 (IntKind.i64.wrap (r3 - 1))]) (t := 32) (fr := (0, 0)) (heap_alloc_new w5 _)) (one_cell3 _ _) (by omega) (by unfold maxLen; omega) (by omega) (by have := hT5.rd.lt; simp; omega) (w5.heap.size + 1) (by simp) ?_; intro g cap w6 hown6 hg6 hat6 hlt6; have hkeep := ((hT5.alloc _).far0 hg6).1; have hfree := ((hT5.alloc _).far0 hg6).2))
              | ((go_simp; go_at_call 22; refine (do_any w.heap.size A n c q _ HT.out.drew.rd (by omega)).mono ?_; rintro e w2 ⟨_, q2, ⟨d, hd0, hd1, rfl⟩, hq2, rfl, hR2, hg2⟩; have hT2 := HT.out.drew.read hg2 hR2; have hc2 := hT2.cell0))
              | ((go_simp; go_at_call 23; have _t := tok1; refine (pick_any w.heap.size A n c q2 5 _ hT2.rd (by omega) (by omega)).mono ?_; rintro e w3 ⟨r1, hr10, hr11, rfl, hR3, hg3⟩; have hT3 := hT2.read hg3 hR3; have hc3 := hT3.cell0; clear tok1))
              | ((go_simp; go_at_call 23; have _t := tok2; refine (pick_any w.heap.size A n c (q2 + 1) 20 _ hT3.rd (by omega) (by omega)).mono ?_; rintro e w4 ⟨r2, hr20, hr21, rfl, hR4, hg4⟩; have hT4 := hT3.read hg4 hR4; have hc4 := hT4.cell0; clear tok2))
              | ((go_simp; go_at_call 23; have _t := tok3; refine (pick_any w.heap.size A n c (q2 + 1 + 1) 4 _ hT4.rd (by omega) (by omega)).mono ?_; rintro e w5 ⟨r3, hr30, hr31, rfl, hR5, hg5⟩; have hT5 := hT4.read hg5 hR5; have hc5 := hT5.cell0; have hc6 := fun o => (hT5.alloc o).cell0; clear tok3)))
          all_goals
            have hT6 := (hT5.alloc _).put0 hB rfl hown6 hg6 (by simpa using hat6)
            clear hown6 hg6 hat6 hlt6 hkeep hfree hT2 hT3 hT4 hT5 HT hc2 hc3 hc4 hc5 hc6 hR2 hR3 hR4 hR5 hg2 hg3 hg4 hg5
            go_wp2
            go_roundw
            case rel => exact ⟨_, z - 1, _, L0 ++ [(d, IntKind.i64.wrap (IntKind.i64.wrap (r1 - 1) + IntKind.i64.wrap (IntKind.i64.wrap (r2.tdiv 19) * 7)), IntKind.i64.wrap (r3 - 1))], by go_num, by omega, by simp; omega, by simp; omega, by simp; omega, hT6⟩
            case measure => simp [intOf]; omega
        · go_wp2
          go_roundw
          case rel => exact ⟨1, q, V0, V1, L0, [], by go_num, by omega, by omega, by simp, by omega, by omega, fun _ => rfl, hT⟩
          case measure => simp [intOf]
    · obtain rfl := he1 (by omega)
      clear he0 he1
      go_wp2_with fail
      refine (long_any w.heap.size A n c q _ hT.rd (by omega)).mono ?_
      rintro e w1 ⟨_, q1, ⟨K, hK0, hK1, rfl⟩, hq1, rfl, hR1, hg1⟩
      have hT1 := hT.read hg1 hR1
      clear hT
      go_wp2_with fail
      go_loopw [7] (fun k wr => ∃ (q : Nat) (z : Int) (V1 : Value) (L1 : List Step), k = .int .i64 z ∧ -1 ≤ z ∧ z ≤ 21 - (L1.length : Int) ∧ L1.length ≤ 21 ∧ q ≤ 101 + L1.length * 4 ∧ Two w.heap.size (w.heap.size + 1 + 1 + 1) A n c q V0 V1 L0 L1 w wr) (fun k _ => (intOf k).toNat)
      case atStart => exact ⟨q1, K, V1, [], rfl, hK0, by simpa using hK1, by simp, by simp; omega, hT1⟩
      case round =>
        obtain ⟨q, z, V1, L1, rfl, hz0, hz1, hl, hq, hT⟩ := hrel
        by_cases hlt : 0 < z
        · have hcell := hT.cell1
          have tok1 : True := trivial
          have tok2 : True := trivial
          have tok3 : True := trivial
          have HT := Lib.hid hT; clear hT
          go_wp2_with fail
          go_region_law
            (first
              | ((refine step_append_lies _ (by rfl) _ _ _ (by rfl) (w.heap.size + 1) 32 i0 _ 3 24 Try.underlying22 hi0 if0 if1 if2 rfl (by omega) V1 L1.length (cellsOfL .i64 L1) (by rfl) (hT5.alloc _).own1 ⟨w5.heap.size, 0, none⟩ 1 1 (cellsOf1 .i64 (d, IntKind.i64.wrap (IntKind.i64.wrap (r1 - 1) + IntKind.i64.wrap (IntKind.i64.wrap (r2.tdiv 19) * 7)), IntKind.i64.wrap (r3 - 1))) (by rfl) (by rfl) (World.news_of_block (cs := #[.int .i64 d, .int .i64 (IntKind.i64.wrap (IntKind.i64.wrap (r1 - 1) + IntKind.i64.wrap (IntKind.i64.wrap (r2.tdiv 19) * 7))), .int .i64 (IntKind.i64.wrap (r3 - 1))]) (t := 32) (fr := (0, 0)) (heap_alloc_new w5 _)) (one_cell3 _ _) (by omega) (by unfold maxLen; omega) (by omega) (by have := hT5.rd.lt; simp; omega) (w5.heap.size + 1) (by simp) ?_; intro g cap w6 hown6 hg6 hat6 hlt6; have hkeep := ((hT5.alloc _).far1 hg6).1; have hfree := ((hT5.alloc _).far1 hg6).2))
              | ((go_simp; go_at_call 22; refine (do_any w.heap.size A n c q _ HT.out.drew.rd (by omega)).mono ?_; rintro e w2 ⟨_, q2, ⟨d, hd0, hd1, rfl⟩, hq2, rfl, hR2, hg2⟩; have hT2 := HT.out.drew.read hg2 hR2; have hc2 := hT2.cell1))
              | ((go_simp; go_at_call 23; have _t := tok1; refine (pick_any w.heap.size A n c q2 5 _ hT2.rd (by omega) (by omega)).mono ?_; rintro e w3 ⟨r1, hr10, hr11, rfl, hR3, hg3⟩; have hT3 := hT2.read hg3 hR3; have hc3 := hT3.cell1; clear tok1))
              | ((go_simp; go_at_call 23; have _t := tok2; refine (pick_any w.heap.size A n c (q2 + 1) 20 _ hT3.rd (by omega) (by omega)).mono ?_; rintro e w4 ⟨r2, hr20, hr21, rfl, hR4, hg4⟩; have hT4 := hT3.read hg4 hR4; have hc4 := hT4.cell1; clear tok2))
              | ((go_simp; go_at_call 23; have _t := tok3; refine (pick_any w.heap.size A n c (q2 + 1 + 1) 4 _ hT4.rd (by omega) (by omega)).mono ?_; rintro e w5 ⟨r3, hr30, hr31, rfl, hR5, hg5⟩; have hT5 := hT4.read hg5 hR5; have hc5 := hT5.cell1; have hc6 := fun o => (hT5.alloc o).cell1; clear tok3)))
          all_goals
            have hT6 := (hT5.alloc _).put1 hB rfl hown6 hg6 (by simpa using hat6)
            clear hown6 hg6 hat6 hlt6 hkeep hfree hT2 hT3 hT4 hT5 HT hc2 hc3 hc4 hc5 hc6 hR2 hR3 hR4 hR5 hg2 hg3 hg4 hg5
            go_wp2
            go_roundw
            case rel => exact ⟨_, z - 1, _, L1 ++ [(d, IntKind.i64.wrap (IntKind.i64.wrap (r1 - 1) + IntKind.i64.wrap (IntKind.i64.wrap (r2.tdiv 19) * 7)), IntKind.i64.wrap (r3 - 1))], by go_num, by omega, by simp; omega, by simp; omega, by simp; omega, hT6⟩
            case measure => simp [intOf]; omega
        · go_wp2
          go_roundw
          case rel => exact ⟨2, q, V0, V1, L0, L1, by go_num, by omega, by omega, by omega, by omega, by omega, by omega, hT⟩
          case measure => simp [intOf]
    · obtain ⟨A1, c1, rfl, hc1, hS1⟩ := own_steps hT.own0
      obtain ⟨A2, c2, rfl, hc2, hS2⟩ := own_steps hT.own1
      have k0 := hT.cell0
      have k1 := hT.cell1
      have hb := hT.below
      clear hT he0 he1
      go_wp2
      go_quiet (fail)
      go_wp2
      go_ret2
      exact ⟨A1, _, c1, L0, A2, _, c2, L1, rfl, hl0, hc1, hS1, hl1, hc2, hS2, below_drewN hb _⟩
end Go.Proofs.Ytlenkaobojneeaa.P
