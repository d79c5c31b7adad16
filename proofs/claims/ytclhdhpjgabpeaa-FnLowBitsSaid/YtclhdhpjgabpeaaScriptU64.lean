/-
  spec.rd.ScriptUint64 draws a script of at most 21 steps in new memory; spec.DrawUint64 two of them, spec.DrawTwoUint64 three numbers: nothing that was there is changed. Conditions: the bytes are a slice of bytes.
-/
import Derived.Test.YtclhdhpjgabpeaaDrawBits
import Derived.Test.YtclhdhpjgabpeaaAfterU64
namespace Go.Proofs.Ytclhdhpjgabpeaa.U64
open Go.RowKit
theorem infoS : (Try.prog.info? 45).map (fun i => (i.zero, i.size, i.bytes)) = some (some (.agg #[.int .i64 0, .int .u64 0, .int .u64 0]), 3, 24) := by kernel_rfl
theorem lt_of_blk {w : World} {g : Nat} {o : Obj} (h : w.heap[g]? = some o) : g < w.heap.size := (Array.getElem?_eq_some_iff.1 h).1
theorem wf_i64s (d : Int) (h0 : -1 ≤ d) (h1 : d ≤ 21) : (Lit.int .i64 d).wf = true := WalkArith.wf_i64 (by omega)
theorem wf_of_u64 {z : Int} (h : U64 z) : (Lit.int .u64 z).wf = true := WalkArith.wf_u64 h
/-- append of one step onto the steps that are drawn. -/
theorem wp_step {ops : Array Oper} {rest : List Oper} {o : Oper} {a : Act} {Q : Exit → Act → World → Prop} (hgd : o.guard = none) (s x : Operand)
    (ho : o.op = .call { callee := .builtin .append, args := #[s, x], argTypes := #[40, 40] })
    {R : Nat} {v : Value} {n sz : Nat} {L : List Step} {w wm : World} {st : Step} (hm : Drawn R w.heap.size 45 .u64 v n L w wm) (hs : a.eval s = v)
    (hx : a.eval x = .slice (some ⟨sz, 0, none⟩) 1 1) (hsz : sz = wm.heap.size) (hn : n ≤ 1000000)
    (h : ∀ v' w1, Drawn R w.heap.size 45 .u64 v' (n + 1) (L ++ [st]) w w1 → wm.grownBy w1 v.ownBlock → wpList Try.prog ops Q rest (a.put o.dst v') w1) : wpList Try.prog ops Q (o :: rest) a (wm.alloc (.cells #[.int .i64 st.1, .int .u64 st.2.1, .int .u64 st.2.2] 45)) := by
  obtain ⟨i0, hi, hz0, hz1, hz2⟩ := info_parts infoS
  subst hsz
  refine wpList_append_own_at _ hgd s x 40 ho w.heap.size 45 i0 _ 3 24 Try.underlying40 hi hz0 hz1 hz2 rfl (by decide) v n _ hs (hm.own.alloc _) ⟨wm.heap.size, 0, none⟩ 1 1 (cellsOf1 .u64 st) hx rfl (cells_new3 _ _ _ _) (one_cell3 _ _) (by unfold maxLen; omega) (by omega)
    (by have := hm.lo; simp; omega) ?_
  intro v' w1 hown hg _ _
  exact h v' w1 ((hm.alloc _).append hown hg) ((World.grownBy_alloc _ _ _).trans hg)

def ScriptPost (k : IntKind) (R : Nat) (A : Option Addr) (n c p : Nat) (w : World) (e : Ending) (w' : World) : Prop :=
  ∃ A' m c' L p', e = .returned (.slice A' m c') ∧ m ≤ 21 ∧ m ≤ c' ∧ Steps k w' A' m L ∧ (∀ a, A' = some a → ¬ a.block = R) ∧ (∀ s ∈ L, Wf k s) ∧ p' ≤ p + 500 ∧ Rdr w' R A n c p' ∧ w.grownBy w' (some R)

set_option maxHeartbeats 2000000 in
theorem script_any (R : Nat) (A : Option Addr) (n c p : Nat) (w : World) (hr : Rdr w R A n c p) (hp : p ≤ 900000) :
    Calls Try.prog 29 #[.pointer (some ⟨R, 0, none⟩)] w (ScriptPost .u64 R A n c p w) := by
  go_enter Try.func29, Try.ntmps29
  go_wp2_with fail
  refine (long_any R A n c p _ (hr.alloc _) (by omega)).mono ?_
  rintro e w1 ⟨_, p1, ⟨K, hK0, hK1, rfl⟩, hp1, rfl, hR1, hg1⟩
  have hD : Drawn R w.heap.size 45 .u64 (.slice (some ⟨w.heap.size, 0, none⟩) 0 0) 0 [] w w1 :=
    Drawn.keep ⟨World.ownsRow_made w #[] 0 (Nat.le_refl _) (by unfold maxLen; omega) (by simp), World.grownBy_alloc w _ _, by simp, hr.lt⟩ hg1
  go_wp2_with fail
  go_loopw [3, 4, 5] (fun v x i wr => ∃ (j q : Nat) (z x0 : Int) (L : List Step), i = .int .i64 z ∧ -1 ≤ z ∧ z ≤ 21 - (j : Int) ∧ j ≤ 21 ∧ x = .int .u64 x0 ∧ Hid ((Lit.int .u64 x0).wf = true) ∧ q ≤ p + 1 + j * 20 ∧ Rdr wr R A n c q ∧ Drawn R w.heap.size 45 .u64 v j L w wr ∧ Hid (∀ s ∈ L, Wf .u64 s)) (fun _ _ i _ => (intOf i).toNat)
  case atStart => exact ⟨0, p1, K, 0, [], rfl, hK0, by omega, by omega, rfl, Lib.hid (wfK_small _ _ (.inl rfl)), by omega, hR1, hD, Lib.hid (by simp)⟩
  case round =>
    obtain ⟨j, q, z, x0, L, rfl, hz0, hz1, hj, rfl, hx0, hq, hRr, hDr, hLr⟩ := hrel
    by_cases hlt : 0 < z
    · go_wp2_with fail
      refine (do_any R A n c q _ hRr (by omega)).mono ?_
      rintro e w2 ⟨_, q2, ⟨d, hd0, hd1, rfl⟩, hq2, rfl, hR2, hg2⟩
      replace hDr := hDr.keep hg2
      go_wp2_with fail
      refine (bits_any R A n c q2 _ hR2 (by omega)).mono ?_
      rintro e w3 ⟨_, q3, ⟨y, hy, rfl⟩, hq3, rfl, hR3, hg3⟩
      replace hDr := hDr.keep hg3
      have HY := Lib.hid hy; clear hy
      go_wp2_with fail
      refine (bits_any R A n c q3 _ hR3 (by omega)).mono ?_
      rintro e w4 ⟨_, q4, ⟨y', hy', rfl⟩, hq4, rfl, hR4, hg4⟩
      replace hDr := hDr.keep hg4
      have HY' := Lib.hid hy'; clear hy'
      clear hR1 hg1 hD hRr hR2 hg2 hR3 hg3 hg4
      by_cases hd : d = 6
      · subst hd
        go_wp2_with fail
        have hwa := Lib.hid (wf_of_u64 HY.out)
        obtain ⟨a, rfl⟩ : ∃ a, a = y := ⟨_, rfl⟩
        have hwb := Lib.hid (wf_of_u64 HY'.out)
        obtain ⟨b, rfl⟩ : ∃ b, b = y' := ⟨_, rfl⟩
        refine (pick_any R A n c q4 2 _ (hR4.alloc _) (by omega) (by omega)).mono ?_
        rintro e w5 ⟨r, hr0, hr1, rfl, hRv, hg5⟩
        have hDv := (hDr.alloc (.cells #[.int .i64 6, .int .u64 a, .int .u64 b] 45)).keep hg5
        have hV := (hg5.block w4.heap.size (by simp) (by intro e; injection e with e; have := hR4.lt; omega)).trans (heap_alloc_new w4 (.cells #[.int .i64 6, .int .u64 a, .int .u64 b] 45))
        have hfar := hDr.far
        clear hg5
        by_cases hr2 : r = 0
        · subst hr2
          have c0 := cell_of_row w5 w4.heap.size 0 _ _ _ hV
          have c1 := cell_of_row w5 w4.heap.size 1 _ _ _ hV
          have c2 := cell_of_row w5 w4.heap.size 2 _ _ _ hV
          have fz : w5.frozen? ⟨w4.heap.size, 1, none⟩ = false := by simp [World.frozen?, hV]
          simp at c0 c1 c2
          replace hDv := hDv.setFar (g := w4.heap.size) hDr.lo hfar 1 (.int .u64 x0)
          replace hRv := hr.re hDv.grow ((Below.heap_setCell w5 ⟨w4.heap.size, 1, none⟩ (.int .u64 x0) R (by have := hR4.lt; simp; omega)).trans hRv.blk)
          replace hV : (w5.setCell ⟨w4.heap.size, 1, none⟩ (.int .u64 x0)).heap[w4.heap.size]? = some (.cells #[.int .i64 6, .int .u64 x0, .int .u64 b] 45 (0, 0)) := by simp [World.setCell, Array.getElem?_modify, hV]
          clear hDr hR4 hfar
          go_wp2_with fail
          clear c0 c1 c2 fz
          refine (after_any x0 6 x0 b _).mono ?_
          rintro e w6 ⟨rfl, hb6⟩
          replace hDv := hDv.below hb6
          replace hRv := hRv.keep hb6
          replace hV := (hb6.block w4.heap.size (lt_of_blk hV)).trans hV
          have c0 := cell_of_row w6 w4.heap.size 0 _ _ _ hV
          have c1 := cell_of_row w6 w4.heap.size 1 _ _ _ hV
          have c2 := cell_of_row w6 w4.heap.size 2 _ _ _ hV
          simp at c0 c1 c2
          have HW := Lib.hid (after_wf .u64 x0 (6, x0, b) hx0.out ⟨wf_i64s 6 (by omega) (by omega), hx0.out, hwb.out⟩).2
          generalize after .u64 x0 (6, x0, b) = pr at HW
          obtain ⟨r1, x1⟩ := pr
          clear hb6 hV
          go_wp2_with (at_builtin; refine wp_step rfl (.tmp 37) (.tmp 39) rfl (st := (6, x0, b)) hDv rfl rfl (by simp) (by omega) ?_; intro v1 w7 hD7 hg7)
          have hR7 := hr.re hD7.grow ((hg7.block R hRv.lt (fun e => by have := (hDv.own.lt R e.symm).1; have := hDv.old; omega)).trans hRv.blk)
          go_roundw
          case rel => exact ⟨j + 1, _, z - 1, x1, L ++ [(6, x0, b)], by go_num, by omega, by omega, by omega, rfl, HW, by omega, hR7, hD7, Lib.hid (by intro s hs; rcases List.mem_append.1 hs with h | h; exact hLr.out s h; simp at h; subst h; exact ⟨wf_i64s _ (by omega) (by omega), hx0.out, hwb.out⟩)⟩
          case measure => simp [intOf]; omega
        · have hrb : (r == 0) = false := by simpa using hr2
          have c0 := cell_of_row w5 w4.heap.size 0 _ _ _ hV
          have c1 := cell_of_row w5 w4.heap.size 1 _ _ _ hV
          have c2 := cell_of_row w5 w4.heap.size 2 _ _ _ hV
          simp at c0 c1 c2
          clear hDr hR4 hfar
          go_wp2_with fail
          clear c0 c1 c2
          refine (after_any x0 6 a b _).mono ?_
          rintro e w6 ⟨rfl, hb6⟩
          replace hDv := hDv.below hb6
          replace hRv := hRv.keep hb6
          replace hV := (hb6.block w4.heap.size (lt_of_blk hV)).trans hV
          have c0 := cell_of_row w6 w4.heap.size 0 _ _ _ hV
          have c1 := cell_of_row w6 w4.heap.size 1 _ _ _ hV
          have c2 := cell_of_row w6 w4.heap.size 2 _ _ _ hV
          simp at c0 c1 c2
          have HW := Lib.hid (after_wf .u64 x0 (6, a, b) hx0.out ⟨wf_i64s 6 (by omega) (by omega), hwa.out, hwb.out⟩).2
          generalize after .u64 x0 (6, a, b) = pr at HW
          obtain ⟨r1, x1⟩ := pr
          clear hb6 hV
          go_wp2_with (at_builtin; refine wp_step rfl (.tmp 37) (.tmp 39) rfl (st := (6, a, b)) hDv rfl rfl (by simp) (by omega) ?_; intro v1 w7 hD7 hg7)
          have hR7 := hr.re hD7.grow ((hg7.block R hRv.lt (fun e => by have := (hDv.own.lt R e.symm).1; have := hDv.old; omega)).trans hRv.blk)
          go_roundw
          case rel => exact ⟨j + 1, _, z - 1, x1, L ++ [(6, a, b)], by go_num, by omega, by omega, by omega, rfl, HW, by omega, hR7, hD7, Lib.hid (by intro s hs; rcases List.mem_append.1 hs with h | h; exact hLr.out s h; simp at h; subst h; exact ⟨wf_i64s _ (by omega) (by omega), hwa.out, hwb.out⟩)⟩
          case measure => simp [intOf]; omega
      · have hdb : (d == 6) = false := by simpa using hd
        go_wp2_with fail
        have hwa := Lib.hid (wf_of_u64 HY.out)
        obtain ⟨a, rfl⟩ : ∃ a, a = y := ⟨_, rfl⟩
        have hwb := Lib.hid (wf_of_u64 HY'.out)
        obtain ⟨b, rfl⟩ : ∃ b, b = y' := ⟨_, rfl⟩
        have hDv := hDr.alloc (.cells #[.int .i64 d, .int .u64 a, .int .u64 b] 45)
        have hRv := hR4.alloc (.cells #[.int .i64 d, .int .u64 a, .int .u64 b] 45)
        have hV := heap_alloc_new w4 (.cells #[.int .i64 d, .int .u64 a, .int .u64 b] 45)
        clear hDr hR4
        refine (after_any x0 d a b _).mono ?_
        rintro e w6 ⟨rfl, hb6⟩
        replace hDv := hDv.below hb6
        replace hRv := hRv.keep hb6
        replace hV := (hb6.block w4.heap.size (lt_of_blk hV)).trans hV
        have c0 := cell_of_row w6 w4.heap.size 0 _ _ _ hV
        have c1 := cell_of_row w6 w4.heap.size 1 _ _ _ hV
        have c2 := cell_of_row w6 w4.heap.size 2 _ _ _ hV
        simp at c0 c1 c2
        have HW := Lib.hid (after_wf .u64 x0 (d, a, b) hx0.out ⟨wf_i64s d (by omega) (by omega), hwa.out, hwb.out⟩).2
        generalize after .u64 x0 (d, a, b) = pr at HW
        obtain ⟨r1, x1⟩ := pr
        clear hb6 hV
        go_wp2_with (at_builtin; refine wp_step rfl (.tmp 37) (.tmp 39) rfl (st := (d, a, b)) hDv rfl rfl (by simp) (by omega) ?_; intro v1 w7 hD7 hg7)
        have hR7 := hr.re hD7.grow ((hg7.block R hRv.lt (fun e => by have := (hDv.own.lt R e.symm).1; have := hDv.old; omega)).trans hRv.blk)
        go_roundw
        case rel => exact ⟨j + 1, _, z - 1, x1, L ++ [(d, a, b)], by go_num, by omega, by omega, by omega, rfl, HW, by omega, hR7, hD7, Lib.hid (by intro s hs; rcases List.mem_append.1 hs with h | h; exact hLr.out s h; simp at h; subst h; exact ⟨wf_i64s _ (by omega) (by omega), hwa.out, hwb.out⟩)⟩
        case measure => simp [intOf]; omega
    · go_wp2
      go_ret
      obtain ⟨A', c', rfl, hc', hS⟩ := hDr.steps
      exact ⟨A', j, c', L, q, rfl, hj, hc', hS, fun a ha => by have := (hDr.own.lt a.block (by rw [ha]; rfl)).1; have := hDr.old; omega, hLr.out, by omega, hRr, hDr.grow⟩

def DrawPost (k : IntKind) (w : World) (e : Ending) (w' : World) : Prop :=
  ∃ A1 m1 c1 L1 A2 m2 c2 L2, e = .returned (.tuple #[.slice A1 m1 c1, .slice A2 m2 c2]) ∧ m1 ≤ 21 ∧ m1 ≤ c1 ∧ Steps k w' A1 m1 L1 ∧ (∀ s ∈ L1, Wf k s) ∧ m2 ≤ 21 ∧ m2 ≤ c2 ∧ Steps k w' A2 m2 L2 ∧ (∀ s ∈ L2, Wf k s) ∧ Below w.heap.size w w'
theorem draw_any (A : Option Addr) (n c : Nat) (w : World) (hB : Bytes w A n) : Calls Try.prog 10 #[.slice A n c] w (DrawPost .u64 w) := by
  go_enter Try.func10, Try.ntmps10
  go_wp2_with fail
  refine (script_any w.heap.size A n c 0 _ (Rdr.start hB) (by omega)).mono ?_
  rintro e w1 ⟨A1, m1, c1, L1, p1, rfl, hm1, hc1, hS1, hne1, hW1, hp1, hR1, hg1⟩
  go_wp2_with fail
  refine (script_any w.heap.size A n c p1 _ hR1 (by omega)).mono ?_
  rintro e w2 ⟨A2, m2, c2, L2, p2, rfl, hm2, hc2, hS2, hne2, hW2, hp2, hR2, hg2⟩
  have HS1 := Lib.hid (hS1.grown hg2 hne1)
  have HW1 := Lib.hid hW1; clear hW1 hne1 hne2
  have HW2 := Lib.hid hW2; clear hW2
  go_wp2
  go_ret2
  exact ⟨A1, m1, c1, L1, A2, m2, c2, L2, rfl, hm1, hc1, HS1.out, HW1.out, hm2, hc2, hS2, HW2.out, below_of_box (hg1.trans hg2)⟩

def TwoPost (k : IntKind) (w : World) (e : Ending) (w' : World) : Prop :=
  ∃ a b c : Int, e = .returned (.tuple #[.int k a, .int k b, .int k c]) ∧ (Lit.int k a).wf = true ∧ (Lit.int k b).wf = true ∧ (Lit.int k c).wf = true ∧ Below w.heap.size w w'
end Go.Proofs.Ytclhdhpjgabpeaa.U64
