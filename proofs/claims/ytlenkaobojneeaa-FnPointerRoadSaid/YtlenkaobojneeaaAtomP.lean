/-
  What each method of atomic.Pointer[int] does in the run of one goroutine, over pointers into the eight cells; impl.cell and impl.number; and append onto the answers of a run. Conditions: the cells and the pointer's own cell are there and may be written.
-/
import Derived.Test.YtlenkaobojneeaaRows
import Derived.Test.YtlenkaobojneeaaBaseP
import Derived.Deep.RegionHeld3
namespace Go.Proofs.Ytlenkaobojneeaa.P
open Go.RowKit
section
variable {a : Addr} {x y z : Option Addr} {w : World}
theorem at_store {u : Value} (hc : w.cell? a = some u) (hz : w.frozen? a = false) : (callFunc 31 #[.pointer (some a), .pointer y]).run Try.prog w = .ok (.value (.tuple #[])) (w.setCell a (.pointer y)) :=
  run_call_storeP Try.func31 (by kernel_rfl) (by kernel_rfl) (by kernel_rfl) (by kernel_rfl) hc hz
theorem at_load (hc : w.cell? a = some (.pointer x)) : (callFunc 34 #[.pointer (some a)]).run Try.prog w = .ok (.value (.pointer x)) w :=
  run_call_loadP Try.func34 (by kernel_rfl) (by kernel_rfl) (by kernel_rfl) (by kernel_rfl) hc
theorem at_swap (hc : w.cell? a = some (.pointer x)) (hz : w.frozen? a = false) : (callFunc 32 #[.pointer (some a), .pointer y]).run Try.prog w = .ok (.value (.pointer x)) (w.setCell a (.pointer y)) :=
  run_call_swapP Try.func32 (by kernel_rfl) (by kernel_rfl) (by kernel_rfl) (by kernel_rfl) hc hz
theorem at_cas {q : Bool} (hc : w.cell? a = some (.pointer x)) (hz : w.frozen? a = false) (hs : (samePointer x y).run Try.prog w = .ok q w) : (callFunc 33 #[.pointer (some a), .pointer y, .pointer z]).run Try.prog w = .ok (.value (.bool q)) (if q then w.setCell a (.pointer z) else w) :=
  run_call_casP Try.func33 (by kernel_rfl) (by kernel_rfl) (by kernel_rfl) (by kernel_rfl) hc hz hs
end
theorem lies : ∀ k, k < 8 → liesAt Try.prog Try.prog.depth 3 (8 / Try.prog.cellsOf 3) k 3 1 = true := by
  intro k hk
  rcases (show k = 0 ∨ k = 1 ∨ k = 2 ∨ k = 3 ∨ k = 4 ∨ k = 5 ∨ k = 6 ∨ k = 7 by omega) with rfl | rfl | rfl | rfl | rfl | rfl | rfl | rfl <;> kernel_rfl
theorem room : (Try.prog.info? 3).map (fun i => decide (i.size = 0)) = some false := by kernel_rfl
theorem to_u {C : Nat} {x : Int} {w : World} (hx : -1 ≤ x ∧ x ≤ 7) (hC : Eight w C) : (convert 41 45 (.pointer (pt C x))).run Try.prog w = .ok (.pointer (pt C x)) w :=
  run_to_unsafe Try.underlying41 Try.underlying45 room hx hC
theorem from_u {C : Nat} {x : Int} {w : World} (hx : -1 ≤ x ∧ x ≤ 7) (hC : Eight w C) : (convert 45 41 (.pointer (pt C x))).run Try.prog w = .ok (.pointer (pt C x)) w :=
  run_from_unsafe Try.underlying45 Try.underlying41 room lies hx hC
theorem Eight.set {w : World} {C b o : Nat} {u : Value} (h : Eight w C) (hne : ¬ C = b) : Eight (w.setCell ⟨b, o, none⟩ u) C := (Below.heap_setCell w ⟨b, o, none⟩ u C hne).trans h
section
variable {b o C : Nat} {x : Int} {w : World}
theorem m_store (y : Int) (hy : -1 ≤ y ∧ y ≤ 7) (hC : Eight w C) (hc : w.cell? ⟨b, o, none⟩ = some (.pointer (pt C x))) (hz : w.frozen? ⟨b, o, none⟩ = false) :
    Calls Try.prog 14 #[.pointer (some ⟨b, o, none⟩), .pointer (pt C y)] w fun e w' => e = .returned (.tuple #[]) ∧ w' = w.setCell ⟨b, o, none⟩ (.pointer (pt C y)) := by
  have hop := at_store (y := pt C y) hc hz
  have hv := to_u hy hC
  go_enter Try.func14, Try.ntmps14
  go_wp2
  go_end0
  exact ⟨rfl, rfl⟩
theorem m_swap (y : Int) (hy : -1 ≤ y ∧ y ≤ 7) (hx : -1 ≤ x ∧ x ≤ 7) (hC : Eight w C) (hne : ¬ C = b) (hc : w.cell? ⟨b, o, none⟩ = some (.pointer (pt C x))) (hz : w.frozen? ⟨b, o, none⟩ = false) :
    Calls Try.prog 17 #[.pointer (some ⟨b, o, none⟩), .pointer (pt C y)] w fun e w' => e = .returned (.pointer (pt C x)) ∧ w' = w.setCell ⟨b, o, none⟩ (.pointer (pt C y)) := by
  have hop := at_swap (y := pt C y) hc hz
  have hv := to_u hy hC
  have hu := from_u hx (hC.set (o := o) (u := .pointer (pt C y)) hne)
  go_enter Try.func17, Try.ntmps17
  go_wp2
  go_ret
  exact ⟨rfl, rfl⟩
theorem m_load (hx : -1 ≤ x ∧ x ≤ 7) (hC : Eight w C) (hc : w.cell? ⟨b, o, none⟩ = some (.pointer (pt C x))) :
    Calls Try.prog 19 #[.pointer (some ⟨b, o, none⟩)] w fun e w' => e = .returned (.pointer (pt C x)) ∧ w' = w := by
  have hop := at_load hc
  have hu := from_u hx hC
  go_enter Try.func19, Try.ntmps19
  go_wp2
  go_ret
  exact ⟨rfl, rfl⟩
theorem m_hit (z : Int) (hz' : -1 ≤ z ∧ z ≤ 7) (hx : -1 ≤ x ∧ x ≤ 7) (hC : Eight w C) (hc : w.cell? ⟨b, o, none⟩ = some (.pointer (pt C x))) (hz : w.frozen? ⟨b, o, none⟩ = false) :
    Calls Try.prog 18 #[.pointer (some ⟨b, o, none⟩), .pointer (pt C x), .pointer (pt C z)] w fun e w' => e = .returned (.bool true) ∧ w' = w.setCell ⟨b, o, none⟩ (.pointer (pt C z)) := by
  have hop := at_cas (z := pt C z) hc hz (run_same C x x hx hx w)
  rw [decide_eq_true rfl, if_pos rfl] at hop
  have hv := to_u hx hC
  have hv' := to_u hz' hC
  go_enter Try.func18, Try.ntmps18
  go_wp2
  go_ret
  exact ⟨rfl, rfl⟩
theorem m_miss (y z : Int) (hy : -1 ≤ y ∧ y ≤ 7) (hz' : -1 ≤ z ∧ z ≤ 7) (hx : -1 ≤ x ∧ x ≤ 7) (hC : Eight w C) (hc : w.cell? ⟨b, o, none⟩ = some (.pointer (pt C x))) (hz : w.frozen? ⟨b, o, none⟩ = false) (hne : ¬ x = y) :
    Calls Try.prog 18 #[.pointer (some ⟨b, o, none⟩), .pointer (pt C y), .pointer (pt C z)] w fun e w' => e = .returned (.bool false) ∧ w' = w := by
  have hop := at_cas (z := pt C z) hc hz (run_same C x y hx hy w)
  rw [decide_eq_false hne, if_neg (by simp)] at hop
  have hv := to_u hy hC
  have hv' := to_u hz' hC
  go_enter Try.func18, Try.ntmps18
  go_wp2
  go_ret
  exact ⟨rfl, rfl⟩
end
theorem cell_any (C : Nat) (y : Int) (w : World) : Calls Try.prog 15 #[.slice (some ⟨C, 0, none⟩) 8 8, .int .i64 y] w fun e w' => e = .returned (.pointer (pt C (cl y))) ∧ w' = w := by
  by_cases h0 : y < 0
  · rw [cl_out y (.inl h0), pt_none]
    go_enter Try.func15, Try.ntmps15
    go_wp2
    go_ret
    exact ⟨rfl, rfl⟩
  · by_cases h8 : 8 ≤ y
    · rw [cl_out y (.inr h8), pt_none]
      go_enter Try.func15, Try.ntmps15
      go_wp2
      go_ret
      exact ⟨rfl, rfl⟩
    · rw [cl_of y (by omega) (by omega)]
      obtain ⟨k, rfl⟩ := Int.eq_ofNat_of_zero_le (show 0 ≤ y by omega)
      rw [pt_some]
      go_enter Try.func15, Try.ntmps15
      go_wp2
      go_ret
      exact ⟨rfl, rfl⟩
theorem eql_none (C i : Nat) (w : World) : (binOp .eql 41 (.pointer none) (.pointer (some ⟨C, i, none⟩))).run Try.prog w = .ok (.bool false) w := by
  have h : ∀ d : Nat, (Op.equalIn (d + 1) 41 (.pointer none) (.pointer (some ⟨C, i, none⟩))).run Try.prog w = .ok false w := fun d => by
    simp [Op.equalIn, run_underlying Try.underlying41]
  simp only [binOp]
  simp [Op.equal, Op.maxDepth, h 9999]
theorem eql_some (C i j : Nat) (w : World) : (binOp .eql 41 (.pointer (some ⟨C, i, none⟩)) (.pointer (some ⟨C, j, none⟩))).run Try.prog w = .ok (.bool (decide (i = j))) w := by
  obtain ⟨t, ht, hz0⟩ := Option.map_eq_some_iff.1 room
  have hz : t.size ≠ 0 := by simpa using hz0
  have h : ∀ d : Nat, (Op.equalIn (d + 1) 41 (.pointer (some ⟨C, i, none⟩)) (.pointer (some ⟨C, j, none⟩))).run Try.prog w = .ok (decide (i = j)) w := fun d => by
    by_cases hij : i = j
    · subst hij; simp [Op.equalIn, run_underlying Try.underlying41, sizeOf, typeInfo, ht, sameAddr]
    · simp [Op.equalIn, run_underlying Try.underlying41, sizeOf, typeInfo, ht, hz, sameAddr, hij]
  simp only [binOp]
  simp [Op.equal, Op.maxDepth, h 9999]
theorem number_none (C : Nat) (w : World) : Calls Try.prog 16 #[.slice (some ⟨C, 0, none⟩) 8 8, .pointer none] w fun e w' => e = .returned (.int .i64 (-1)) ∧ w' = w := by
  go_enter Try.func16, Try.ntmps16
  go_wp2
  go_loop [8] (fun i => ∃ q : Nat, q ≤ 8 ∧ i = .int .i64 q) (fun i => 8 - (intOf i).toNat)
  case atStart => exact ⟨0, by omega, rfl⟩
  case round =>
    obtain ⟨q, hq, rfl⟩ := hrel
    by_cases hlt : q < 8
    · have he := eql_none C q w
      go_wp2
      go_round
      case rel => exact ⟨q + 1, by omega, by go_num⟩
      case measure => simp [intOf]; omega
    · go_wp2
      go_ret
      exact ⟨rfl, rfl⟩
theorem number_some (C k : Nat) (w : World) (hk : k < 8) : Calls Try.prog 16 #[.slice (some ⟨C, 0, none⟩) 8 8, .pointer (some ⟨C, k, none⟩)] w fun e w' => e = .returned (.int .i64 (k : Int)) ∧ w' = w := by
  go_enter Try.func16, Try.ntmps16
  go_wp2
  go_loop [8] (fun i => ∃ q : Nat, q ≤ k ∧ i = .int .i64 q) (fun i => 8 - (intOf i).toNat)
  case atStart => exact ⟨0, by omega, rfl⟩
  case round =>
    obtain ⟨q, hq, rfl⟩ := hrel
    have he := eql_some C k q w
    by_cases hlt : q = k
    · subst hlt
      rw [decide_eq_true rfl] at he
      go_wp2
      go_ret
      exact ⟨rfl, rfl⟩
    · rw [decide_eq_false (fun h => hlt h.symm)] at he
      go_wp2
      go_round
      case rel => exact ⟨q + 1, by omega, by go_num⟩
      case measure => simp [intOf]; omega
theorem number_any (C : Nat) (x : Int) (w : World) (hx : -1 ≤ x ∧ x ≤ 7) : Calls Try.prog 16 #[.slice (some ⟨C, 0, none⟩) 8 8, .pointer (pt C x)] w fun e w' => e = .returned (.int .i64 x) ∧ w' = w := by
  rcases pt_cases x hx with rfl | ⟨k, hk, rfl⟩
  · rw [pt_none]; exact number_none C w
  · rw [pt_some]; exact number_some C k w hk
theorem infoE : (Try.prog.info? 3).map (fun i => (i.zero, i.size, i.bytes)) = some (some (.int .i64 0), 1, 8) := by kernel_rfl
/-- append of one number onto the answers of a run. -/
theorem wp_ans {ops : Array Oper} {rest : List Oper} {o : Oper} {a : Act} {Q : Exit → Act → World → Prop} (hgd : o.guard = none) (s x : Operand)
    (ho : o.op = .call { callee := .builtin .append, args := #[s, x], argTypes := #[23, 23] })
    {B C X : Nat} {T : TypeId} {x0 r : Int} {v : Value} {n sz : Nat} {zs : List Int} {w wm : World} (hm : Mid B C X 3 T x0 v n zs w wm) (hs : a.eval s = v)
    (hx : a.eval x = .slice (some ⟨sz, 0, none⟩) 1 1) (hsz : sz = wm.heap.size) (hn : n ≤ 8796093022208)
    (h : ∀ v' w1, Mid B C X 3 T x0 v' (n + 1) (zs ++ [r]) w w1 → wpList Try.prog ops Q rest (a.put o.dst v') w1) : wpList Try.prog ops Q (o :: rest) a (wm.alloc (.cells #[.int .i64 r] 3)) := by
  obtain ⟨i0, hi, hz0, hz1, hz2⟩ := info_parts infoE
  subst hsz
  refine wpList_append_own_at _ hgd s x 23 ho B 3 i0 (.int .i64 0) 1 8 Try.underlying23 hi hz0 hz1 hz2 rfl (by decide) v n _ hs (hm.own.alloc _) ⟨wm.heap.size, 0, none⟩ 1 1 [.int .i64 r] hx rfl (cell_one_new _ _ _) (by intro u hu; simp at hu; subst hu; rfl) (by unfold maxLen; omega) (by omega)
    (by have := hm.lo; have := hm.lt; simp; omega) ?_
  intro v' w1 hown hg _ hat
  exact h v' w1 ((hm.alloc _).append hown hg hat)
end Go.Proofs.Ytlenkaobojneeaa.P
