/-
  What a call of each function of sync/atomic for int64, and of each method of atomic.Int64, does in the run of one goroutine; and append onto the answers of a run. Conditions: the cell is there and may be written.
-/
import Derived.Test.YtlenkaobojneeaaRows
import Derived.Test.YtlenkaobojneeaaBase
namespace Go.Proofs.Ytlenkaobojneeaa.I64
open Go.RowKit
theorem infoE : (Try.prog.info? 2).map (fun i => (i.zero, i.size, i.bytes)) = some (some (.int .i64 0), 1, 8) := by kernel_rfl
section
variable {a : Addr} {x y z : Int} {w : World}
theorem at_store {u : Value} (hc : w.cell? a = some u) (hz : w.frozen? a = false) : (callFunc 35 #[.pointer (some a), .int .i64 y]).run Try.prog w = .ok (.value (.tuple #[])) (w.setCell a (.int .i64 y)) :=
  run_call_store Try.func35 (by kernel_rfl) (by kernel_rfl) (by kernel_rfl) (by kernel_rfl) hc hz
theorem at_load (hc : w.cell? a = some (.int .i64 x)) : (callFunc 41 #[.pointer (some a)]).run Try.prog w = .ok (.value (.int .i64 x)) w :=
  run_call_load Try.func41 (by kernel_rfl) (by kernel_rfl) (by kernel_rfl) .i64 (by kernel_rfl) hc
theorem at_add (hc : w.cell? a = some (.int .i64 x)) (hz : w.frozen? a = false) : (callFunc 36 #[.pointer (some a), .int .i64 y]).run Try.prog w = .ok (.value (.int .i64 (addK .i64 x y))) (w.setCell a (.int .i64 (addK .i64 x y))) :=
  run_call_add Try.func36 (by kernel_rfl) (by kernel_rfl) (by kernel_rfl) .i64 (by kernel_rfl) hc hz (run_add _ _ _ _)
theorem at_and (hc : w.cell? a = some (.int .i64 x)) (hz : w.frozen? a = false) : (callFunc 37 #[.pointer (some a), .int .i64 y]).run Try.prog w = .ok (.value (.int .i64 x)) (w.setCell a (.int .i64 (andK .i64 x y))) :=
  run_call_bits Try.func37 (by kernel_rfl) (by kernel_rfl) (by kernel_rfl) .i64 (Op.intBits .and) (by kernel_rfl) hc hz (run_and _ _ _ _)
theorem at_or (hc : w.cell? a = some (.int .i64 x)) (hz : w.frozen? a = false) : (callFunc 38 #[.pointer (some a), .int .i64 y]).run Try.prog w = .ok (.value (.int .i64 x)) (w.setCell a (.int .i64 (orK .i64 x y))) :=
  run_call_bits Try.func38 (by kernel_rfl) (by kernel_rfl) (by kernel_rfl) .i64 (Op.intBits .or) (by kernel_rfl) hc hz (run_or _ _ _ _)
theorem at_swap (hc : w.cell? a = some (.int .i64 x)) (hz : w.frozen? a = false) : (callFunc 39 #[.pointer (some a), .int .i64 y]).run Try.prog w = .ok (.value (.int .i64 x)) (w.setCell a (.int .i64 y)) :=
  run_call_swap Try.func39 (by kernel_rfl) (by kernel_rfl) (by kernel_rfl) .i64 (by kernel_rfl) hc hz
theorem at_hit (hc : w.cell? a = some (.int .i64 x)) (hz : w.frozen? a = false) : (callFunc 40 #[.pointer (some a), .int .i64 x, .int .i64 z]).run Try.prog w = .ok (.value (.bool true)) (w.setCell a (.int .i64 z)) :=
  run_call_cas_hit Try.func40 (by kernel_rfl) (by kernel_rfl) (by kernel_rfl) .i64 (by kernel_rfl) hc hz
theorem at_miss (hc : w.cell? a = some (.int .i64 x)) (hz : w.frozen? a = false) (hne : ¬ x = y) : (callFunc 40 #[.pointer (some a), .int .i64 y, .int .i64 z]).run Try.prog w = .ok (.value (.bool false)) w :=
  run_call_cas_miss Try.func40 (by kernel_rfl) (by kernel_rfl) (by kernel_rfl) .i64 (by kernel_rfl) hc hz hne
end
section
variable {b o : Nat} {x : Int} {w : World}
theorem m_store (y : Int) (hc : w.cell? ⟨b, o, none⟩ = some (.int .i64 x)) (hz : w.frozen? ⟨b, o, none⟩ = false) :
    Calls Try.prog 24 #[.pointer (some ⟨b, o, none⟩), .int .i64 y] w fun e w' => e = .returned (.tuple #[]) ∧ w' = w.setCell ⟨b, o, none⟩ (.int .i64 y) := by
  have hop := at_store (y := y) hc hz
  go_enter Try.func24, Try.ntmps24
  go_wp2
  go_end0
  exact ⟨rfl, rfl⟩
theorem m_add (y : Int) (hc : w.cell? ⟨b, o, none⟩ = some (.int .i64 x)) (hz : w.frozen? ⟨b, o, none⟩ = false) :
    Calls Try.prog 25 #[.pointer (some ⟨b, o, none⟩), .int .i64 y] w fun e w' => e = .returned (.int .i64 (addK .i64 x y)) ∧ w' = w.setCell ⟨b, o, none⟩ (.int .i64 (addK .i64 x y)) := by
  have hop := at_add (y := y) hc hz
  go_enter Try.func25, Try.ntmps25
  go_wp2
  go_ret
  exact ⟨rfl, rfl⟩
theorem m_and (y : Int) (hc : w.cell? ⟨b, o, none⟩ = some (.int .i64 x)) (hz : w.frozen? ⟨b, o, none⟩ = false) :
    Calls Try.prog 26 #[.pointer (some ⟨b, o, none⟩), .int .i64 y] w fun e w' => e = .returned (.int .i64 (x)) ∧ w' = w.setCell ⟨b, o, none⟩ (.int .i64 (andK .i64 x y)) := by
  have hop := at_and (y := y) hc hz
  go_enter Try.func26, Try.ntmps26
  go_wp2
  go_ret
  exact ⟨rfl, rfl⟩
theorem m_or (y : Int) (hc : w.cell? ⟨b, o, none⟩ = some (.int .i64 x)) (hz : w.frozen? ⟨b, o, none⟩ = false) :
    Calls Try.prog 27 #[.pointer (some ⟨b, o, none⟩), .int .i64 y] w fun e w' => e = .returned (.int .i64 (x)) ∧ w' = w.setCell ⟨b, o, none⟩ (.int .i64 (orK .i64 x y)) := by
  have hop := at_or (y := y) hc hz
  go_enter Try.func27, Try.ntmps27
  go_wp2
  go_ret
  exact ⟨rfl, rfl⟩
theorem m_swap (y : Int) (hc : w.cell? ⟨b, o, none⟩ = some (.int .i64 x)) (hz : w.frozen? ⟨b, o, none⟩ = false) :
    Calls Try.prog 28 #[.pointer (some ⟨b, o, none⟩), .int .i64 y] w fun e w' => e = .returned (.int .i64 (x)) ∧ w' = w.setCell ⟨b, o, none⟩ (.int .i64 (y)) := by
  have hop := at_swap (y := y) hc hz
  go_enter Try.func28, Try.ntmps28
  go_wp2
  go_ret
  exact ⟨rfl, rfl⟩
theorem m_load (hc : w.cell? ⟨b, o, none⟩ = some (.int .i64 x)) :
    Calls Try.prog 30 #[.pointer (some ⟨b, o, none⟩)] w fun e w' => e = .returned (.int .i64 x) ∧ w' = w := by
  have hop := at_load hc
  go_enter Try.func30, Try.ntmps30
  go_wp2
  go_ret
  exact ⟨rfl, rfl⟩
theorem m_hit (z : Int) (hc : w.cell? ⟨b, o, none⟩ = some (.int .i64 x)) (hz : w.frozen? ⟨b, o, none⟩ = false) :
    Calls Try.prog 29 #[.pointer (some ⟨b, o, none⟩), .int .i64 x, .int .i64 z] w fun e w' => e = .returned (.bool true) ∧ w' = w.setCell ⟨b, o, none⟩ (.int .i64 z) := by
  have hop := at_hit (z := z) hc hz
  go_enter Try.func29, Try.ntmps29
  go_wp2
  go_ret
  exact ⟨rfl, rfl⟩
theorem m_miss (y z : Int) (hc : w.cell? ⟨b, o, none⟩ = some (.int .i64 x)) (hz : w.frozen? ⟨b, o, none⟩ = false) (hne : ¬ x = y) :
    Calls Try.prog 29 #[.pointer (some ⟨b, o, none⟩), .int .i64 y, .int .i64 z] w fun e w' => e = .returned (.bool false) ∧ w' = w := by
  have hop := at_miss (z := z) hc hz hne
  go_enter Try.func29, Try.ntmps29
  go_wp2
  go_ret
  exact ⟨rfl, rfl⟩
end
/-- append of one number onto the answers of a run. -/
theorem wp_ans {ops : Array Oper} {rest : List Oper} {o : Oper} {a : Act} {Q : Exit → Act → World → Prop} (hgd : o.guard = none) (s x : Operand)
    (ho : o.op = .call { callee := .builtin .append, args := #[s, x], argTypes := #[38, 38] })
    {B X : Nat} {T : TypeId} {x0 r : Int} {v : Value} {n sz : Nat} {zs : List Int} {w wm : World} (hm : Mid B X 2 T .i64 x0 v n zs w wm) (hs : a.eval s = v)
    (hx : a.eval x = .slice (some ⟨sz, 0, none⟩) 1 1) (hsz : sz = wm.heap.size) (hn : n ≤ 8796093022208)
    (h : ∀ v' w1, Mid B X 2 T .i64 x0 v' (n + 1) (zs ++ [r]) w w1 → wpList Try.prog ops Q rest (a.put o.dst v') w1) : wpList Try.prog ops Q (o :: rest) a (wm.alloc (.cells #[.int .i64 r] 2)) := by
  obtain ⟨i0, hi, hz0, hz1, hz2⟩ := info_parts infoE
  subst hsz
  refine wpList_append_own_at _ hgd s x 38 ho B 2 i0 (.int .i64 0) 1 8 Try.underlying38 hi hz0 hz1 hz2 rfl (by decide) v n _ hs (hm.own.alloc _) ⟨wm.heap.size, 0, none⟩ 1 1 [.int .i64 r] hx rfl (cell_one_new _ _ _) (by intro u hu; simp at hu; subst hu; rfl) (by unfold maxLen; omega) (by omega)
    (by have := hm.lo; have := hm.lt; simp; omega) ?_
  intro v' w1 hown hg _ hat
  exact h v' w1 ((hm.alloc _).append hown hg hat)
end Go.Proofs.Ytlenkaobojneeaa.I64
