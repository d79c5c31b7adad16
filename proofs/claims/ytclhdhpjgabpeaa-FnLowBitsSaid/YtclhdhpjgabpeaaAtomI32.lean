/-
  What a call of each function of sync/atomic for int32, and of each method of atomic.Int32, does in the run of one goroutine; and append onto the answers of a run. Conditions: the cell is there and may be written.
-/
import Derived.Test.YtclhdhpjgabpeaaRows
import Derived.Test.YtclhdhpjgabpeaaBase
namespace Go.Proofs.Ytclhdhpjgabpeaa.I32
open Go.RowKit
theorem infoE : (Try.prog.info? 21).map (fun i => (i.zero, i.size, i.bytes)) = some (some (.int .i32 0), 1, 4) := by kernel_rfl
section
variable {a : Addr} {x y z : Int} {w : World}
theorem at_store {u : Value} (hc : w.cell? a = some u) (hz : w.frozen? a = false) : (callFunc 50 #[.pointer (some a), .int .i32 y]).run Try.prog w = .ok (.value (.tuple #[])) (w.setCell a (.int .i32 y)) :=
  run_call_store Try.func50 (by kernel_rfl) (by kernel_rfl) (by kernel_rfl) (by kernel_rfl) hc hz
theorem at_load (hc : w.cell? a = some (.int .i32 x)) : (callFunc 56 #[.pointer (some a)]).run Try.prog w = .ok (.value (.int .i32 x)) w :=
  run_call_load Try.func56 (by kernel_rfl) (by kernel_rfl) (by kernel_rfl) .i32 (by kernel_rfl) hc
theorem at_add (hc : w.cell? a = some (.int .i32 x)) (hz : w.frozen? a = false) : (callFunc 51 #[.pointer (some a), .int .i32 y]).run Try.prog w = .ok (.value (.int .i32 (addK .i32 x y))) (w.setCell a (.int .i32 (addK .i32 x y))) :=
  run_call_add Try.func51 (by kernel_rfl) (by kernel_rfl) (by kernel_rfl) .i32 (by kernel_rfl) hc hz (run_add _ _ _ _)
theorem at_and (hc : w.cell? a = some (.int .i32 x)) (hz : w.frozen? a = false) : (callFunc 52 #[.pointer (some a), .int .i32 y]).run Try.prog w = .ok (.value (.int .i32 x)) (w.setCell a (.int .i32 (andK .i32 x y))) :=
  run_call_bits Try.func52 (by kernel_rfl) (by kernel_rfl) (by kernel_rfl) .i32 (Op.intBits .and) (by kernel_rfl) hc hz (run_and _ _ _ _)
theorem at_or (hc : w.cell? a = some (.int .i32 x)) (hz : w.frozen? a = false) : (callFunc 53 #[.pointer (some a), .int .i32 y]).run Try.prog w = .ok (.value (.int .i32 x)) (w.setCell a (.int .i32 (orK .i32 x y))) :=
  run_call_bits Try.func53 (by kernel_rfl) (by kernel_rfl) (by kernel_rfl) .i32 (Op.intBits .or) (by kernel_rfl) hc hz (run_or _ _ _ _)
theorem at_swap (hc : w.cell? a = some (.int .i32 x)) (hz : w.frozen? a = false) : (callFunc 54 #[.pointer (some a), .int .i32 y]).run Try.prog w = .ok (.value (.int .i32 x)) (w.setCell a (.int .i32 y)) :=
  run_call_swap Try.func54 (by kernel_rfl) (by kernel_rfl) (by kernel_rfl) .i32 (by kernel_rfl) hc hz
theorem at_hit (hc : w.cell? a = some (.int .i32 x)) (hz : w.frozen? a = false) : (callFunc 55 #[.pointer (some a), .int .i32 x, .int .i32 z]).run Try.prog w = .ok (.value (.bool true)) (w.setCell a (.int .i32 z)) :=
  run_call_cas_hit Try.func55 (by kernel_rfl) (by kernel_rfl) (by kernel_rfl) .i32 (by kernel_rfl) hc hz
theorem at_miss (hc : w.cell? a = some (.int .i32 x)) (hz : w.frozen? a = false) (hne : ¬ x = y) : (callFunc 55 #[.pointer (some a), .int .i32 y, .int .i32 z]).run Try.prog w = .ok (.value (.bool false)) w :=
  run_call_cas_miss Try.func55 (by kernel_rfl) (by kernel_rfl) (by kernel_rfl) .i32 (by kernel_rfl) hc hz hne
end
section
variable {b o : Nat} {x : Int} {w : World}
theorem m_store (y : Int) (hc : w.cell? ⟨b, o, none⟩ = some (.int .i32 x)) (hz : w.frozen? ⟨b, o, none⟩ = false) :
    Calls Try.prog 15 #[.pointer (some ⟨b, o, none⟩), .int .i32 y] w fun e w' => e = .returned (.tuple #[]) ∧ w' = w.setCell ⟨b, o, none⟩ (.int .i32 y) := by
  have hop := at_store (y := y) hc hz
  go_enter Try.func15, Try.ntmps15
  go_wp2
  go_end0
  exact ⟨rfl, rfl⟩
theorem m_add (y : Int) (hc : w.cell? ⟨b, o, none⟩ = some (.int .i32 x)) (hz : w.frozen? ⟨b, o, none⟩ = false) :
    Calls Try.prog 16 #[.pointer (some ⟨b, o, none⟩), .int .i32 y] w fun e w' => e = .returned (.int .i32 (addK .i32 x y)) ∧ w' = w.setCell ⟨b, o, none⟩ (.int .i32 (addK .i32 x y)) := by
  have hop := at_add (y := y) hc hz
  go_enter Try.func16, Try.ntmps16
  go_wp2
  go_ret
  exact ⟨rfl, rfl⟩
theorem m_and (y : Int) (hc : w.cell? ⟨b, o, none⟩ = some (.int .i32 x)) (hz : w.frozen? ⟨b, o, none⟩ = false) :
    Calls Try.prog 17 #[.pointer (some ⟨b, o, none⟩), .int .i32 y] w fun e w' => e = .returned (.int .i32 (x)) ∧ w' = w.setCell ⟨b, o, none⟩ (.int .i32 (andK .i32 x y)) := by
  have hop := at_and (y := y) hc hz
  go_enter Try.func17, Try.ntmps17
  go_wp2
  go_ret
  exact ⟨rfl, rfl⟩
theorem m_or (y : Int) (hc : w.cell? ⟨b, o, none⟩ = some (.int .i32 x)) (hz : w.frozen? ⟨b, o, none⟩ = false) :
    Calls Try.prog 18 #[.pointer (some ⟨b, o, none⟩), .int .i32 y] w fun e w' => e = .returned (.int .i32 (x)) ∧ w' = w.setCell ⟨b, o, none⟩ (.int .i32 (orK .i32 x y)) := by
  have hop := at_or (y := y) hc hz
  go_enter Try.func18, Try.ntmps18
  go_wp2
  go_ret
  exact ⟨rfl, rfl⟩
theorem m_swap (y : Int) (hc : w.cell? ⟨b, o, none⟩ = some (.int .i32 x)) (hz : w.frozen? ⟨b, o, none⟩ = false) :
    Calls Try.prog 19 #[.pointer (some ⟨b, o, none⟩), .int .i32 y] w fun e w' => e = .returned (.int .i32 (x)) ∧ w' = w.setCell ⟨b, o, none⟩ (.int .i32 (y)) := by
  have hop := at_swap (y := y) hc hz
  go_enter Try.func19, Try.ntmps19
  go_wp2
  go_ret
  exact ⟨rfl, rfl⟩
theorem m_load (hc : w.cell? ⟨b, o, none⟩ = some (.int .i32 x)) :
    Calls Try.prog 21 #[.pointer (some ⟨b, o, none⟩)] w fun e w' => e = .returned (.int .i32 x) ∧ w' = w := by
  have hop := at_load hc
  go_enter Try.func21, Try.ntmps21
  go_wp2
  go_ret
  exact ⟨rfl, rfl⟩
theorem m_hit (z : Int) (hc : w.cell? ⟨b, o, none⟩ = some (.int .i32 x)) (hz : w.frozen? ⟨b, o, none⟩ = false) :
    Calls Try.prog 20 #[.pointer (some ⟨b, o, none⟩), .int .i32 x, .int .i32 z] w fun e w' => e = .returned (.bool true) ∧ w' = w.setCell ⟨b, o, none⟩ (.int .i32 z) := by
  have hop := at_hit (z := z) hc hz
  go_enter Try.func20, Try.ntmps20
  go_wp2
  go_ret
  exact ⟨rfl, rfl⟩
theorem m_miss (y z : Int) (hc : w.cell? ⟨b, o, none⟩ = some (.int .i32 x)) (hz : w.frozen? ⟨b, o, none⟩ = false) (hne : ¬ x = y) :
    Calls Try.prog 20 #[.pointer (some ⟨b, o, none⟩), .int .i32 y, .int .i32 z] w fun e w' => e = .returned (.bool false) ∧ w' = w := by
  have hop := at_miss (z := z) hc hz hne
  go_enter Try.func20, Try.ntmps20
  go_wp2
  go_ret
  exact ⟨rfl, rfl⟩
end
/-- append of one number onto the answers of a run. -/
theorem wp_ans {ops : Array Oper} {rest : List Oper} {o : Oper} {a : Act} {Q : Exit → Act → World → Prop} (hgd : o.guard = none) (s x : Operand)
    (ho : o.op = .call { callee := .builtin .append, args := #[s, x], argTypes := #[32, 32] })
    {B X : Nat} {T : TypeId} {x0 r : Int} {v : Value} {n sz : Nat} {zs : List Int} {w wm : World} (hm : Mid B X 21 T .i32 x0 v n zs w wm) (hs : a.eval s = v)
    (hx : a.eval x = .slice (some ⟨sz, 0, none⟩) 1 1) (hsz : sz = wm.heap.size) (hn : n ≤ 8796093022208)
    (h : ∀ v' w1, Mid B X 21 T .i32 x0 v' (n + 1) (zs ++ [r]) w w1 → wpList Try.prog ops Q rest (a.put o.dst v') w1) : wpList Try.prog ops Q (o :: rest) a (wm.alloc (.cells #[.int .i32 r] 21)) := by
  obtain ⟨i0, hi, hz0, hz1, hz2⟩ := info_parts infoE
  subst hsz
  refine wpList_append_own_at _ hgd s x 32 ho B 21 i0 (.int .i32 0) 1 4 Try.underlying32 hi hz0 hz1 hz2 rfl (by decide) v n _ hs (hm.own.alloc _) ⟨wm.heap.size, 0, none⟩ 1 1 [.int .i32 r] hx rfl (cell_one_new _ _ _) (by intro u hu; simp at hu; subst hu; rfl) (by unfold maxLen; omega) (by omega)
    (by have := hm.lo; have := hm.lt; simp; omega) ?_
  intro v' w1 hown hg _ hat
  exact h v' w1 ((hm.alloc _).append hown hg hat)
end Go.Proofs.Ytclhdhpjgabpeaa.I32
