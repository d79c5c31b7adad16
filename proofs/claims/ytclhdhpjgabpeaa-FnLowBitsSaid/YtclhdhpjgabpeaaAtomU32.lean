/-
  What a call of each function of sync/atomic for uint32, and of each method of atomic.Uint32, does in the run of one goroutine; and append onto the answers of a run. Conditions: the cell is there and may be written.
-/
import Derived.Test.YtclhdhpjgabpeaaRows
import Derived.Test.YtclhdhpjgabpeaaBase
namespace Go.Proofs.Ytclhdhpjgabpeaa.U32
open Go.RowKit
theorem infoE : (Try.prog.info? 29).map (fun i => (i.zero, i.size, i.bytes)) = some (some (.int .u32 0), 1, 4) := by kernel_rfl
section
variable {a : Addr} {x y z : Int} {w : World}
theorem at_store {u : Value} (hc : w.cell? a = some u) (hz : w.frozen? a = false) : (callFunc 57 #[.pointer (some a), .int .u32 y]).run Try.prog w = .ok (.value (.tuple #[])) (w.setCell a (.int .u32 y)) :=
  run_call_store Try.func57 (by kernel_rfl) (by kernel_rfl) (by kernel_rfl) (by kernel_rfl) hc hz
theorem at_load (hc : w.cell? a = some (.int .u32 x)) : (callFunc 63 #[.pointer (some a)]).run Try.prog w = .ok (.value (.int .u32 x)) w :=
  run_call_load Try.func63 (by kernel_rfl) (by kernel_rfl) (by kernel_rfl) .u32 (by kernel_rfl) hc
theorem at_add (hc : w.cell? a = some (.int .u32 x)) (hz : w.frozen? a = false) : (callFunc 58 #[.pointer (some a), .int .u32 y]).run Try.prog w = .ok (.value (.int .u32 (addK .u32 x y))) (w.setCell a (.int .u32 (addK .u32 x y))) :=
  run_call_add Try.func58 (by kernel_rfl) (by kernel_rfl) (by kernel_rfl) .u32 (by kernel_rfl) hc hz (run_add _ _ _ _)
theorem at_and (hc : w.cell? a = some (.int .u32 x)) (hz : w.frozen? a = false) : (callFunc 59 #[.pointer (some a), .int .u32 y]).run Try.prog w = .ok (.value (.int .u32 x)) (w.setCell a (.int .u32 (andK .u32 x y))) :=
  run_call_bits Try.func59 (by kernel_rfl) (by kernel_rfl) (by kernel_rfl) .u32 (Op.intBits .and) (by kernel_rfl) hc hz (run_and _ _ _ _)
theorem at_or (hc : w.cell? a = some (.int .u32 x)) (hz : w.frozen? a = false) : (callFunc 60 #[.pointer (some a), .int .u32 y]).run Try.prog w = .ok (.value (.int .u32 x)) (w.setCell a (.int .u32 (orK .u32 x y))) :=
  run_call_bits Try.func60 (by kernel_rfl) (by kernel_rfl) (by kernel_rfl) .u32 (Op.intBits .or) (by kernel_rfl) hc hz (run_or _ _ _ _)
theorem at_swap (hc : w.cell? a = some (.int .u32 x)) (hz : w.frozen? a = false) : (callFunc 61 #[.pointer (some a), .int .u32 y]).run Try.prog w = .ok (.value (.int .u32 x)) (w.setCell a (.int .u32 y)) :=
  run_call_swap Try.func61 (by kernel_rfl) (by kernel_rfl) (by kernel_rfl) .u32 (by kernel_rfl) hc hz
theorem at_hit (hc : w.cell? a = some (.int .u32 x)) (hz : w.frozen? a = false) : (callFunc 62 #[.pointer (some a), .int .u32 x, .int .u32 z]).run Try.prog w = .ok (.value (.bool true)) (w.setCell a (.int .u32 z)) :=
  run_call_cas_hit Try.func62 (by kernel_rfl) (by kernel_rfl) (by kernel_rfl) .u32 (by kernel_rfl) hc hz
theorem at_miss (hc : w.cell? a = some (.int .u32 x)) (hz : w.frozen? a = false) (hne : ¬ x = y) : (callFunc 62 #[.pointer (some a), .int .u32 y, .int .u32 z]).run Try.prog w = .ok (.value (.bool false)) w :=
  run_call_cas_miss Try.func62 (by kernel_rfl) (by kernel_rfl) (by kernel_rfl) .u32 (by kernel_rfl) hc hz hne
end
section
variable {b o : Nat} {x : Int} {w : World}
theorem m_store (y : Int) (hc : w.cell? ⟨b, o, none⟩ = some (.int .u32 x)) (hz : w.frozen? ⟨b, o, none⟩ = false) :
    Calls Try.prog 22 #[.pointer (some ⟨b, o, none⟩), .int .u32 y] w fun e w' => e = .returned (.tuple #[]) ∧ w' = w.setCell ⟨b, o, none⟩ (.int .u32 y) := by
  have hop := at_store (y := y) hc hz
  go_enter Try.func22, Try.ntmps22
  go_wp2
  go_end0
  exact ⟨rfl, rfl⟩
theorem m_add (y : Int) (hc : w.cell? ⟨b, o, none⟩ = some (.int .u32 x)) (hz : w.frozen? ⟨b, o, none⟩ = false) :
    Calls Try.prog 23 #[.pointer (some ⟨b, o, none⟩), .int .u32 y] w fun e w' => e = .returned (.int .u32 (addK .u32 x y)) ∧ w' = w.setCell ⟨b, o, none⟩ (.int .u32 (addK .u32 x y)) := by
  have hop := at_add (y := y) hc hz
  go_enter Try.func23, Try.ntmps23
  go_wp2
  go_ret
  exact ⟨rfl, rfl⟩
theorem m_and (y : Int) (hc : w.cell? ⟨b, o, none⟩ = some (.int .u32 x)) (hz : w.frozen? ⟨b, o, none⟩ = false) :
    Calls Try.prog 24 #[.pointer (some ⟨b, o, none⟩), .int .u32 y] w fun e w' => e = .returned (.int .u32 (x)) ∧ w' = w.setCell ⟨b, o, none⟩ (.int .u32 (andK .u32 x y)) := by
  have hop := at_and (y := y) hc hz
  go_enter Try.func24, Try.ntmps24
  go_wp2
  go_ret
  exact ⟨rfl, rfl⟩
theorem m_or (y : Int) (hc : w.cell? ⟨b, o, none⟩ = some (.int .u32 x)) (hz : w.frozen? ⟨b, o, none⟩ = false) :
    Calls Try.prog 25 #[.pointer (some ⟨b, o, none⟩), .int .u32 y] w fun e w' => e = .returned (.int .u32 (x)) ∧ w' = w.setCell ⟨b, o, none⟩ (.int .u32 (orK .u32 x y)) := by
  have hop := at_or (y := y) hc hz
  go_enter Try.func25, Try.ntmps25
  go_wp2
  go_ret
  exact ⟨rfl, rfl⟩
theorem m_swap (y : Int) (hc : w.cell? ⟨b, o, none⟩ = some (.int .u32 x)) (hz : w.frozen? ⟨b, o, none⟩ = false) :
    Calls Try.prog 26 #[.pointer (some ⟨b, o, none⟩), .int .u32 y] w fun e w' => e = .returned (.int .u32 (x)) ∧ w' = w.setCell ⟨b, o, none⟩ (.int .u32 (y)) := by
  have hop := at_swap (y := y) hc hz
  go_enter Try.func26, Try.ntmps26
  go_wp2
  go_ret
  exact ⟨rfl, rfl⟩
theorem m_load (hc : w.cell? ⟨b, o, none⟩ = some (.int .u32 x)) :
    Calls Try.prog 28 #[.pointer (some ⟨b, o, none⟩)] w fun e w' => e = .returned (.int .u32 x) ∧ w' = w := by
  have hop := at_load hc
  go_enter Try.func28, Try.ntmps28
  go_wp2
  go_ret
  exact ⟨rfl, rfl⟩
theorem m_hit (z : Int) (hc : w.cell? ⟨b, o, none⟩ = some (.int .u32 x)) (hz : w.frozen? ⟨b, o, none⟩ = false) :
    Calls Try.prog 27 #[.pointer (some ⟨b, o, none⟩), .int .u32 x, .int .u32 z] w fun e w' => e = .returned (.bool true) ∧ w' = w.setCell ⟨b, o, none⟩ (.int .u32 z) := by
  have hop := at_hit (z := z) hc hz
  go_enter Try.func27, Try.ntmps27
  go_wp2
  go_ret
  exact ⟨rfl, rfl⟩
theorem m_miss (y z : Int) (hc : w.cell? ⟨b, o, none⟩ = some (.int .u32 x)) (hz : w.frozen? ⟨b, o, none⟩ = false) (hne : ¬ x = y) :
    Calls Try.prog 27 #[.pointer (some ⟨b, o, none⟩), .int .u32 y, .int .u32 z] w fun e w' => e = .returned (.bool false) ∧ w' = w := by
  have hop := at_miss (z := z) hc hz hne
  go_enter Try.func27, Try.ntmps27
  go_wp2
  go_ret
  exact ⟨rfl, rfl⟩
end
/-- append of one number onto the answers of a run. -/
theorem wp_ans {ops : Array Oper} {rest : List Oper} {o : Oper} {a : Act} {Q : Exit → Act → World → Prop} (hgd : o.guard = none) (s x : Operand)
    (ho : o.op = .call { callee := .builtin .append, args := #[s, x], argTypes := #[35, 35] })
    {B X : Nat} {T : TypeId} {x0 r : Int} {v : Value} {n sz : Nat} {zs : List Int} {w wm : World} (hm : Mid B X 29 T .u32 x0 v n zs w wm) (hs : a.eval s = v)
    (hx : a.eval x = .slice (some ⟨sz, 0, none⟩) 1 1) (hsz : sz = wm.heap.size) (hn : n ≤ 8796093022208)
    (h : ∀ v' w1, Mid B X 29 T .u32 x0 v' (n + 1) (zs ++ [r]) w w1 → wpList Try.prog ops Q rest (a.put o.dst v') w1) : wpList Try.prog ops Q (o :: rest) a (wm.alloc (.cells #[.int .u32 r] 29)) := by
  obtain ⟨i0, hi, hz0, hz1, hz2⟩ := info_parts infoE
  subst hsz
  refine wpList_append_own_at _ hgd s x 35 ho B 29 i0 (.int .u32 0) 1 4 Try.underlying35 hi hz0 hz1 hz2 rfl (by decide) v n _ hs (hm.own.alloc _) ⟨wm.heap.size, 0, none⟩ 1 1 [.int .u32 r] hx rfl (cell_one_new _ _ _) (by intro u hu; simp at hu; subst hu; rfl) (by unfold maxLen; omega) (by omega)
    (by have := hm.lo; have := hm.lt; simp; omega) ?_
  intro v' w1 hown hg _ hat
  exact h v' w1 ((hm.alloc _).append hown hg hat)
end Go.Proofs.Ytclhdhpjgabpeaa.U32
