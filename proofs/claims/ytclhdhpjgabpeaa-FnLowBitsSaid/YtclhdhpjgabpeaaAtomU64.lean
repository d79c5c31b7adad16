/-
  What a call of each function of sync/atomic for uint64, and of each method of atomic.Uint64, does in the run of one goroutine; and append onto the answers of a run. Conditions: the cell is there and may be written.
-/
import Derived.Test.YtclhdhpjgabpeaaRows
import Derived.Test.YtclhdhpjgabpeaaBase
namespace Go.Proofs.Ytclhdhpjgabpeaa.U64
open Go.RowKit
theorem infoE : (Try.prog.info? 43).map (fun i => (i.zero, i.size, i.bytes)) = some (some (.int .u64 0), 1, 8) := by kernel_rfl
section
variable {a : Addr} {x y z : Int} {w : World}
theorem at_store {u : Value} (hc : w.cell? a = some u) (hz : w.frozen? a = false) : (callFunc 65 #[.pointer (some a), .int .u64 y]).run Try.prog w = .ok (.value (.tuple #[])) (w.setCell a (.int .u64 y)) :=
  run_call_store Try.func65 (by kernel_rfl) (by kernel_rfl) (by kernel_rfl) (by kernel_rfl) hc hz
theorem at_load (hc : w.cell? a = some (.int .u64 x)) : (callFunc 71 #[.pointer (some a)]).run Try.prog w = .ok (.value (.int .u64 x)) w :=
  run_call_load Try.func71 (by kernel_rfl) (by kernel_rfl) (by kernel_rfl) .u64 (by kernel_rfl) hc
theorem at_add (hc : w.cell? a = some (.int .u64 x)) (hz : w.frozen? a = false) : (callFunc 66 #[.pointer (some a), .int .u64 y]).run Try.prog w = .ok (.value (.int .u64 (addK .u64 x y))) (w.setCell a (.int .u64 (addK .u64 x y))) :=
  run_call_add Try.func66 (by kernel_rfl) (by kernel_rfl) (by kernel_rfl) .u64 (by kernel_rfl) hc hz (run_add _ _ _ _)
theorem at_and (hc : w.cell? a = some (.int .u64 x)) (hz : w.frozen? a = false) : (callFunc 67 #[.pointer (some a), .int .u64 y]).run Try.prog w = .ok (.value (.int .u64 x)) (w.setCell a (.int .u64 (andK .u64 x y))) :=
  run_call_bits Try.func67 (by kernel_rfl) (by kernel_rfl) (by kernel_rfl) .u64 (Op.intBits .and) (by kernel_rfl) hc hz (run_and _ _ _ _)
theorem at_or (hc : w.cell? a = some (.int .u64 x)) (hz : w.frozen? a = false) : (callFunc 68 #[.pointer (some a), .int .u64 y]).run Try.prog w = .ok (.value (.int .u64 x)) (w.setCell a (.int .u64 (orK .u64 x y))) :=
  run_call_bits Try.func68 (by kernel_rfl) (by kernel_rfl) (by kernel_rfl) .u64 (Op.intBits .or) (by kernel_rfl) hc hz (run_or _ _ _ _)
theorem at_swap (hc : w.cell? a = some (.int .u64 x)) (hz : w.frozen? a = false) : (callFunc 69 #[.pointer (some a), .int .u64 y]).run Try.prog w = .ok (.value (.int .u64 x)) (w.setCell a (.int .u64 y)) :=
  run_call_swap Try.func69 (by kernel_rfl) (by kernel_rfl) (by kernel_rfl) .u64 (by kernel_rfl) hc hz
theorem at_hit (hc : w.cell? a = some (.int .u64 x)) (hz : w.frozen? a = false) : (callFunc 70 #[.pointer (some a), .int .u64 x, .int .u64 z]).run Try.prog w = .ok (.value (.bool true)) (w.setCell a (.int .u64 z)) :=
  run_call_cas_hit Try.func70 (by kernel_rfl) (by kernel_rfl) (by kernel_rfl) .u64 (by kernel_rfl) hc hz
theorem at_miss (hc : w.cell? a = some (.int .u64 x)) (hz : w.frozen? a = false) (hne : ¬ x = y) : (callFunc 70 #[.pointer (some a), .int .u64 y, .int .u64 z]).run Try.prog w = .ok (.value (.bool false)) w :=
  run_call_cas_miss Try.func70 (by kernel_rfl) (by kernel_rfl) (by kernel_rfl) .u64 (by kernel_rfl) hc hz hne
end
section
variable {b o : Nat} {x : Int} {w : World}
theorem m_store (y : Int) (hc : w.cell? ⟨b, o, none⟩ = some (.int .u64 x)) (hz : w.frozen? ⟨b, o, none⟩ = false) :
    Calls Try.prog 30 #[.pointer (some ⟨b, o, none⟩), .int .u64 y] w fun e w' => e = .returned (.tuple #[]) ∧ w' = w.setCell ⟨b, o, none⟩ (.int .u64 y) := by
  have hop := at_store (y := y) hc hz
  go_enter Try.func30, Try.ntmps30
  go_wp2
  go_end0
  exact ⟨rfl, rfl⟩
theorem m_add (y : Int) (hc : w.cell? ⟨b, o, none⟩ = some (.int .u64 x)) (hz : w.frozen? ⟨b, o, none⟩ = false) :
    Calls Try.prog 31 #[.pointer (some ⟨b, o, none⟩), .int .u64 y] w fun e w' => e = .returned (.int .u64 (addK .u64 x y)) ∧ w' = w.setCell ⟨b, o, none⟩ (.int .u64 (addK .u64 x y)) := by
  have hop := at_add (y := y) hc hz
  go_enter Try.func31, Try.ntmps31
  go_wp2
  go_ret
  exact ⟨rfl, rfl⟩
theorem m_and (y : Int) (hc : w.cell? ⟨b, o, none⟩ = some (.int .u64 x)) (hz : w.frozen? ⟨b, o, none⟩ = false) :
    Calls Try.prog 32 #[.pointer (some ⟨b, o, none⟩), .int .u64 y] w fun e w' => e = .returned (.int .u64 (x)) ∧ w' = w.setCell ⟨b, o, none⟩ (.int .u64 (andK .u64 x y)) := by
  have hop := at_and (y := y) hc hz
  go_enter Try.func32, Try.ntmps32
  go_wp2
  go_ret
  exact ⟨rfl, rfl⟩
theorem m_or (y : Int) (hc : w.cell? ⟨b, o, none⟩ = some (.int .u64 x)) (hz : w.frozen? ⟨b, o, none⟩ = false) :
    Calls Try.prog 33 #[.pointer (some ⟨b, o, none⟩), .int .u64 y] w fun e w' => e = .returned (.int .u64 (x)) ∧ w' = w.setCell ⟨b, o, none⟩ (.int .u64 (orK .u64 x y)) := by
  have hop := at_or (y := y) hc hz
  go_enter Try.func33, Try.ntmps33
  go_wp2
  go_ret
  exact ⟨rfl, rfl⟩
theorem m_swap (y : Int) (hc : w.cell? ⟨b, o, none⟩ = some (.int .u64 x)) (hz : w.frozen? ⟨b, o, none⟩ = false) :
    Calls Try.prog 34 #[.pointer (some ⟨b, o, none⟩), .int .u64 y] w fun e w' => e = .returned (.int .u64 (x)) ∧ w' = w.setCell ⟨b, o, none⟩ (.int .u64 (y)) := by
  have hop := at_swap (y := y) hc hz
  go_enter Try.func34, Try.ntmps34
  go_wp2
  go_ret
  exact ⟨rfl, rfl⟩
theorem m_load (hc : w.cell? ⟨b, o, none⟩ = some (.int .u64 x)) :
    Calls Try.prog 36 #[.pointer (some ⟨b, o, none⟩)] w fun e w' => e = .returned (.int .u64 x) ∧ w' = w := by
  have hop := at_load hc
  go_enter Try.func36, Try.ntmps36
  go_wp2
  go_ret
  exact ⟨rfl, rfl⟩
theorem m_hit (z : Int) (hc : w.cell? ⟨b, o, none⟩ = some (.int .u64 x)) (hz : w.frozen? ⟨b, o, none⟩ = false) :
    Calls Try.prog 35 #[.pointer (some ⟨b, o, none⟩), .int .u64 x, .int .u64 z] w fun e w' => e = .returned (.bool true) ∧ w' = w.setCell ⟨b, o, none⟩ (.int .u64 z) := by
  have hop := at_hit (z := z) hc hz
  go_enter Try.func35, Try.ntmps35
  go_wp2
  go_ret
  exact ⟨rfl, rfl⟩
theorem m_miss (y z : Int) (hc : w.cell? ⟨b, o, none⟩ = some (.int .u64 x)) (hz : w.frozen? ⟨b, o, none⟩ = false) (hne : ¬ x = y) :
    Calls Try.prog 35 #[.pointer (some ⟨b, o, none⟩), .int .u64 y, .int .u64 z] w fun e w' => e = .returned (.bool false) ∧ w' = w := by
  have hop := at_miss (z := z) hc hz hne
  go_enter Try.func35, Try.ntmps35
  go_wp2
  go_ret
  exact ⟨rfl, rfl⟩
end
/-- append of one number onto the answers of a run. -/
theorem wp_ans {ops : Array Oper} {rest : List Oper} {o : Oper} {a : Act} {Q : Exit → Act → World → Prop} (hgd : o.guard = none) (s x : Operand)
    (ho : o.op = .call { callee := .builtin .append, args := #[s, x], argTypes := #[46, 46] })
    {B X : Nat} {T : TypeId} {x0 r : Int} {v : Value} {n sz : Nat} {zs : List Int} {w wm : World} (hm : Mid B X 43 T .u64 x0 v n zs w wm) (hs : a.eval s = v)
    (hx : a.eval x = .slice (some ⟨sz, 0, none⟩) 1 1) (hsz : sz = wm.heap.size) (hn : n ≤ 8796093022208)
    (h : ∀ v' w1, Mid B X 43 T .u64 x0 v' (n + 1) (zs ++ [r]) w w1 → wpList Try.prog ops Q rest (a.put o.dst v') w1) : wpList Try.prog ops Q (o :: rest) a (wm.alloc (.cells #[.int .u64 r] 43)) := by
  obtain ⟨i0, hi, hz0, hz1, hz2⟩ := info_parts infoE
  subst hsz
  refine wpList_append_own_at _ hgd s x 46 ho B 43 i0 (.int .u64 0) 1 8 Try.underlying46 hi hz0 hz1 hz2 rfl (by decide) v n _ hs (hm.own.alloc _) ⟨wm.heap.size, 0, none⟩ 1 1 [.int .u64 r] hx rfl (cell_one_new _ _ _) (by intro u hu; simp at hu; subst hu; rfl) (by unfold maxLen; omega) (by omega)
    (by have := hm.lo; have := hm.lt; simp; omega) ?_
  intro v' w1 hown hg _ hat
  exact h v' w1 ((hm.alloc _).append hown hg hat)
end Go.Proofs.Ytclhdhpjgabpeaa.U64
