/-
  What each method of atomic.Bool does in the run of one goroutine: it is the number 1 or 0 of a truth that is stored, exchanged and compared; and append onto the answers of a run. Conditions: the cell is there and may be written.
-/
import Derived.Test.YtaifhckmcagkcaaRows
import Derived.Test.YtaifhckmcagkcaaBaseB
import Derived.Deep.RegionHeld3
namespace Go.Proofs.Ytaifhckmcagkcaa.B
open Go.RowKit
section
variable {a : Addr} {x y z : Int} {w : World}
theorem at_store {u : Value} (hc : w.cell? a = some u) (hz : w.frozen? a = false) : (callFunc 29 #[.pointer (some a), .int .u32 y]).run Try.prog w = .ok (.value (.tuple #[])) (w.setCell a (.int .u32 y)) :=
  run_call_store Try.func29 (by kernel_rfl) (by kernel_rfl) (by kernel_rfl) (by kernel_rfl) hc hz
theorem at_load (hc : w.cell? a = some (.int .u32 x)) : (callFunc 33 #[.pointer (some a)]).run Try.prog w = .ok (.value (.int .u32 x)) w :=
  run_call_load Try.func33 (by kernel_rfl) (by kernel_rfl) (by kernel_rfl) .u32 (by kernel_rfl) hc
theorem at_swap (hc : w.cell? a = some (.int .u32 x)) (hz : w.frozen? a = false) : (callFunc 31 #[.pointer (some a), .int .u32 y]).run Try.prog w = .ok (.value (.int .u32 x)) (w.setCell a (.int .u32 y)) :=
  run_call_swap Try.func31 (by kernel_rfl) (by kernel_rfl) (by kernel_rfl) .u32 (by kernel_rfl) hc hz
theorem at_hit (hc : w.cell? a = some (.int .u32 x)) (hz : w.frozen? a = false) : (callFunc 32 #[.pointer (some a), .int .u32 x, .int .u32 z]).run Try.prog w = .ok (.value (.bool true)) (w.setCell a (.int .u32 z)) :=
  run_call_cas_hit Try.func32 (by kernel_rfl) (by kernel_rfl) (by kernel_rfl) .u32 (by kernel_rfl) hc hz
theorem at_miss (hc : w.cell? a = some (.int .u32 x)) (hz : w.frozen? a = false) (hne : ¬ x = y) : (callFunc 32 #[.pointer (some a), .int .u32 y, .int .u32 z]).run Try.prog w = .ok (.value (.bool false)) w :=
  run_call_cas_miss Try.func32 (by kernel_rfl) (by kernel_rfl) (by kernel_rfl) .u32 (by kernel_rfl) hc hz hne
end
theorem b32_any (y : Bool) (w : World) : Calls Try.prog 30 #[.bool y] w fun e w' => e = .returned (.int .u32 (b32 y)) ∧ w = w' := by
  cases y
  · go_enter Try.func30, Try.ntmps30
    go_wp2
    go_ret
    exact ⟨rfl, rfl⟩
  · go_enter Try.func30, Try.ntmps30
    go_wp2
    go_ret
    exact ⟨rfl, rfl⟩
theorem b32_test (x : Bool) : (b32 x != 0) = x := by cases x <;> rfl
theorem b32_inj {x y : Bool} (h : ¬ x = y) : ¬ b32 x = b32 y := by cases x <;> cases y <;> simp_all [b32]
section
variable {b o : Nat} {x : Bool} {w : World}
theorem m_store (y : Bool) (hc : w.cell? ⟨b, o, none⟩ = some (.int .u32 (b32 x))) (hz : w.frozen? ⟨b, o, none⟩ = false) :
    Calls Try.prog 15 #[.pointer (some ⟨b, o, none⟩), .bool y] w fun e w' => e = .returned (.tuple #[]) ∧ w' = (w.setCell ⟨b, o, none⟩ (.int .u32 (b32 y))).drew := by
  have hop := at_store (w := w.drew) (y := b32 y) hc hz
  go_enter Try.func15, Try.ntmps15
  go_wp2_with fail
  go_region_held3 (fun w' => True) (trivial) (first | ((go_at_call 30; refine (b32_any y _).mono ?_; rintro e w' ⟨rfl, rfl⟩)))
  go_wp2
  go_end0
  exact ⟨rfl, rfl⟩
theorem m_swap (y : Bool) (hc : w.cell? ⟨b, o, none⟩ = some (.int .u32 (b32 x))) (hz : w.frozen? ⟨b, o, none⟩ = false) :
    Calls Try.prog 16 #[.pointer (some ⟨b, o, none⟩), .bool y] w fun e w' => e = .returned (.bool x) ∧ w' = (w.setCell ⟨b, o, none⟩ (.int .u32 (b32 y))).drew := by
  have hop := at_swap (w := w.drew) (y := b32 y) hc hz
  have ht := b32_test x
  go_enter Try.func16, Try.ntmps16
  go_wp2_with fail
  go_region_held3 (fun w' => True) (trivial) (first | ((go_at_call 30; refine (b32_any y _).mono ?_; rintro e w' ⟨rfl, rfl⟩)))
  go_wp2
  go_ret
  exact ⟨rfl, rfl⟩
theorem m_hit (z : Bool) (hc : w.cell? ⟨b, o, none⟩ = some (.int .u32 (b32 x))) (hz : w.frozen? ⟨b, o, none⟩ = false) :
    Calls Try.prog 17 #[.pointer (some ⟨b, o, none⟩), .bool x, .bool z] w fun e w' => e = .returned (.bool true) ∧ w' = (w.setCell ⟨b, o, none⟩ (.int .u32 (b32 z))).drew := by
  have hop := at_hit (w := w.drew) (z := b32 z) hc hz
  go_enter Try.func17, Try.ntmps17
  go_wp2_with fail
  go_region_held3 (fun w' => True) (trivial) (first | ((go_at_call 30; refine (b32_any _ _).mono ?_; rintro e w' ⟨rfl, rfl⟩)))
  go_wp2
  go_ret
  exact ⟨rfl, rfl⟩
theorem m_miss (y z : Bool) (hc : w.cell? ⟨b, o, none⟩ = some (.int .u32 (b32 x))) (hz : w.frozen? ⟨b, o, none⟩ = false) (hne : ¬ x = y) :
    Calls Try.prog 17 #[.pointer (some ⟨b, o, none⟩), .bool y, .bool z] w fun e w' => e = .returned (.bool false) ∧ w' = w.drew := by
  have hop := at_miss (w := w.drew) (z := b32 z) hc hz (b32_inj hne)
  go_enter Try.func17, Try.ntmps17
  go_wp2_with fail
  go_region_held3 (fun w' => True) (trivial) (first | ((go_at_call 30; refine (b32_any _ _).mono ?_; rintro e w' ⟨rfl, rfl⟩)))
  go_wp2
  go_ret
  exact ⟨rfl, rfl⟩
theorem m_load (hc : w.cell? ⟨b, o, none⟩ = some (.int .u32 (b32 x))) :
    Calls Try.prog 18 #[.pointer (some ⟨b, o, none⟩)] w fun e w' => e = .returned (.bool x) ∧ w' = w := by
  have hop := at_load hc
  have ht := b32_test x
  go_enter Try.func18, Try.ntmps18
  go_wp2
  go_ret
  exact ⟨rfl, rfl⟩
end
theorem infoE : (Try.prog.info? 4).map (fun i => (i.zero, i.size, i.bytes)) = some (some (.bool false), 1, 1) := by kernel_rfl
/-- append of one truth onto the answers of a run. -/
theorem wp_ans {ops : Array Oper} {rest : List Oper} {o : Oper} {a : Act} {Q : Exit → Act → World → Prop} (hgd : o.guard = none) (s x : Operand)
    (ho : o.op = .call { callee := .builtin .append, args := #[s, x], argTypes := #[23, 23] })
    {B X : Nat} {T : TypeId} {x0 r : Bool} {v : Value} {n sz : Nat} {zs : List Bool} {w wm : World} (hm : Mid B X 4 T x0 v n zs w wm) (hs : a.eval s = v)
    (hx : a.eval x = .slice (some ⟨sz, 0, none⟩) 1 1) (hsz : sz = wm.heap.size) (hn : n ≤ 8796093022208)
    (h : ∀ v' w1, Mid B X 4 T x0 v' (n + 1) (zs ++ [r]) w w1 → wpList Try.prog ops Q rest (a.put o.dst v') w1) : wpList Try.prog ops Q (o :: rest) a (wm.alloc (.cells #[.bool r] 4)) := by
  obtain ⟨i0, hi, hz0, hz1, hz2⟩ := info_parts infoE
  subst hsz
  refine wpList_append_own_at _ hgd s x 23 ho B 4 i0 (.bool false) 1 1 Try.underlying23 hi hz0 hz1 hz2 rfl (by decide) v n _ hs (hm.own.alloc _) ⟨wm.heap.size, 0, none⟩ 1 1 [.bool r] hx rfl (cell_one_new _ _ _) (by intro u hu; simp at hu; subst hu; rfl) (by unfold maxLen; omega) (by omega)
    (by have := hm.lo; have := hm.lt; simp; omega) ?_
  intro v' w1 hown hg _ hat
  exact h v' w1 ((hm.alloc _).append hown hg hat)
theorem wp_ansD {ops : Array Oper} {rest : List Oper} {o : Oper} {a : Act} {Q : Exit → Act → World → Prop} (hgd : o.guard = none) (s x : Operand)
    (ho : o.op = .call { callee := .builtin .append, args := #[s, x], argTypes := #[23, 23] })
    {B X : Nat} {T : TypeId} {x0 r : Bool} {v : Value} {n sz : Nat} {zs : List Bool} {w wm : World} (hm : Mid B X 4 T x0 v n zs w wm) (hs : a.eval s = v)
    (hx : a.eval x = .slice (some ⟨sz, 0, none⟩) 1 1) (hsz : sz = wm.heap.size) (hn : n ≤ 8796093022208)
    (h : ∀ v' w1, Mid B X 4 T x0 v' (n + 1) (zs ++ [r]) w w1 → wpList Try.prog ops Q rest (a.put o.dst v') w1) : wpList Try.prog ops Q (o :: rest) a (wm.alloc (.cells #[.bool r] 4)).drew := by
  obtain ⟨i0, hi, hz0, hz1, hz2⟩ := info_parts infoE
  subst hsz
  refine wpList_append_own_at _ hgd s x 23 ho B 4 i0 (.bool false) 1 1 Try.underlying23 hi hz0 hz1 hz2 rfl (by decide) v n _ hs (hm.own.alloc _).drew ⟨wm.heap.size, 0, none⟩ 1 1 [.bool r] hx rfl (cell_one_new wm _ _) (by intro u hu; simp at hu; subst hu; rfl) (by unfold maxLen; omega) (by omega)
    (by have := hm.lo; have := hm.lt; show _ ≤ (wm.alloc _).heap.size; simp; omega) ?_
  intro v' w1 hown hg _ hat
  exact h v' w1 ((hm.alloc _).drew.append hown hg hat)
/-- append of one truth onto a slice that the call gathers. -/
theorem wp_tru {ops : Array Oper} {rest : List Oper} {o : Oper} {a : Act} {Q : Exit → Act → World → Prop} (hgd : o.guard = none) (s x : Operand)
    (ho : o.op = .call { callee := .builtin .append, args := #[s, x], argTypes := #[23, 23] })
    {B : Nat} {r : Bool} {v : Value} {n sz : Nat} {cs : List Value} {w wm : World} (hm : Gath B 4 1 v n cs w wm) (hs : a.eval s = v)
    (hx : a.eval x = .slice (some ⟨sz, 0, none⟩) 1 1) (hsz : sz = wm.heap.size) (hn : n ≤ 8796093022208)
    (h : ∀ v' w1, Gath B 4 1 v' (n + 1) (cs ++ [.bool r]) w w1 → wpList Try.prog ops Q rest (a.put o.dst v') w1) : wpList Try.prog ops Q (o :: rest) a (wm.alloc (.cells #[.bool r] 4)) := by
  obtain ⟨i0, hi, hz0, hz1, hz2⟩ := info_parts infoE
  subst hsz
  refine wpList_append_own_at _ hgd s x 23 ho B 4 i0 (.bool false) 1 1 Try.underlying23 hi hz0 hz1 hz2 rfl (by decide) v n _ hs (hm.own.alloc _) ⟨wm.heap.size, 0, none⟩ 1 1 [.bool r] hx rfl (cell_one_new _ _ _) (by intro u hu; simp at hu; subst hu; rfl) (by unfold maxLen; omega) (by omega)
    (by have := hm.lo; simp; omega) ?_
  intro v' w1 hown hg _ _
  exact h v' w1 ((hm.alloc _).append hown hg)
end Go.Proofs.Ytaifhckmcagkcaa.B
