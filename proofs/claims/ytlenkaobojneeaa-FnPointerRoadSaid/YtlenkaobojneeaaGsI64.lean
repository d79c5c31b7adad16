/-
  append of one step onto a slice of steps, at a step of a region that draws its order. Conditions: fewer than a million steps.
-/
import Derived.Test.YtlenkaobojneeaaRows
import Derived.Test.YtlenkaobojneeaaCat
namespace Go.Proofs.Ytlenkaobojneeaa.I64
open Go.RowKit
theorem infoG : (Try.prog.info? 35).map (fun i => (i.zero, i.size, i.bytes)) = some (some (.agg #[.int .i64 0, .int .i64 0, .int .i64 0]), 3, 24) := by kernel_rfl
/-- append of one step onto a slice of steps that the call gathers, at a step of a region that draws its order. -/
theorem step_gstep {ops : Array Oper} {o : Oper} {a : Act} {K : Act → World → Prop} {Q : Exit → Act → World → Prop} {E : Prop} (hw : Region.wanted o (yielded ops a.tmps) = true) (s x : Operand)
    (ho : o.op = .call { callee := .builtin .append, args := #[s, x], argTypes := #[36, 36] })
    {B : Nat} {v : Value} {n sz : Nat} {cs : List Value} {w wm : World} (st : Step) (hm : Gath B 35 3 v n cs w wm) (hs : a.eval s = v)
    (hx : a.eval x = .slice (some ⟨sz, 0, none⟩) 1 1) (hV : wm.heap[sz]? = some (.cells #[.int .i64 st.1, .int .i64 st.2.1, .int .i64 st.2.2] 35 (0, 0))) (hn : n ≤ 999999)
    (h : ∀ v' w1, Gath B 35 3 v' (n + 1) (cs ++ cellsOf1 .i64 st) w w1 → K (a.put o.dst v') w1) :
    if Region.wanted o (yielded ops a.tmps) = true then Oper.wp Try.prog o a wm K Q else E := by
  obtain ⟨i0, hi, hz0, hz1, hz2⟩ := info_parts infoG
  rw [if_pos hw]
  refine wp_cat s x 36 ho B 35 i0 _ 3 24 Try.underlying36 hi hz0 hz1 hz2 rfl (by decide) v n cs hs hm (some ⟨sz, 0, none⟩) 1 1 (cellsOf1 .i64 st) hx rfl (fun a ha j u hu => ?_) (fun e => by cases e) (one_cell3 _ _) (by omega) (by omega) h
  replace ha := Option.some.inj ha
  subst ha
  have hadd : (⟨sz, 0, none⟩ : Addr).add j = ⟨sz, j, none⟩ := by unfold Addr.add; split <;> simp_all
  rw [hadd, cell_of_row wm sz j _ _ _ hV]
  simpa [cellsOf1] using hu
end Go.Proofs.Ytlenkaobojneeaa.I64
