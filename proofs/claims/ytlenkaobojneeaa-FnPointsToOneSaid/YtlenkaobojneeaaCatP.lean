/-
  append of a whole slice of steps of pointers, or of ints, onto a slice that the call gathers: the source may be nil, empty or not; and plain facts on scripts of pointers. Conditions: fewer than a million elements.
-/
import Derived.Test.YtlenkaobojneeaaCat
import Derived.Test.YtlenkaobojneeaaDrawP
namespace Go.Proofs.Ytlenkaobojneeaa.P
open Go.RowKit
theorem parts_q (x : Int) (L : List Step) (hx : -1 ≤ x ∧ x ≤ 7) : pfin ((1, x, 0) :: L) = fin .i64 x (L.map toP) ∧ pans ((1, x, 0) :: L) = 0 :: ans .i64 x (L.map toP) := by
  have h : after .i64 (-1) (toP (1, x, 0)) = (0, x) := by
    have := paft_store (-1) x 0
    rw [cl_same x hx.1 hx.2] at this
    exact this
  simp only [pfin, pans, List.map_cons, fin, ans, h]
  exact ⟨trivial, trivial⟩
theorem wp_scat {ops : Array Oper} {rest : List Oper} {o : Oper} {a : Act} {Q : Exit → Act → World → Prop} (hgd : o.guard = none) (s x : Operand)
    (ho : o.op = .call { callee := .builtin .append, args := #[s, x], argTypes := #[22, 22] })
    {B : Nat} {v : Value} {n m c : Nat} {cs : List Value} {A : Option Addr} {L : List Step} {w wm : World} (hm : Gath B 32 3 v n cs w wm) (hs : a.eval s = v)
    (hx : a.eval x = .slice A m c) (hS : Steps .i64 wm A m L) (hn : n + m ≤ 1000000)
    (h : ∀ v' w1, Gath B 32 3 v' (n + m) (cs ++ cellsOfL .i64 L) w w1 → wpList Try.prog ops Q rest (a.put o.dst v') w1) : wpList Try.prog ops Q (o :: rest) a wm := by
  obtain ⟨i0, hi, hz0, hz1, hz2⟩ := info_parts infoS
  refine wpList_plain hgd fun K hK => wp_cat s x 22 ho B 32 i0 _ 3 24 Try.underlying22 hi hz0 hz1 hz2 rfl (by decide) v n cs hs hm A m c (cellsOfL .i64 L) hx (by rw [cellsOfL_length, hS.1]) (fun a ha => by subst ha; exact hS.cells) hS.none_len (one_cells _ _) hn (by omega) ?_
  intro v' w1 hG
  exact hK _ _ (h v' w1 hG)
theorem step_icat {ops : Array Oper} {o : Oper} {a : Act} {K : Act → World → Prop} {Q : Exit → Act → World → Prop} {E : Prop} (hw : Region.wanted o (yielded ops a.tmps) = true) (s x : Operand)
    (ho : o.op = .call { callee := .builtin .append, args := #[s, x], argTypes := #[23, 23] })
    {B : Nat} {v : Value} {n m c : Nat} {cs : List Value} {A : Option Addr} {zs : List Int} {w wm : World} (hm : Gath B 3 1 v n cs w wm) (hs : a.eval s = v)
    (hx : a.eval x = .slice A m c) (hI : Ints .i64 wm A m zs) (hn : n + m ≤ 1000000)
    (h : ∀ v' w1, Gath B 3 1 v' (n + m) (cs ++ zs.map (Value.int .i64)) w w1 → K (a.put o.dst v') w1) :
    if Region.wanted o (yielded ops a.tmps) = true then Oper.wp Try.prog o a wm K Q else E := by
  obtain ⟨i0, hi, hz0, hz1, hz2⟩ := info_parts infoE
  rw [if_pos hw]
  exact wp_cat s x 23 ho B 3 i0 _ 1 8 Try.underlying23 hi hz0 hz1 hz2 rfl (by decide) v n cs hs hm A m c (zs.map (Value.int .i64)) hx (by simp [hI.1]) (fun a ha => by subst ha; exact hI.cells) hI.none_len (one_ints _ _) hn (by omega) h
/-- A store of no cell behind a script. -/
theorem nowhere_fin (L : List Step) : pfin (L ++ [(1, -1, 0)]) = -1 := by
  rw [pfin_append]; simp [fin, after, toP, doOf, cl]
/-- The three steps of FnPointsToOne behind a script. -/
theorem one_fin (L : List Step) (i j : Int) (hi : 0 ≤ i ∧ i < 8) (hj : 0 ≤ j ∧ j < 8) (hne : ¬ i = j) :
    pfin (L ++ [(1, i, 0), (6, j, -1), (6, i, j)]) = j ∧ pans (L ++ [(1, i, 0), (6, j, -1), (6, i, j)]) = pans L ++ [0, 0, 1] := by
  rw [pfin_append, pans_append]
  generalize pfin L = x
  have h1 : after .i64 x (toP (1, i, 0)) = (0, i) := by have := paft_store x i 0; rw [cl_of i hi.1 hi.2] at this; exact this
  have h2 : after .i64 i (toP (6, j, -1)) = (0, i) := paft_miss i j (-1) (by rw [cl_of j hj.1 hj.2]; exact hne)
  have h3 : after .i64 i (toP (6, i, j)) = (1, j) := by have := paft_hit i i j (by rw [cl_of i hi.1 hi.2]); rw [cl_of j hj.1 hj.2] at this; exact this
  simp only [List.map_cons, List.map_nil, fin, ans, h1, h2, h3]
  exact ⟨trivial, trivial⟩
end Go.Proofs.Ytlenkaobojneeaa.P
