/-
  append of a whole slice of steps of truths, or of truths, onto a slice that the call gathers: the source may be nil, empty or not. Conditions: fewer than a million elements.
-/
import Derived.Test.YtaifhckmcagkcaaCat
import Derived.Test.YtaifhckmcagkcaaAtomB
import Derived.Test.YtaifhckmcagkcaaDrawB
namespace Go.Proofs.Ytaifhckmcagkcaa.B
open Go.RowKit
theorem Steps.cells {w : World} {a : Addr} {n : Nat} {L : List Step} (h : Steps w (some a) n L) : ∀ j u, (cellsOfL L)[j]? = some u → w.cell? (a.add j) = some u := by
  intro j u hu
  have hj : j < L.length * 3 := by have := (List.getElem?_eq_some_iff.1 hu).1; rw [cellsOfL_length] at this; exact this
  have hi : j / 3 < L.length := by omega
  obtain ⟨s, hs⟩ : ∃ s, L[j / 3]? = some s := ⟨_, List.getElem?_eq_getElem hi⟩
  obtain ⟨b, off, e, h0, h1, h2⟩ := h.2 _ _ hs
  injection e with e
  subst e
  have hadd : (⟨b, off, none⟩ : Addr).add j = ⟨b, off + j, none⟩ := by unfold Addr.add; split <;> simp_all
  rw [hadd]
  have hat := cellsOfL_at L (j / 3) s hs (j % 3) (by omega)
  rw [show j / 3 * 3 + j % 3 = j from by omega, hu] at hat
  rcases (show j % 3 = 0 ∨ j % 3 = 1 ∨ j % 3 = 2 by omega) with e | e | e <;> rw [e] at hat <;> simp [cellsOf1] at hat <;> subst hat
  · rw [← h0]; congr 2; omega
  · rw [← h1]; congr 2; omega
  · rw [← h2]; congr 2; omega
theorem Bools.cells {w : World} {a : Addr} {n : Nat} {zs : List Bool} (h : Bools w (some a) n zs) : ∀ j u, (zs.map Value.bool)[j]? = some u → w.cell? (a.add j) = some u := by
  intro j u hu
  rw [List.getElem?_map] at hu
  obtain ⟨z, hz, rfl⟩ := Option.map_eq_some_iff.1 hu
  obtain ⟨b, off, e, h0⟩ := h.2 _ _ hz
  injection e with e
  subst e
  have hadd : (⟨b, off, none⟩ : Addr).add j = ⟨b, off + j, none⟩ := by unfold Addr.add; split <;> simp_all
  rw [hadd]; exact h0
theorem one_cells (L : List Step) : ∀ u ∈ cellsOfL L, u.oneCell' = true := by
  intro u hu
  obtain ⟨s, _, hs⟩ := List.mem_flatMap.1 hu
  exact one_cell3 s u hs
theorem one_bools (zs : List Bool) : ∀ u ∈ zs.map Value.bool, u.oneCell' = true := by
  intro u hu
  obtain ⟨z, _, rfl⟩ := List.mem_map.1 hu
  rfl
theorem Bools.tail {w : World} {b off n : Nat} {z : Bool} {zs : List Bool} (h : Bools w (some ⟨b, off, none⟩) (n + 1) (z :: zs)) : Bools w (some ⟨b, off + 1, none⟩) n zs := by
  refine ⟨by have := h.1; simpa using this, fun i y hy => ⟨b, off + 1, rfl, ?_⟩⟩
  obtain ⟨b', off', e, h0⟩ := h.2 (i + 1) y (by simpa using hy)
  injection e with e
  injection e with e1 e2
  subst e1 e2
  rw [← h0]; congr 2; omega
theorem Steps.none_len {w : World} {A : Option Addr} {n : Nat} {L : List Step} (h : Steps w A n L) : A = none → n = 0 := by
  intro e
  subst e
  rcases Nat.eq_zero_or_pos n with h0 | h0
  · exact h0
  · obtain ⟨b, off, e, _⟩ := h.2 0 _ (List.getElem?_eq_getElem (by rw [h.1]; exact h0))
    cases e
theorem Bools.none_len {w : World} {A : Option Addr} {n : Nat} {zs : List Bool} (h : Bools w A n zs) : A = none → n = 0 := by
  intro e
  subst e
  rcases Nat.eq_zero_or_pos n with h0 | h0
  · exact h0
  · obtain ⟨b, off, e, _⟩ := h.2 0 _ (List.getElem?_eq_getElem (by rw [h.1]; exact h0))
    cases e
theorem parts_q (x : Bool) (L : List Step) : fin false ((1, x, false) :: L) = fin x L ∧ ans false ((1, x, false) :: L) = false :: ans x L := by
  simp [fin, ans, after]
theorem wp_scat {ops : Array Oper} {rest : List Oper} {o : Oper} {a : Act} {Q : Exit → Act → World → Prop} (hgd : o.guard = none) (s x : Operand)
    (ho : o.op = .call { callee := .builtin .append, args := #[s, x], argTypes := #[22, 22] })
    {B : Nat} {v : Value} {n m c : Nat} {cs : List Value} {A : Option Addr} {L : List Step} {w wm : World} (hm : Gath B 32 3 v n cs w wm) (hs : a.eval s = v)
    (hx : a.eval x = .slice A m c) (hS : Steps wm A m L) (hn : n + m ≤ 1000000)
    (h : ∀ v' w1, Gath B 32 3 v' (n + m) (cs ++ cellsOfL L) w w1 → wpList Try.prog ops Q rest (a.put o.dst v') w1) : wpList Try.prog ops Q (o :: rest) a wm := by
  obtain ⟨i0, hi, hz0, hz1, hz2⟩ := info_parts infoS
  refine wpList_plain hgd fun K hK => wp_cat s x 22 ho B 32 i0 _ 3 16 Try.underlying22 hi hz0 hz1 hz2 rfl (by decide) v n cs hs hm A m c (cellsOfL L) hx (by rw [cellsOfL_length, hS.1]) (fun a ha => by subst ha; exact hS.cells) hS.none_len (one_cells _) hn (by omega) ?_
  intro v' w1 hG
  exact hK _ _ (h v' w1 hG)
theorem step_icat {ops : Array Oper} {o : Oper} {a : Act} {K : Act → World → Prop} {Q : Exit → Act → World → Prop} {E : Prop} (hw : Region.wanted o (yielded ops a.tmps) = true) (s x : Operand)
    (ho : o.op = .call { callee := .builtin .append, args := #[s, x], argTypes := #[23, 23] })
    {B : Nat} {v : Value} {n m c : Nat} {cs : List Value} {A : Option Addr} {zs : List Bool} {w wm : World} (hm : Gath B 4 1 v n cs w wm) (hs : a.eval s = v)
    (hx : a.eval x = .slice A m c) (hI : Bools wm A m zs) (hn : n + m ≤ 1000000)
    (h : ∀ v' w1, Gath B 4 1 v' (n + m) (cs ++ zs.map Value.bool) w w1 → K (a.put o.dst v') w1) :
    if Region.wanted o (yielded ops a.tmps) = true then Oper.wp Try.prog o a wm K Q else E := by
  obtain ⟨i0, hi, hz0, hz1, hz2⟩ := info_parts infoE
  rw [if_pos hw]
  exact wp_cat s x 23 ho B 4 i0 _ 1 1 Try.underlying23 hi hz0 hz1 hz2 rfl (by decide) v n cs hs hm A m c (zs.map Value.bool) hx (by simp [hI.1]) (fun a ha => by subst ha; exact hI.cells) hI.none_len (one_bools _) hn (by omega) h
end Go.Proofs.Ytaifhckmcagkcaa.B
