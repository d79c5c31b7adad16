/-
  Two slices of steps that one loop gathers, each in a row of its own: append onto one of them leaves the other one. Conditions: fewer than a million steps.
-/
import Derived.Test.YtclhdhpjgabpeaaConv
import Derived.Test.YtclhdhpjgabpeaaGsU32
import Derived.Test.YtclhdhpjgabpeaaGsU64
namespace Go.Proofs.Ytclhdhpjgabpeaa
open Go.RowKit

structure Pair (B : Nat) (e1 e2 : TypeId) (v1 v2 : Value) (n1 n2 : Nat) (cs1 cs2 : List Value) (w wr : World) : Prop where
  g1 : Gath B e1 3 v1 n1 cs1 w wr
  g2 : Gath B e2 3 v2 n2 cs2 w wr
  apart : v1.ownBlock ≠ v2.ownBlock
section
variable {B : Nat} {e1 e2 : TypeId} {v1 v2 : Value} {n1 n2 : Nat} {cs1 cs2 : List Value} {w wr w1 : World}
theorem Pair.swap (h : Pair B e1 e2 v1 v2 n1 n2 cs1 cs2 w wr) : Pair B e2 e1 v2 v1 n2 n1 cs2 cs1 w wr := ⟨h.g2, h.g1, Ne.symm h.apart⟩
theorem Pair.keep (h : Pair B e1 e2 v1 v2 n1 n2 cs1 cs2 w wr) (hb : Below wr.heap.size wr w1) : Pair B e1 e2 v1 v2 n1 n2 cs1 cs2 w w1 := ⟨h.g1.keep hb, h.g2.keep hb, h.apart⟩
theorem Pair.alloc (h : Pair B e1 e2 v1 v2 n1 n2 cs1 cs2 w wr) (o : Obj) : Pair B e1 e2 v1 v2 n1 n2 cs1 cs2 w (wr.alloc o) := h.keep (ext_new wr o)
theorem Pair.drew (h : Pair B e1 e2 v1 v2 n1 n2 cs1 cs2 w wr) : Pair B e1 e2 v1 v2 n1 n2 cs1 cs2 w wr.drew := ⟨h.g1.drew, h.g2.drew, h.apart⟩
theorem Pair.start (w : World) (e1 e2 : TypeId) : Pair w.heap.size e1 e2 (.slice (some ⟨w.heap.size, 0, none⟩) 0 0) (.slice (some ⟨w.heap.size + 1, 0, none⟩) 0 0) 0 0 [] [] w ((w.alloc (.cells #[] e1)).alloc (.cells #[] e2)) := by
  have h2 := Gath.start (w.alloc (.cells #[] e1)) e2 3
  have hs : (w.alloc (.cells #[] e1)).heap.size = w.heap.size + 1 := by simp
  rw [hs] at h2
  refine ⟨(Gath.start w e1 3).alloc _, ⟨⟨h2.own.1, ?_⟩, ext_trans (ext_new w _) (ext_new _ _), by simp; omega⟩, by simp [Value.ownBlock]⟩
  rcases h2.own.2 with h | ⟨g, cap, cur, h3, h4, h5⟩
  · exact .inl h
  · exact .inr ⟨g, cap, cur, h3, by omega, h5⟩
theorem Pair.append (h : Pair B e1 e2 v1 v2 n1 n2 cs1 cs2 w wr) {m : Nat} {ns : List Value} {v' : Value} (hown : w1.ownsRow B e1 3 v' (n1 + m) (cs1 ++ ns)) (hg : wr.grownBy w1 v1.ownBlock)
    (hat : v'.ownBlock = v1.ownBlock ∨ v'.ownBlock = some wr.heap.size) : Pair B e1 e2 v' v2 (n1 + m) n2 (cs1 ++ ns) cs2 w w1 := by
  have hG := h.g1.append hown hg
  refine ⟨hG, ⟨h.g2.own.kept hg (.inr (Ne.symm h.apart)), hG.below, hG.lo⟩, ?_⟩
  rcases hat with e' | e'
  · rw [e']; exact h.apart
  · rw [e']
    intro e2'
    have := (h.g2.own.lt _ e2'.symm).2
    omega
end
section
variable {P : Program} {w wm : World}
theorem wp_pair {o : Oper} {a : Act} {K : Act → World → Prop} {Q : Exit → Act → World → Prop} (s x : Operand) (t : TypeId)
    (ho : o.op = .call { callee := .builtin .append, args := #[s, x], argTypes := #[t, t] })
    (B : Nat) (e e2 : TypeId) (i : TypeInfo) (z : Value) (bytes : Nat) (ht : P.underlying t = some (.slice e)) (hi : P.info? e = some i) (hz : i.zero = some z)
    (hsize : i.size = 3) (hby : i.bytes = bytes) (hzs : z.cells.size = 3) (v v2 : Value) (n n2 : Nat) (cs cs2 : List Value) (hs : a.eval s = v) (hm : Pair B e e2 v v2 n n2 cs cs2 w wm)
    (k : IntKind) (T : TypeId) (sz : Nat) (st : Step) (hx : a.eval x = .slice (some ⟨sz, 0, none⟩) 1 1) (hV : wm.heap[sz]? = some (.cells #[.int .i64 st.1, .int k st.2.1, .int k st.2.2] T (0, 0)))
    (hn : n ≤ 999999) (hb : bytes ≤ 1000)
    (h : ∀ v' w1, Pair B e e2 v' v2 (n + 1) n2 (cs ++ cellsOf1 k st) cs2 w w1 → K (a.put o.dst v') w1) : o.wp P a wm K Q := by
  obtain ⟨v', w1, hrun, h2, h3, _, h4⟩ := run_append_own_at (P := P) wm B t o.type e i z 3 bytes ht hi hz hsize hby hzs (by decide) v n cs hm.g1.own ⟨sz, 0, none⟩ 1 1 (cellsOf1 k st) rfl
    (fun j u hu => by
      have hadd : (⟨sz, 0, none⟩ : Addr).add j = ⟨sz, j, none⟩ := by unfold Addr.add; split <;> simp_all
      rw [hadd, cell_of_row wm sz j _ _ _ hV]
      simpa [cellsOf1] using hu) (one_cell3 _ _) (by unfold maxLen; omega)
      (Nat.le_trans (Nat.mul_le_mul (show n + 1 ≤ 1000000 by omega) hb) (by omega)) hm.g1.lo
  unfold Oper.wp execOp
  simp only [ho, resolve, invoke, builtin, Sem.run_bind, Sem.run_pure, Result.andThen_ok, List.map_toArray, List.map_cons, List.map_nil, hs, hx, hrun]
  exact h v' w1 (hm.append h2 h3 h4)
end
theorem wp_wide {ops : Array Oper} {rest : List Oper} {o : Oper} {a : Act} {Q : Exit → Act → World → Prop} (hgd : o.guard = none) (s x : Operand)
    (ho : o.op = .call { callee := .builtin .append, args := #[s, x], argTypes := #[40, 40] })
    {B : Nat} {e2 : TypeId} {v v2 : Value} {n n2 sz : Nat} {cs cs2 : List Value} {w wm : World} (st : Step) (hm : Pair B 45 e2 v v2 n n2 cs cs2 w wm) (hs : a.eval s = v)
    (hx : a.eval x = .slice (some ⟨sz, 0, none⟩) 1 1) (hV : wm.heap[sz]? = some (.cells #[.int .i64 st.1, .int .u64 st.2.1, .int .u64 st.2.2] 45 (0, 0))) (hn : n ≤ 999999)
    (h : ∀ v' w1, Pair B 45 e2 v' v2 (n + 1) n2 (cs ++ cellsOf1 .u64 st) cs2 w w1 → wpList Try.prog ops Q rest (a.put o.dst v') w1) : wpList Try.prog ops Q (o :: rest) a wm := by
  obtain ⟨i0, hi, hz0, hz1, hz2⟩ := info_parts U64.infoG
  refine wpList_plain hgd fun K hK => wp_pair s x 40 ho B 45 e2 i0 _ 24 Try.underlying40 hi hz0 hz1 hz2 rfl v v2 n n2 cs cs2 hs hm .u64 _ sz st hx hV hn (by omega) ?_
  intro v' w1 hG
  exact hK _ _ (h v' w1 hG)
theorem step_narrow {ops : Array Oper} {o : Oper} {a : Act} {K : Act → World → Prop} {Q : Exit → Act → World → Prop} {E : Prop} (hw : Region.wanted o (yielded ops a.tmps) = true) (s x : Operand)
    (ho : o.op = .call { callee := .builtin .append, args := #[s, x], argTypes := #[26, 26] })
    {B : Nat} {e1 : TypeId} {v1 v : Value} {n1 n sz : Nat} {cs1 cs : List Value} {w wm : World} (st : Step) (hm : Pair B e1 31 v1 v n1 n cs1 cs w wm) (hs : a.eval s = v)
    (hx : a.eval x = .slice (some ⟨sz, 0, none⟩) 1 1) (hV : wm.heap[sz]? = some (.cells #[.int .i64 st.1, .int .u32 st.2.1, .int .u32 st.2.2] 31 (0, 0))) (hn : n ≤ 999999)
    (h : ∀ v' w1, Pair B e1 31 v1 v' n1 (n + 1) cs1 (cs ++ cellsOf1 .u32 st) w w1 → K (a.put o.dst v') w1) :
    if Region.wanted o (yielded ops a.tmps) = true then Oper.wp Try.prog o a wm K Q else E := by
  obtain ⟨i0, hi, hz0, hz1, hz2⟩ := info_parts U32.infoG
  rw [if_pos hw]
  exact wp_pair s x 26 ho B 31 e1 i0 _ 16 Try.underlying26 hi hz0 hz1 hz2 rfl v v1 n n1 cs cs1 hs hm.swap .u32 _ sz st hx hV hn (by omega) (fun v' w1 hG => h v' w1 hG.swap)
/-- The steps that compare nothing. -/
def still (L : List Step) : List Step := L.filter fun s => s.1 != 6
theorem still_ne (L : List Step) : ∀ s ∈ still L, ¬ s.1 = 6 := by intro s hs; have := (List.mem_filter.1 hs).2; simpa using this
theorem still_skip (L : List Step) (i : Nat) (s : Step) (h : L[i]? = some s) (h6 : s.1 = 6) : still (L.take (i + 1)) = still (L.take i) := by
  rw [take_snoc L i s h]; simp [still, h6]
theorem still_snoc (L : List Step) (i : Nat) (s : Step) (h : L[i]? = some s) (h6 : ¬ s.1 = 6) : still (L.take (i + 1)) = still (L.take i) ++ [s] := by
  rw [take_snoc L i s h]; simp [still, h6]
theorem still_le (L : List Step) (i : Nat) : (still (L.take i)).length ≤ i := Nat.le_trans (List.length_filter_le _ _) (by simp; omega)
end Go.Proofs.Ytclhdhpjgabpeaa
