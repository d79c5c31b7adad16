/-
  append of a whole slice onto a slice that the call gathers, whatever the program: the source may be nil, empty or not. Conditions: the sizes are within Go's own bounds.
-/
import Derived.Test.YtlenkaobojneeaaBase
import Derived.Deep.RegionHeld3
namespace Go.Proofs.Ytlenkaobojneeaa
open Go.RowKit

theorem Steps.cells {k : IntKind} {w : World} {a : Addr} {n : Nat} {L : List Step} (h : Steps k w (some a) n L) : ∀ j u, (cellsOfL k L)[j]? = some u → w.cell? (a.add j) = some u := by
  intro j u hu
  have hj : j < L.length * 3 := by have := (List.getElem?_eq_some_iff.1 hu).1; rw [cellsOfL_length] at this; exact this
  have hi : j / 3 < L.length := by omega
  obtain ⟨s, hs⟩ : ∃ s, L[j / 3]? = some s := ⟨_, List.getElem?_eq_getElem hi⟩
  obtain ⟨b, off, e, h0, h1, h2⟩ := h.2 _ _ hs
  injection e with e
  subst e
  have hadd : (⟨b, off, none⟩ : Addr).add j = ⟨b, off + j, none⟩ := by unfold Addr.add; split <;> simp_all
  rw [hadd]
  have hat := cellsOfL_at k L (j / 3) s hs (j % 3) (by omega)
  rw [show j / 3 * 3 + j % 3 = j from by omega, hu] at hat
  rcases (show j % 3 = 0 ∨ j % 3 = 1 ∨ j % 3 = 2 by omega) with e | e | e <;> rw [e] at hat <;> simp [cellsOf1] at hat <;> subst hat
  · rw [← h0]; congr 2; omega
  · rw [← h1]; congr 2; omega
  · rw [← h2]; congr 2; omega
theorem Ints.cells {k : IntKind} {w : World} {a : Addr} {n : Nat} {zs : List Int} (h : Ints k w (some a) n zs) : ∀ j u, (zs.map (Value.int k))[j]? = some u → w.cell? (a.add j) = some u := by
  intro j u hu
  rw [List.getElem?_map] at hu
  obtain ⟨z, hz, rfl⟩ := Option.map_eq_some_iff.1 hu
  obtain ⟨b, off, e, h0⟩ := h.2 _ _ hz
  injection e with e
  subst e
  have hadd : (⟨b, off, none⟩ : Addr).add j = ⟨b, off + j, none⟩ := by unfold Addr.add; split <;> simp_all
  rw [hadd]; exact h0
theorem one_cells (k : IntKind) (L : List Step) : ∀ u ∈ cellsOfL k L, u.oneCell' = true := by
  intro u hu
  obtain ⟨s, _, hs⟩ := List.mem_flatMap.1 hu
  exact one_cell3 k s u hs
theorem one_ints (k : IntKind) (zs : List Int) : ∀ u ∈ zs.map (Value.int k), u.oneCell' = true := by
  intro u hu
  obtain ⟨z, _, rfl⟩ := List.mem_map.1 hu
  rfl
theorem Ints.tail {k : IntKind} {w : World} {b off n : Nat} {z : Int} {zs : List Int} (h : Ints k w (some ⟨b, off, none⟩) (n + 1) (z :: zs)) : Ints k w (some ⟨b, off + 1, none⟩) n zs := by
  refine ⟨by have := h.1; simpa using this, fun i y hy => ⟨b, off + 1, rfl, ?_⟩⟩
  obtain ⟨b', off', e, h0⟩ := h.2 (i + 1) y (by simpa using hy)
  injection e with e
  injection e with e1 e2
  subst e1 e2
  rw [← h0]; congr 2; omega

section
variable {P : Program} {w wm : World}
theorem run_nil_src (t ty e : TypeId) (i : TypeInfo) (size base : Nat) (ht : P.underlying t = some (.slice e)) (hi : P.info? e = some i) (v : Value) (n : Nat) (xs : List Value) (hown : wm.ownsRow base e size v n xs) (c : Nat) :
    (Builtin.append_ #[t, t] ty #[v, .slice none 0 c]).run P wm = .ok v wm := by
  rcases hown.2 with ⟨rfl, rfl⟩ | ⟨g, cap, cur, rfl, _, _, hnc, _⟩
  · simp [Builtin.append_, run_underlying ht, sizeOf, typeInfo, hi, Builtin.lenOf, Builtin.firstCells]
  · simp [Builtin.append_, run_underlying ht, sizeOf, typeInfo, hi, Builtin.lenOf, Builtin.firstCells, hnc, storeCells]
theorem run_cat (B : Nat) (t ty e : TypeId) (i : TypeInfo) (z : Value) (size bytes : Nat) (ht : P.underlying t = some (.slice e)) (hi : P.info? e = some i) (hz : i.zero = some z)
    (hsize : i.size = size) (hby : i.bytes = bytes) (hzs : z.cells.size = size) (hsz : 0 < size) (v : Value) (n : Nat) (cs : List Value) (hm : Gath B e size v n cs w wm)
    (A : Option Addr) (m c : Nat) (news : List Value) (hl : news.length = m * size) (hc : ∀ a, A = some a → ∀ j u, news[j]? = some u → wm.cell? (a.add j) = some u) (h0 : A = none → m = 0) (h1 : ∀ u ∈ news, u.oneCell' = true)
    (hn : n + m ≤ 1000000) (hb : bytes ≤ 1000) :
    ∃ v' w1, (Builtin.append_ #[t, t] ty #[v, .slice A m c]).run P wm = .ok v' w1 ∧ Gath B e size v' (n + m) (cs ++ news) w w1 := by
  cases A with
  | none =>
    obtain rfl := h0 rfl
    have hnil : news = [] := List.eq_nil_of_length_eq_zero (by simpa using hl)
    subst hnil
    exact ⟨v, wm, run_nil_src t ty e i size B ht hi v n cs hm.own c, by simpa using hm⟩
  | some a =>
    obtain ⟨v', w', hrun, h2, h3, _, _⟩ := run_append_own_at (P := P) wm B t ty e i z size bytes ht hi hz hsize hby hzs hsz v n cs hm.own a m c news hl (hc a rfl) h1 (by unfold maxLen; omega)
      (Nat.le_trans (Nat.mul_le_mul hn hb) (by omega)) hm.lo
    exact ⟨v', w', hrun, hm.append h2 h3⟩
theorem wp_cat {o : Oper} {a : Act} {K : Act → World → Prop} {Q : Exit → Act → World → Prop} (s x : Operand) (t : TypeId)
    (ho : o.op = .call { callee := .builtin .append, args := #[s, x], argTypes := #[t, t] })
    (B : Nat) (e : TypeId) (i : TypeInfo) (z : Value) (size bytes : Nat) (ht : P.underlying t = some (.slice e)) (hi : P.info? e = some i) (hz : i.zero = some z)
    (hsize : i.size = size) (hby : i.bytes = bytes) (hzs : z.cells.size = size) (hsz : 0 < size) (v : Value) (n : Nat) (cs : List Value) (hs : a.eval s = v) (hm : Gath B e size v n cs w wm)
    (A : Option Addr) (m c : Nat) (news : List Value) (hx : a.eval x = .slice A m c) (hl : news.length = m * size) (hc : ∀ a, A = some a → ∀ j u, news[j]? = some u → wm.cell? (a.add j) = some u) (h0 : A = none → m = 0) (h1 : ∀ u ∈ news, u.oneCell' = true)
    (hn : n + m ≤ 1000000) (hb : bytes ≤ 1000)
    (h : ∀ v' w1, Gath B e size v' (n + m) (cs ++ news) w w1 → K (a.put o.dst v') w1) : o.wp P a wm K Q := by
  obtain ⟨v', w1, hrun, hG⟩ := run_cat (P := P) B t o.type e i z size bytes ht hi hz hsize hby hzs hsz v n cs hm A m c news hl hc h0 h1 hn hb
  unfold Oper.wp execOp
  simp only [ho, resolve, invoke, builtin, Sem.run_bind, Sem.run_pure, Result.andThen_ok, List.map_toArray, List.map_cons, List.map_nil, hs, hx, hrun]
  exact h v' w1 hG
end
theorem Steps.none_len {k : IntKind} {w : World} {A : Option Addr} {n : Nat} {L : List Step} (h : Steps k w A n L) : A = none → n = 0 := by
  intro e
  subst e
  rcases Nat.eq_zero_or_pos n with h0 | h0
  · exact h0
  · obtain ⟨b, off, e, _⟩ := h.2 0 _ (List.getElem?_eq_getElem (by rw [h.1]; exact h0))
    cases e
theorem Ints.none_len {k : IntKind} {w : World} {A : Option Addr} {n : Nat} {zs : List Int} (h : Ints k w A n zs) : A = none → n = 0 := by
  intro e
  subst e
  rcases Nat.eq_zero_or_pos n with h0 | h0
  · exact h0
  · obtain ⟨b, off, e, _⟩ := h.2 0 _ (List.getElem?_eq_getElem (by rw [h.1]; exact h0))
    cases e
theorem Gath.lit (w : World) (e : TypeId) (sz n : Nat) (cs : Array Value) (hn : n ≤ 1000000) (hs : cs.size = n * sz) : Gath w.heap.size e sz (.slice (some ⟨w.heap.size, 0, none⟩) n n) n cs.toList w (w.alloc (.cells cs e)) :=
  ⟨World.ownsRow_lit w cs n (Nat.le_refl _) (by unfold maxLen; omega) hs, (Below.refl _ _).alloc (Nat.le_refl _) _, by simp⟩
/-- What two scripts, one behind the other, come to. -/
theorem parts_q (k : IntKind) (x : Int) (L : List Step) : fin k 0 ((1, x, 0) :: L) = fin k x L ∧ ans k 0 ((1, x, 0) :: L) = 0 :: ans k x L := by
  simp [fin, ans, after]
end Go.Proofs.Ytlenkaobojneeaa
