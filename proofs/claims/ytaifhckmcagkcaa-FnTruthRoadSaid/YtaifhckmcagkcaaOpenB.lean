/-
  An argument that is a slice of steps of truths, read as data, lies in memory as such: three cells a step. Conditions: the slice's element is a struct of an int and two bools.
-/
import Derived.Test.YtaifhckmcagkcaaOpen
import Derived.Test.YtaifhckmcagkcaaBaseB
namespace Go.Proofs.Ytaifhckmcagkcaa.B
open Go.ChangeShapes Go.WideShapes Go.ChangeAt Go.RowKit Go.Deep

section
variable {H : Type} {enc : TypeId × Value → H} {P : Program} {w : World} {base : Nat} {spare : Nat → Bool} {held : Bool}
theorem open_steps {t e tn tk : TypeId} {f0 f1 f2 : Field} {fuel : Nat} {cs : List Value} {x : DataW H × List MemPlace} (ht : P.underlying t = some (.slice e)) (he : P.underlying e = some (.struct #[f0, f1, f2]))
    (hC : P.cellsOf e = 3) (hf : f0.type = tn ∧ f1.type = tk ∧ f2.type = tk ∧ f0.offset = 0 ∧ f1.offset = 1 ∧ f2.offset = 2) (hn : P.underlying tn = some (.int .i64)) (hk : P.underlying tk = some .bool) (h1 : P.cellsOf tn = 1) (h2 : P.cellsOf tk = 1)
    (h : DataW.trod enc P w base spare held fuel t cs = some x) :
    ∃ (A : Option Addr) (len cap : Nat) (L : List Step), cs = [.slice A len cap] ∧ Steps w A len L ∧ len ≤ cap ∧ (∀ s ∈ L, (Lit.int .i64 s.1).wf = true) ∧
      (len = 0 ∨ ∃ es sp, x.1 = .slice es sp ∧ len ≤ es.length + sp.length) := by
  obtain ⟨e0, e1, e2, o0, o1, o2⟩ := hf
  rcases open_slice ht h with ⟨hcs, _⟩ | ⟨a, len, cap, m, n, D, Pl, hcs, _, hl, hm, hmm, hx, hi⟩
  · exact ⟨none, 0, 0, [], hcs, Steps.nil _ _, Nat.le_refl _, by simp, .inl rfl⟩
  · have hlm : len ≤ m := by rw [hmm]; split <;> omega
    have key : ∀ i, i < len → ∃ s : Step, (w.cell? ⟨a.block, a.off + i * 3, none⟩ = some (.int .i64 s.1) ∧ w.cell? ⟨a.block, a.off + i * 3 + 1, none⟩ = some (.bool s.2.1) ∧ w.cell? ⟨a.block, a.off + i * 3 + 2, none⟩ = some (.bool s.2.2)) ∧
        (i = 0 → a = ⟨a.block, a.off, none⟩) ∧ (Lit.int .i64 s.1).wf = true := by
      intro i hi'
      obtain ⟨cs', hc, ht'⟩ := hi i (by omega)
      rw [hC] at hc
      obtain ⟨y0, y1, y2, n', _, hlen, g0, g1, g2⟩ := trod_struct3 he ht'
      rw [e0, o0, h1] at g0
      rw [e1, o1, h2] at g1
      rw [e2, o2, h2] at g2
      obtain ⟨_, hl3, hat⟩ := World.cells?_some hc
      match cs', hl3 with
      | [v0, v1, v2], _ =>
        obtain ⟨z0, q0, _, w0⟩ := DataW.trod_int hn g0
        obtain ⟨z1, q1, _⟩ := DataW.trod_bool hk g1
        obtain ⟨z2, q2, _⟩ := DataW.trod_bool hk g2
        simp at q0 q1 q2
        subst q0 q1 q2
        have a0 := hat 0 (by omega)
        have a1 := hat 1 (by omega)
        have a2 := hat 2 (by omega)
        rw [add_add] at a0 a1 a2
        have b0 := addr_at (v := .int .i64 z0) (by simpa using a0)
        have b1 := addr_at (v := .bool z1) (by simpa using a1)
        have b2 := addr_at (v := .bool z2) (by simpa using a2)
        exact ⟨(z0, z1, z2), ⟨by simpa using b0, by simpa [Nat.add_assoc] using b1, by simpa [Nat.add_assoc] using b2⟩, fun h0 => by subst h0; exact addr_bare (v := .int .i64 z0) (by simpa using a0), w0⟩
    obtain ⟨S, hS⟩ := choose_lt key
    refine ⟨some a, len, cap, (List.range len).map S, hcs, ⟨by simp, fun i s hs => ?_⟩, hl, ?_, .inr ⟨_, _, by rw [hx], by simp⟩⟩
    · have hil : i < len := by have := (List.getElem?_eq_some_iff.1 hs).1; simpa using this
      have hsi : s = S i := by
        rw [List.getElem?_map, List.getElem?_range hil] at hs
        simpa using hs.symm
      subst hsi
      obtain ⟨⟨c0, c1, c2⟩, _, _⟩ := hS i hil
      have ea := (hS 0 (by omega)).2.1 rfl
      exact ⟨a.block, a.off, by rw [← ea], c0, c1, c2⟩
    · intro s hs
      obtain ⟨i, hi', rfl⟩ := List.mem_map.1 hs
      exact (hS i (by simpa using hi')).2.2
end
end Go.Proofs.Ytaifhckmcagkcaa.B
