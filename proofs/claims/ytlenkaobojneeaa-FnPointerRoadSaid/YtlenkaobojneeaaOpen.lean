/-
  An argument that is a slice of steps, read as data, lies in memory as such: three cells a step ('open_steps'), whatever the program. Conditions: the slice's element is a struct of an int and two numbers of one kind.
-/
import Derived.Test.YtlenkaobojneeaaBase
import Derived.ProofKit
import Derived.OpenShut
import Derived.ShutString
import Derived.ChangeOld
import Derived.SizedLaws
import Derived.Deep.Strs
namespace Go.Proofs.Ytlenkaobojneeaa
open Go.ChangeShapes Go.WideShapes Go.ChangeAt Go.RowKit Go.Deep

theorem addr_at {w : World} {a : Addr} {m : Nat} {v : Value} (h : w.cell? (a.add m) = some v) : w.cell? ⟨a.block, a.off + m, none⟩ = some v := by
  have hs := World.cell?_spot h
  obtain ⟨b, o, sp⟩ := a
  by_cases hm : m = 0
  · subst hm
    simp [Addr.add] at h hs
    subst hs
    simpa using h
  · simpa [Addr.add, hm] using h
theorem addr_bare {w : World} {a : Addr} {v : Value} (h : w.cell? (a.add 0) = some v) : a = ⟨a.block, a.off, none⟩ := by
  have hs := World.cell?_spot h
  obtain ⟨b, o, sp⟩ := a
  simp [Addr.add] at hs
  subst hs
  rfl

section
variable {H : Type} {enc : TypeId × Value → H} {P : Program} {w : World} {base : Nat} {spare : Nat → Bool} {held : Bool}
theorem open_steps {k : IntKind} {t e tn tk : TypeId} {f0 f1 f2 : Field} {fuel : Nat} {cs : List Value} {x : DataW H × List MemPlace} (ht : P.underlying t = some (.slice e)) (he : P.underlying e = some (.struct #[f0, f1, f2]))
    (hC : P.cellsOf e = 3) (hf : f0.type = tn ∧ f1.type = tk ∧ f2.type = tk ∧ f0.offset = 0 ∧ f1.offset = 1 ∧ f2.offset = 2) (hn : P.underlying tn = some (.int .i64)) (hk : P.underlying tk = some (.int k)) (h1 : P.cellsOf tn = 1) (h2 : P.cellsOf tk = 1)
    (h : DataW.trod enc P w base spare held fuel t cs = some x) :
    ∃ (A : Option Addr) (len cap : Nat) (L : List Step), cs = [.slice A len cap] ∧ Steps k w A len L ∧ len ≤ cap ∧ (∀ s ∈ L, (Lit.int .i64 s.1).wf = true ∧ (Lit.int k s.2.1).wf = true ∧ (Lit.int k s.2.2).wf = true) ∧
      (len = 0 ∨ ∃ es sp, x.1 = .slice es sp ∧ len ≤ es.length + sp.length) := by
  obtain ⟨e0, e1, e2, o0, o1, o2⟩ := hf
  rcases open_slice ht h with ⟨hcs, _⟩ | ⟨a, len, cap, m, n, D, Pl, hcs, _, hl, hm, hmm, hx, hi⟩
  · exact ⟨none, 0, 0, [], hcs, Steps.nil _ _ _, Nat.le_refl _, by simp, .inl rfl⟩
  · have hlm : len ≤ m := by rw [hmm]; split <;> omega
    have key : ∀ i, i < len → ∃ s : Step, (w.cell? ⟨a.block, a.off + i * 3, none⟩ = some (.int .i64 s.1) ∧ w.cell? ⟨a.block, a.off + i * 3 + 1, none⟩ = some (.int k s.2.1) ∧ w.cell? ⟨a.block, a.off + i * 3 + 2, none⟩ = some (.int k s.2.2)) ∧
        (i = 0 → a = ⟨a.block, a.off, none⟩) ∧ (Lit.int .i64 s.1).wf = true ∧ (Lit.int k s.2.1).wf = true ∧ (Lit.int k s.2.2).wf = true := by
      intro i hi'
      obtain ⟨cs', hc, ht'⟩ := hi i (by omega)
      rw [hC] at hc
      obtain ⟨y0, y1, y2, n', _, hlen, g0, g1, g2⟩ := trod_struct3 he ht'
      rw [e0, o0, h1] at g0
      rw [e1, o1, h2] at g1
      rw [e2, o2, h2] at g2
      obtain ⟨_, hl3, hat⟩ := World.cells?_some hc
      match cs', hl3 with
      | [v0, v1, v2], _ =>
        obtain ⟨z0, q0, _, w0⟩ := DataW.trod_int hn g0
        obtain ⟨z1, q1, _, w1⟩ := DataW.trod_int hk g1
        obtain ⟨z2, q2, _, w2⟩ := DataW.trod_int hk g2
        simp at q0 q1 q2
        subst q0 q1 q2
        have a0 := hat 0 (by omega)
        have a1 := hat 1 (by omega)
        have a2 := hat 2 (by omega)
        rw [add_add] at a0 a1 a2
        have b0 := addr_at (v := .int .i64 z0) (by simpa using a0)
        have b1 := addr_at (v := .int k z1) (by simpa using a1)
        have b2 := addr_at (v := .int k z2) (by simpa using a2)
        exact ⟨(z0, z1, z2), ⟨by simpa using b0, by simpa [Nat.add_assoc] using b1, by simpa [Nat.add_assoc] using b2⟩, fun h0 => by subst h0; exact addr_bare (v := .int .i64 z0) (by simpa using a0), w0, w1, w2⟩
    obtain ⟨S, hS⟩ := choose_lt key
    refine ⟨some a, len, cap, (List.range len).map S, hcs, ⟨by simp, fun i s hs => ?_⟩, hl, ?_, .inr ⟨_, _, by rw [hx], by simp⟩⟩
    · have hil : i < len := by have := (List.getElem?_eq_some_iff.1 hs).1; simpa using this
      have hsi : s = S i := by
        rw [List.getElem?_map, List.getElem?_range hil] at hs
        simpa using hs.symm
      subst hsi
      obtain ⟨⟨c0, c1, c2⟩, _, _⟩ := hS i hil
      have ea := (hS 0 (by omega)).2.1 rfl
      exact ⟨a.block, a.off, by rw [← ea], c0, c1, c2⟩
    · intro s hs
      obtain ⟨i, hi', rfl⟩ := List.mem_map.1 hs
      exact (hS i (by simpa using hi')).2.2
end
end Go.Proofs.Ytlenkaobojneeaa
