/-
  spec.DrawPointer draws two scripts of pointers of at most 21 steps each in new memory; nothing that was there is changed. Conditions: the bytes are a slice of bytes.
-/
import Derived.Test.YtlenkaobojneeaaDraw
import Derived.Test.YtlenkaobojneeaaCat
import Derived.Test.YtlenkaobojneeaaAtomP
namespace Go.Proofs.Ytlenkaobojneeaa.P
open Go.RowKit
theorem infoS : (Try.prog.info? 32).map (fun i => (i.zero, i.size, i.bytes)) = some (some (.agg #[.int .i64 0, .int .i64 0, .int .i64 0]), 3, 24) := by kernel_rfl

/-- The two scripts drawn so far: the slice values V0, V1 in block G, their steps in rows of their own; the reader in block R. -/
structure Two (R G : Nat) (A : Option Addr) (n c p : Nat) (V0 V1 : Value) (L0 L1 : List Step) (w wr : World) : Prop where
  rd : Rdr wr R A n c p
  blk : wr.heap[G]? = some (.cells #[V0, V1] 22 (0, 0))
  own0 : wr.ownsRow (R + 1) 32 3 V0 L0.length (cellsOfL .i64 L0)
  own1 : wr.ownsRow (R + 1) 32 3 V1 L1.length (cellsOfL .i64 L1)
  ne0 : V0.ownBlock ≠ some G
  ne1 : V1.ownBlock ≠ some G
  ne01 : ∀ g, V0.ownBlock = some g → V1.ownBlock ≠ some g
  below : Below w.heap.size w wr
  isR : R = w.heap.size
  isG : R < G
section
variable {R G : Nat} {A : Option Addr} {n c p p' : Nat} {V0 V1 : Value} {L0 L1 : List Step} {w wr w1 : World}
theorem Two.ltG (h : Two R G A n c p V0 V1 L0 L1 w wr) : G < wr.heap.size := (Array.getElem?_eq_some_iff.1 h.blk).1
theorem below_grown {B R : Nat} {w wr w1 : World} (h : Below B w wr) (hg : wr.grownBy w1 (some R)) (hB : B ≤ wr.heap.size) (hR : B ≤ R) : Below B w w1 :=
  h.grown hg hB (fun k hk => by injection hk with hk; omega)
/-- A call that turns nothing but the reader. -/
theorem Two.read (h : Two R G A n c p V0 V1 L0 L1 w wr) (hg : wr.grownBy w1 (some R)) (hr : Rdr w1 R A n c p') : Two R G A n c p' V0 V1 L0 L1 w w1 :=
  ⟨hr, (hg.block G h.ltG (by intro e; injection e with e; have := h.isG; omega)).trans h.blk,
    h.own0.kept hg (.inr (fun e => by have := (h.own0.lt R e).1; omega)), h.own1.kept hg (.inr (fun e => by have := (h.own1.lt R e).1; omega)),
    h.ne0, h.ne1, h.ne01, below_grown h.below hg (by have := h.rd.lt; have := h.isR; omega) (by have := h.isR; omega), h.isR, h.isG⟩
theorem Two.alloc (h : Two R G A n c p V0 V1 L0 L1 w wr) (o : Obj) : Two R G A n c p V0 V1 L0 L1 w (wr.alloc o) :=
  h.read (World.grownBy_alloc wr o _) (h.rd.alloc o)
theorem Two.drew (h : Two R G A n c p V0 V1 L0 L1 w wr) : Two R G A n c p V0 V1 L0 L1 w wr.drew :=
  h.read ⟨rfl, rfl, rfl, Nat.le_refl _, fun _ _ _ => rfl⟩ (h.rd.keep (Below.refl _ _).drew)
theorem Two.cell0 (h : Two R G A n c p V0 V1 L0 L1 w wr) : wr.cell? ⟨G, 0, none⟩ = some V0 := by rw [cell_of_row wr G 0 _ _ _ h.blk]; rfl
theorem Two.cell1 (h : Two R G A n c p V0 V1 L0 L1 w wr) : wr.cell? ⟨G, 1, none⟩ = some V1 := by rw [cell_of_row wr G 1 _ _ _ h.blk]; rfl
theorem Two.free (h : Two R G A n c p V0 V1 L0 L1 w wr) (i : Nat) : wr.frozen? ⟨G, i, none⟩ = false := by simp [World.frozen?, h.blk]
theorem Two.far0 (h : Two R G A n c p V0 V1 L0 L1 w wr) (hg : wr.grownBy w1 V0.ownBlock) : w1.cell? ⟨G, 0, none⟩ = some V0 ∧ w1.frozen? ⟨G, 0, none⟩ = false := by
  have hb := (hg.block G h.ltG (Ne.symm h.ne0)).trans h.blk
  exact ⟨by rw [cell_of_row w1 G 0 _ _ _ hb]; rfl, by simp [World.frozen?, hb]⟩
theorem Two.far1 (h : Two R G A n c p V0 V1 L0 L1 w wr) (hg : wr.grownBy w1 V1.ownBlock) : w1.cell? ⟨G, 1, none⟩ = some V1 ∧ w1.frozen? ⟨G, 1, none⟩ = false := by
  have hb := (hg.block G h.ltG (Ne.symm h.ne1)).trans h.blk
  exact ⟨by rw [cell_of_row w1 G 1 _ _ _ hb]; rfl, by simp [World.frozen?, hb]⟩
theorem Rdr.of_bytes (hB : Bytes w A n) (hb : Below w.heap.size w w1) (hR : w.heap.size ≤ R) (hblk : w1.heap[R]? = some (.cells #[.slice A n c, .int .i64 (p : Int)] 57 (0, 0))) : Rdr w1 R A n c p :=
  ⟨hblk, fun i hi => by
    obtain ⟨b, off, z, e, hc, h0, h1⟩ := hB.2 i hi
    exact ⟨b, off, z, e, by have := World.block_lt_of_cell? w _ hc; simp at this; omega, cell_kept hb hc, h0, h1⟩, hB.1⟩
theorem Two.put0 (hB : Bytes w A n) (h : Two R G A n c p V0 V1 L0 L1 w wr) {s : Step} {g cap k : Nat} (hk : k = L0.length + 1) (hown : w1.ownsRow (R + 1) 32 3 (.slice (some ⟨g, 0, none⟩) k cap) k (cellsOfL .i64 L0 ++ cellsOf1 .i64 s))
    (hg : wr.grownBy w1 V0.ownBlock) (hat : V0.ownBlock = some g ∨ g = wr.heap.size) : Two R G A n c p (.slice (some ⟨g, 0, none⟩) k cap) V1 (L0 ++ [s]) L1 w (w1.setCell ⟨G, 0, none⟩ (.slice (some ⟨g, 0, none⟩) k cap)) := by
  subst hk
  have hlt := h.ltG
  have hGR := h.isG
  have hRl := h.rd.lt
  have hne : V0.ownBlock ≠ some R := fun e => by have := (h.own0.lt R e).1; omega
  have hGg : g ≠ G := by
    rcases hat with e | e
    · intro e'; subst e'; exact h.ne0 e
    · omega
  have hb : Below w.heap.size w w1 := h.below.grown hg (by have := h.isR; omega) (fun j hj => by have := (h.own0.lt j hj).1; have := h.isR; omega)
  have hoth : w1.ownsRow (R + 1) 32 3 V1 L1.length (cellsOfL .i64 L1) := by
    refine h.own1.kept hg ?_
    cases hv : V1.ownBlock with
    | none => exact .inl rfl
    | some g0 => exact .inr (fun e => h.ne01 g0 e.symm hv)
  have hb2 : Below w.heap.size w (w1.setCell ⟨G, 0, none⟩ (.slice (some ⟨g, 0, none⟩) (L0.length + 1) cap)) := hb.setCell (p := ⟨G, 0, none⟩) (by have := h.isR; show w.heap.size ≤ G; omega) _
  refine ⟨Rdr.of_bytes hB hb2 (by have := h.isR; omega) ?_, ?_, ?_, ?_, ?_, ?_, ?_, hb2, h.isR, h.isG⟩
  · exact (Below.heap_setCell w1 ⟨G, 0, none⟩ _ R (by show R ≠ G; omega)).trans ((hg.block R hRl (Ne.symm hne)).trans h.rd.blk)
  · have := (hg.block G hlt (Ne.symm h.ne0)).trans h.blk
    simp [World.setCell, Array.getElem?_modify, this]
  · exact own_other (by rw [cellsOfL_append, List.length_append]; simpa [cellsOfL] using hown) (by simp [Value.ownBlock]; exact hGg) 0 _
  · exact own_other hoth h.ne1 0 _
  · simp [Value.ownBlock]; exact hGg
  · exact h.ne1
  · intro g' hg' hv'
    have hgg : g = g' := by simpa [Value.ownBlock] using hg'
    subst hgg
    rcases hat with e | e
    · exact h.ne01 g e hv'
    · have := (h.own1.lt g hv').2; omega
theorem Two.put1 (hB : Bytes w A n) (h : Two R G A n c p V0 V1 L0 L1 w wr) {s : Step} {g cap k : Nat} (hk : k = L1.length + 1) (hown : w1.ownsRow (R + 1) 32 3 (.slice (some ⟨g, 0, none⟩) k cap) k (cellsOfL .i64 L1 ++ cellsOf1 .i64 s))
    (hg : wr.grownBy w1 V1.ownBlock) (hat : V1.ownBlock = some g ∨ g = wr.heap.size) : Two R G A n c p V0 (.slice (some ⟨g, 0, none⟩) k cap) L0 (L1 ++ [s]) w (w1.setCell ⟨G, 1, none⟩ (.slice (some ⟨g, 0, none⟩) k cap)) := by
  subst hk
  have hlt := h.ltG
  have hGR := h.isG
  have hRl := h.rd.lt
  have hne : V1.ownBlock ≠ some R := fun e => by have := (h.own1.lt R e).1; omega
  have hGg : g ≠ G := by
    rcases hat with e | e
    · intro e'; subst e'; exact h.ne1 e
    · omega
  have hb : Below w.heap.size w w1 := h.below.grown hg (by have := h.isR; omega) (fun j hj => by have := (h.own1.lt j hj).1; have := h.isR; omega)
  have hoth : w1.ownsRow (R + 1) 32 3 V0 L0.length (cellsOfL .i64 L0) := by
    refine h.own0.kept hg ?_
    cases hv : V0.ownBlock with
    | none => exact .inl rfl
    | some g0 => exact .inr (fun e => h.ne01 g0 hv e.symm)
  have hb2 : Below w.heap.size w (w1.setCell ⟨G, 1, none⟩ (.slice (some ⟨g, 0, none⟩) (L1.length + 1) cap)) := hb.setCell (p := ⟨G, 1, none⟩) (by have := h.isR; show w.heap.size ≤ G; omega) _
  refine ⟨Rdr.of_bytes hB hb2 (by have := h.isR; omega) ?_, ?_, ?_, ?_, ?_, ?_, ?_, hb2, h.isR, h.isG⟩
  · exact (Below.heap_setCell w1 ⟨G, 1, none⟩ _ R (by show R ≠ G; omega)).trans ((hg.block R hRl (Ne.symm hne)).trans h.rd.blk)
  · have := (hg.block G hlt (Ne.symm h.ne1)).trans h.blk
    simp [World.setCell, Array.getElem?_modify, this]
  · exact own_other hoth h.ne0 1 _
  · exact own_other (by rw [cellsOfL_append, List.length_append]; simpa [cellsOfL] using hown) (by simp [Value.ownBlock]; exact hGg) 1 _
  · exact h.ne0
  · simp [Value.ownBlock]; exact hGg
  · intro g' hg' hv'
    have hgg : g = g' := by simpa [Value.ownBlock] using hv'
    subst hgg
    rcases hat with e | e
    · exact h.ne01 g hg' e
    · have := (h.own0.lt g hg').2; omega
end
end Go.Proofs.Ytlenkaobojneeaa.P
