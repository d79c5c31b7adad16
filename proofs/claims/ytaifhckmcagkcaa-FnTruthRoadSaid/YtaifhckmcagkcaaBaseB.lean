/-
  Words for scripts of truths: what a step does to a plain truth ('after'), the answers and the truth at last ('ans', 'fin'); slices of such steps and of truths in memory; what a run has made so far. No conditions.
-/
import Derived.Test.YtaifhckmcagkcaaBase
namespace Go.Proofs.Ytaifhckmcagkcaa.B
open Go.RowKit

abbrev Step := Int × Bool × Bool
def after (x : Bool) (s : Step) : Bool × Bool :=
  if s.1 = 1 then (false, s.2.1)
  else if s.1 = 5 then (x, s.2.1)
  else if s.1 = 6 then (if x = s.2.1 then (true, s.2.2) else (false, x))
  else (x, x)
def ans : Bool → List Step → List Bool
  | _, [] => []
  | x, s :: l => (after x s).1 :: ans (after x s).2 l
def fin : Bool → List Step → Bool
  | x, [] => x
  | x, s :: l => fin (after x s).2 l
theorem fin_append (x : Bool) (l m : List Step) : fin x (l ++ m) = fin (fin x l) m := by
  induction l generalizing x with
  | nil => rfl
  | cons s l ih => simp only [List.cons_append, fin]; exact ih _
theorem ans_append (x : Bool) (l m : List Step) : ans x (l ++ m) = ans x l ++ ans (fin x l) m := by
  induction l generalizing x with
  | nil => rfl
  | cons s l ih => simp only [List.cons_append, ans, fin]; rw [ih]
theorem ans_length (x : Bool) (l : List Step) : (ans x l).length = l.length := by
  induction l generalizing x with
  | nil => rfl
  | cons s l ih => simp only [ans, List.length_cons]; rw [ih]
theorem fin_snoc (x : Bool) (l : List Step) (i : Nat) (s : Step) (h : l[i]? = some s) : fin x (l.take (i + 1)) = (after (fin x (l.take i)) s).2 := by
  rw [take_snoc l i s h, fin_append]; rfl
theorem ans_snoc (x : Bool) (l : List Step) (i : Nat) (s : Step) (h : l[i]? = some s) : ans x (l.take (i + 1)) = ans x (l.take i) ++ [(after (fin x (l.take i)) s).1] := by
  rw [take_snoc l i s h, ans_append]; rfl
theorem after_store (x y z : Bool) : after x (1, y, z) = (false, y) := by simp [after]
theorem after_swap (x y z : Bool) : after x (5, y, z) = (x, y) := by simp [after]
theorem after_hit (x z : Bool) : after x (6, x, z) = (true, z) := by simp [after]
theorem after_miss (x y z : Bool) (h : ¬ x = y) : after x (6, y, z) = (false, x) := by simp [after, h]
theorem after_else (x : Bool) (d : Int) (y z : Bool) (h1 : ¬ d = 1) (h5 : ¬ d = 5) (h6 : ¬ d = 6) : after x (d, y, z) = (x, x) := by simp [after, h1, h5, h6]
/-- The number by which a truth is kept. -/
def b32 (x : Bool) : Int := if x then 1 else 0

def Steps (w : World) (A : Option Addr) (n : Nat) (L : List Step) : Prop :=
  L.length = n ∧ ∀ i s, L[i]? = some s → ∃ b off, A = some ⟨b, off, none⟩ ∧ w.cell? ⟨b, off + i * 3, none⟩ = some (.int .i64 s.1) ∧
    w.cell? ⟨b, off + i * 3 + 1, none⟩ = some (.bool s.2.1) ∧ w.cell? ⟨b, off + i * 3 + 2, none⟩ = some (.bool s.2.2)
def Bools (w : World) (A : Option Addr) (n : Nat) (zs : List Bool) : Prop :=
  zs.length = n ∧ ∀ i z, zs[i]? = some z → ∃ b off, A = some ⟨b, off, none⟩ ∧ w.cell? ⟨b, off + i, none⟩ = some (.bool z)
theorem Steps.keep {w w' : World} {A : Option Addr} {n : Nat} {L : List Step} (h : Steps w A n L) (hb : Below w.heap.size w w') : Steps w' A n L :=
  ⟨h.1, fun i s hs => by
    obtain ⟨b, off, e, h0, h1, h2⟩ := h.2 i s hs
    exact ⟨b, off, e, cell_kept hb h0, cell_kept hb h1, cell_kept hb h2⟩⟩
theorem Bools.keep {w w' : World} {A : Option Addr} {n : Nat} {zs : List Bool} (h : Bools w A n zs) (hb : Below w.heap.size w w') : Bools w' A n zs :=
  ⟨h.1, fun i z hz => by
    obtain ⟨b, off, e, h0⟩ := h.2 i z hz
    exact ⟨b, off, e, cell_kept hb h0⟩⟩
theorem Bools.of_own {w : World} {B n c : Nat} {e : TypeId} {A : Option Addr} {zs : List Bool} (h : w.ownsRow B e 1 (.slice A n c) n (zs.map Value.bool)) : Bools w A n zs := by
  have hl : zs.length = n := by simpa using h.1
  refine ⟨hl, fun i z hz => ?_⟩
  have hi : i < n := by have := (List.getElem?_eq_some_iff.1 hz).1; omega
  rcases h.2 with ⟨_, h0⟩ | ⟨g, cap, cur, hv, _⟩
  · omega
  · injection hv with ha _ _
    subst ha
    refine ⟨g, 0, rfl, ?_⟩
    have hz' : (zs.map Value.bool)[i]? = some (.bool z) := by rw [List.getElem?_map, hz]; rfl
    have := h.cells (g := g) rfl i _ hz'
    have hadd : (⟨g, 0, none⟩ : Addr).add i = ⟨g, 0 + i, none⟩ := by unfold Addr.add; split <;> simp_all
    rw [← hadd]; exact this
structure Mid (B X : Nat) (e T : TypeId) (x : Bool) (v : Value) (n : Nat) (zs : List Bool) (w wr : World) : Prop where
  own : wr.ownsRow B e 1 v n (zs.map Value.bool)
  blk : wr.heap[X]? = some (.cells #[.int .u32 (b32 x)] T (0, 0))
  apart : v.ownBlock ≠ some X
  below : Below B w wr
  lo : B ≤ X
section
variable {B X : Nat} {e T : TypeId} {x : Bool} {v : Value} {n : Nat} {zs : List Bool} {w wr : World}
theorem Mid.lt (h : Mid B X e T x v n zs w wr) : X < wr.heap.size := (Array.getElem?_eq_some_iff.1 h.blk).1
theorem Mid.cell (h : Mid B X e T x v n zs w wr) : wr.cell? ⟨X, 0, none⟩ = some (.int .u32 (b32 x)) := by
  rw [cell_of_row wr X 0 _ _ _ h.blk]; rfl
theorem Mid.free (h : Mid B X e T x v n zs w wr) : wr.frozen? ⟨X, 0, none⟩ = false := by
  simp [World.frozen?, h.blk]
theorem Mid.alloc (h : Mid B X e T x v n zs w wr) (o : Obj) : Mid B X e T x v n zs w (wr.alloc o) :=
  ⟨h.own.alloc o, (Below.heap_alloc wr o X h.lt).trans h.blk, h.apart, h.below.alloc (Nat.le_trans h.lo (Nat.le_of_lt h.lt)) o, h.lo⟩
theorem Mid.drew (h : Mid B X e T x v n zs w wr) : Mid B X e T x v n zs w wr.drew := ⟨h.own, h.blk, h.apart, h.below.drew, h.lo⟩
theorem Mid.drewN (h : Mid B X e T x v n zs w wr) (m : Nat) : Mid B X e T x v n zs w (wr.drewN m) := ⟨h.own, h.blk, h.apart, below_drewN h.below m, h.lo⟩
theorem Mid.setX (h : Mid B X e T x v n zs w wr) (y : Bool) : Mid B X e T y v n zs w (wr.setCell ⟨X, 0, none⟩ (.int .u32 (b32 y))) :=
  ⟨own_other h.own h.apart 0 _, by simp [World.setCell, Array.getElem?_modify, h.blk], h.apart, h.below.setCell (p := ⟨X, 0, none⟩) h.lo _, h.lo⟩
theorem Mid.append (h : Mid B X e T x v n zs w wr) {r : Bool} {v' : Value} {w1 : World} (hown : w1.ownsRow B e 1 v' (n + 1) (zs.map Value.bool ++ [.bool r]))
    (hg : wr.grownBy w1 v.ownBlock) (hat : v'.ownBlock = v.ownBlock ∨ v'.ownBlock = some wr.heap.size) : Mid B X e T x v' (n + 1) (zs ++ [r]) w w1 := by
  have hlt := h.lt
  refine ⟨by simpa using hown, (hg.block X hlt (Ne.symm h.apart)).trans h.blk, ?_, h.below.grown hg (Nat.le_trans h.lo (Nat.le_of_lt hlt)) (fun j hj => (h.own.lt j hj).1), h.lo⟩
  rcases hat with e' | e'
  · rw [e']; exact h.apart
  · rw [e']; intro e2; injection e2 with e2; omega
theorem Mid.out (h : Mid B X e T x v n zs w wr) : ∃ A c, v = .slice A n c ∧ n ≤ c ∧ Bools wr A n zs := by
  rcases h.own.2 with ⟨hv, hn⟩ | ⟨g, cap, cur, hv, _, _, hnc, _⟩
  · subst hn; subst hv; exact ⟨none, 0, rfl, Nat.le_refl _, Bools.of_own h.own⟩
  · subst hv; exact ⟨_, cap, rfl, hnc, Bools.of_own h.own⟩
end
theorem Gath.bools {B : Nat} {e : TypeId} {v : Value} {n : Nat} {zs : List Bool} {w wr : World} (h : Gath B e 1 v n (zs.map Value.bool) w wr) : ∃ A c, v = .slice A n c ∧ n ≤ c ∧ Bools wr A n zs := by
  obtain ⟨A, c, hv, hc⟩ := h.slice
  have := h.own
  rw [hv] at this
  exact ⟨A, c, hv, hc, Bools.of_own this⟩
def cellsOf1 (s : Step) : List Value := [.int .i64 s.1, .bool s.2.1, .bool s.2.2]
def cellsOfL (L : List Step) : List Value := L.flatMap cellsOf1
theorem cellsOfL_length (L : List Step) : (cellsOfL L).length = L.length * 3 := by
  induction L with
  | nil => rfl
  | cons s l ih => simp only [cellsOfL, List.flatMap_cons, List.length_append, List.length_cons] at ih ⊢; rw [ih]; simp [cellsOf1]; omega
theorem cellsOfL_append (L M : List Step) : cellsOfL (L ++ M) = cellsOfL L ++ cellsOfL M := by simp [cellsOfL]
theorem cellsOfL_at (L : List Step) (i : Nat) (s : Step) (h : L[i]? = some s) (j : Nat) (hj : j < 3) : (cellsOfL L)[i * 3 + j]? = (cellsOf1 s)[j]? := by
  induction L generalizing i with
  | nil => simp at h
  | cons a l ih =>
    cases i with
    | zero =>
      simp at h; subst h
      simp only [cellsOfL, List.flatMap_cons, Nat.zero_mul, Nat.zero_add]
      rw [List.getElem?_append_left (by simp [cellsOf1]; omega)]
    | succ i =>
      have h' : l[i]? = some s := by simpa using h
      simp only [cellsOfL, List.flatMap_cons]
      rw [List.getElem?_append_right (by simp [cellsOf1]; omega)]
      have e : (i + 1) * 3 + j - (cellsOf1 a).length = i * 3 + j := by simp [cellsOf1]; omega
      rw [e]; exact ih i h'
theorem Steps.of_cells {w : World} {n b off : Nat} {L : List Step} (hl : L.length = n) (h : ∀ j u, (cellsOfL L)[j]? = some u → w.cell? ⟨b, off + j, none⟩ = some u) : Steps w (some ⟨b, off, none⟩) n L := by
  refine ⟨hl, fun i s hs => ⟨b, off, rfl, ?_, ?_, ?_⟩⟩
  · have := h (i * 3 + 0) _ (by rw [cellsOfL_at L i s hs 0 (by omega)]; rfl)
    simpa using this
  · have := h (i * 3 + 1) _ (by rw [cellsOfL_at L i s hs 1 (by omega)]; rfl)
    simpa [Nat.add_assoc] using this
  · have := h (i * 3 + 2) _ (by rw [cellsOfL_at L i s hs 2 (by omega)]; rfl)
    simpa [Nat.add_assoc] using this
theorem Steps.of_own {w : World} {B n c : Nat} {e : TypeId} {A : Option Addr} {L : List Step} (h : w.ownsRow B e 3 (.slice A n c) n (cellsOfL L)) : Steps w A n L := by
  have hl : L.length = n := by have := h.1; rw [cellsOfL_length] at this; omega
  rcases h.2 with ⟨_, h0⟩ | ⟨g, cap, cur, hv, _⟩
  · refine ⟨hl, fun i s hs => ?_⟩
    have := (List.getElem?_eq_some_iff.1 hs).1
    omega
  · injection hv with ha _ _
    subst ha
    refine Steps.of_cells hl fun j u hu => ?_
    have hadd : (⟨g, 0, none⟩ : Addr).add j = ⟨g, 0 + j, none⟩ := by unfold Addr.add; split <;> simp_all
    rw [← hadd]; exact h.cells (g := g) rfl j u hu
theorem Gath.steps {B : Nat} {e : TypeId} {v : Value} {n : Nat} {L : List Step} {w wr : World} (h : Gath B e 3 v n (cellsOfL L) w wr) : ∃ A c, v = .slice A n c ∧ n ≤ c ∧ Steps wr A n L := by
  obtain ⟨A, c, hv, hc⟩ := h.slice
  have := h.own
  rw [hv] at this
  exact ⟨A, c, hv, hc, Steps.of_own this⟩
theorem Steps.nil (w : World) (A : Option Addr) : Steps w A 0 [] := ⟨rfl, fun i s h => by simp at h⟩
theorem one_cell3 (s : Step) : ∀ u ∈ cellsOf1 s, u.oneCell' = true := by
  intro u hu
  simp [cellsOf1] at hu
  rcases hu with rfl | rfl | rfl <;> rfl
theorem Steps.lit {w : World} {g : Nat} {T : TypeId} {arr : Array Value} {fr : Nat × Nat} (L : List Step) (h : w.heap[g]? = some (.cells arr T fr)) (ha : arr.toList = cellsOfL L) : Steps w (some ⟨g, 0, none⟩) L.length L := by
  refine Steps.of_cells rfl fun j u hu => ?_
  rw [Nat.zero_add, cell_of_row w g j _ _ _ h, ← Array.getElem?_toList, ha]; exact hu
theorem Bools.lit {w : World} {g : Nat} {T : TypeId} {arr : Array Value} {fr : Nat × Nat} (zs : List Bool) (h : w.heap[g]? = some (.cells arr T fr)) (ha : arr.toList = zs.map Value.bool) : Bools w (some ⟨g, 0, none⟩) zs.length zs := by
  refine ⟨rfl, fun j z hz => ⟨g, 0, rfl, ?_⟩⟩
  rw [Nat.zero_add, cell_of_row w g j _ _ _ h, ← Array.getElem?_toList, ha, List.getElem?_map, hz]; rfl
theorem rel_next {B X : Nat} {e T : TypeId} {v : Value} {w w1 : World} {L : List Step} {i : Nat} {s : Step} {x r x' : Bool} {zs : List Bool} (hs : L[i]? = some s) (hx : fin false (L.take i) = x) (hz : ans false (L.take i) = zs)
    (ha : after x s = (r, x')) (h : Mid B X e T x' v (i + 1) (zs ++ [r]) w w1) : Mid B X e T (fin false (L.take (i + 1))) v (i + 1) (ans false (L.take (i + 1))) w w1 := by
  rw [fin_snoc false L i s hs, ans_snoc false L i s hs, hx, hz, ha]; exact h
theorem mid_start {e T : TypeId} (w : World) (L : List Step) : Mid w.heap.size (w.heap.size + 1) e T (fin false (L.take 0)) (.slice (some ⟨w.heap.size, 0, none⟩) 0 0) 0 (ans false (L.take 0)) w ((w.alloc (.cells #[] e)).alloc (.cells #[.int .u32 0] T)) := by
  refine ⟨(World.ownsRow_made w #[] 0 (Nat.le_refl _) (by unfold maxLen; omega) rfl).alloc _, ?_, ?_, ((Below.refl _ _).alloc (Nat.le_refl _) _).alloc (by simp) _, by omega⟩
  · have := heap_alloc_new (w.alloc (.cells #[] e)) (.cells #[.int .u32 0] T)
    simpa [fin, b32] using this
  · simp [Value.ownBlock]
theorem cmp_two (L : List Step) : fin false (L ++ [(6, true, false), (6, false, true)]) = true ∧ ans false (L ++ [(6, true, false), (6, false, true)]) = ans false L ++ [fin false L, true] := by
  rw [fin_append, ans_append]
  generalize fin false L = x
  cases x <;> simp [fin, ans, after]
def RunTo (n : Nat) (x : Bool) (zs : List Bool) (w : World) (e : Ending) (w' : World) : Prop :=
  ∃ A c, e = .returned (.tuple #[.slice A n c, .bool x]) ∧ n ≤ c ∧ Bools w' A n zs ∧ Below w.heap.size w w'
end Go.Proofs.Ytaifhckmcagkcaa.B
