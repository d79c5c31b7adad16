/-
  Words and laws that hold whatever the program: what a step of a script does to a plain number ('after'), the answers of a script and the number at last ('ans', 'fin'), and what a call of sync/atomic's Swap, And and Or does in the run of one goroutine. No conditions.
-/
import Derived.WalkKit
import Derived.WalkSpells
import Derived.Lib.Hide
import Derived.Maps.AppendAt
import Derived.BigQuiet
import Derived.Deep.QuietTactic
import Derived.StillTailTactics
namespace Go.Proofs.Ytlenkaobojneeaa
open Go.RowKit

/-! ### the plain law -/
def addK (k : IntKind) (x y : Int) : Int := k.wrap (x + y)
def andK (k : IntKind) (x y : Int) : Int := bits .and k x y
def orK (k : IntKind) (x y : Int) : Int := bits .or k x y

abbrev Step := Int × Int × Int

def after (k : IntKind) (x : Int) (s : Step) : Int × Int :=
  if s.1 = 1 then (0, s.2.1)
  else if s.1 = 2 then (addK k x s.2.1, addK k x s.2.1)
  else if s.1 = 3 then (x, andK k x s.2.1)
  else if s.1 = 4 then (x, orK k x s.2.1)
  else if s.1 = 5 then (x, s.2.1)
  else if s.1 = 6 then (if x = s.2.1 then (1, s.2.2) else (0, x))
  else (x, x)

def ans (k : IntKind) : Int → List Step → List Int
  | _, [] => []
  | x, s :: l => (after k x s).1 :: ans k (after k x s).2 l
def fin (k : IntKind) : Int → List Step → Int
  | x, [] => x
  | x, s :: l => fin k (after k x s).2 l

theorem fin_append (k : IntKind) (x : Int) (l m : List Step) : fin k x (l ++ m) = fin k (fin k x l) m := by
  induction l generalizing x with
  | nil => rfl
  | cons s l ih => simp only [List.cons_append, fin]; exact ih _
theorem ans_append (k : IntKind) (x : Int) (l m : List Step) : ans k x (l ++ m) = ans k x l ++ ans k (fin k x l) m := by
  induction l generalizing x with
  | nil => rfl
  | cons s l ih => simp only [List.cons_append, ans, fin]; rw [ih]
theorem ans_length (k : IntKind) (x : Int) (l : List Step) : (ans k x l).length = l.length := by
  induction l generalizing x with
  | nil => rfl
  | cons s l ih => simp only [ans, List.length_cons]; rw [ih]
theorem take_snoc {α : Type} (l : List α) (i : Nat) (s : α) (h : l[i]? = some s) : l.take (i + 1) = l.take i ++ [s] := by
  rw [List.take_add_one, h]; rfl
theorem fin_snoc (k : IntKind) (x : Int) (l : List Step) (i : Nat) (s : Step) (h : l[i]? = some s) : fin k x (l.take (i + 1)) = (after k (fin k x (l.take i)) s).2 := by
  rw [take_snoc l i s h, fin_append]; rfl
theorem ans_snoc (k : IntKind) (x : Int) (l : List Step) (i : Nat) (s : Step) (h : l[i]? = some s) : ans k x (l.take (i + 1)) = ans k x (l.take i) ++ [(after k (fin k x (l.take i)) s).1] := by
  rw [take_snoc l i s h, ans_append]; rfl

/-! ### memory: a slice of steps, a slice of numbers, and the state of a run -/
/-- The slice value '.slice A n c' holds the steps L: each lies as three cells. -/
def Steps (k : IntKind) (w : World) (A : Option Addr) (n : Nat) (L : List Step) : Prop :=
  L.length = n ∧ ∀ i s, L[i]? = some s → ∃ b off, A = some ⟨b, off, none⟩ ∧ w.cell? ⟨b, off + i * 3, none⟩ = some (.int .i64 s.1) ∧
    w.cell? ⟨b, off + i * 3 + 1, none⟩ = some (.int k s.2.1) ∧ w.cell? ⟨b, off + i * 3 + 2, none⟩ = some (.int k s.2.2)
/-- The slice value '.slice A n c' holds the numbers zs. -/
def Ints (k : IntKind) (w : World) (A : Option Addr) (n : Nat) (zs : List Int) : Prop :=
  zs.length = n ∧ ∀ i z, zs[i]? = some z → ∃ b off, A = some ⟨b, off, none⟩ ∧ w.cell? ⟨b, off + i, none⟩ = some (.int k z)

theorem cell_kept {w w' : World} (hb : Below w.heap.size w w') {a : Addr} {v : Value} (h : w.cell? a = some v) : w'.cell? a = some v :=
  (hb.cell (World.block_lt_of_cell? w a h)).trans h
theorem Steps.keep {k : IntKind} {w w' : World} {A : Option Addr} {n : Nat} {L : List Step} (h : Steps k w A n L) (hb : Below w.heap.size w w') : Steps k w' A n L :=
  ⟨h.1, fun i s hs => by
    obtain ⟨b, off, e, h0, h1, h2⟩ := h.2 i s hs
    exact ⟨b, off, e, cell_kept hb h0, cell_kept hb h1, cell_kept hb h2⟩⟩
theorem Ints.keep {k : IntKind} {w w' : World} {A : Option Addr} {n : Nat} {zs : List Int} (h : Ints k w A n zs) (hb : Below w.heap.size w w') : Ints k w' A n zs :=
  ⟨h.1, fun i z hz => by
    obtain ⟨b, off, e, h0⟩ := h.2 i z hz
    exact ⟨b, off, e, cell_kept hb h0⟩⟩
theorem below_drewN {B : Nat} {a w : World} (h : Below B a w) (n : Nat) : Below B a (w.drewN n) := ⟨h.os, h.tape, h.output, h.size, h.block⟩

theorem Ints.of_own {k : IntKind} {w : World} {B n c : Nat} {e : TypeId} {A : Option Addr} {zs : List Int} (h : w.ownsRow B e 1 (.slice A n c) n (zs.map (Value.int k))) : Ints k w A n zs := by
  have hl : zs.length = n := by simpa using h.1
  refine ⟨hl, fun i z hz => ?_⟩
  have hi : i < n := by have := (List.getElem?_eq_some_iff.1 hz).1; omega
  rcases h.2 with ⟨_, h0⟩ | ⟨g, cap, cur, hv, _⟩
  · omega
  · injection hv with ha _ _
    subst ha
    refine ⟨g, 0, rfl, ?_⟩
    have hz' : (zs.map (Value.int k))[i]? = some (.int k z) := by rw [List.getElem?_map, hz]; rfl
    have := h.cells (g := g) rfl i _ hz'
    have hadd : (⟨g, 0, none⟩ : Addr).add i = ⟨g, 0 + i, none⟩ := by unfold Addr.add; split <;> simp_all
    rw [← hadd]; exact this

/-- What a run of a script has made so far: its answers zs in a row of its own, its number x in the block X. -/
structure Mid (B X : Nat) (e T : TypeId) (k : IntKind) (x : Int) (v : Value) (n : Nat) (zs : List Int) (w wr : World) : Prop where
  own : wr.ownsRow B e 1 v n (zs.map (Value.int k))
  blk : wr.heap[X]? = some (.cells #[.int k x] T (0, 0))
  apart : v.ownBlock ≠ some X
  below : Below B w wr
  lo : B ≤ X
section
variable {B X : Nat} {e T : TypeId} {k : IntKind} {x : Int} {v : Value} {n : Nat} {zs : List Int} {w wr : World}
theorem Mid.lt (h : Mid B X e T k x v n zs w wr) : X < wr.heap.size := (Array.getElem?_eq_some_iff.1 h.blk).1
theorem Mid.cell (h : Mid B X e T k x v n zs w wr) : wr.cell? ⟨X, 0, none⟩ = some (.int k x) := by
  rw [cell_of_row wr X 0 _ _ _ h.blk]; rfl
theorem Mid.free (h : Mid B X e T k x v n zs w wr) : wr.frozen? ⟨X, 0, none⟩ = false := by
  simp [World.frozen?, h.blk]
theorem Mid.alloc (h : Mid B X e T k x v n zs w wr) (o : Obj) : Mid B X e T k x v n zs w (wr.alloc o) :=
  ⟨h.own.alloc o, (Below.heap_alloc wr o X h.lt).trans h.blk, h.apart, h.below.alloc (Nat.le_trans h.lo (Nat.le_of_lt h.lt)) o, h.lo⟩
theorem Mid.drew (h : Mid B X e T k x v n zs w wr) : Mid B X e T k x v n zs w wr.drew := ⟨h.own, h.blk, h.apart, h.below.drew, h.lo⟩
theorem own_other {B : Nat} {e : TypeId} {sz : Nat} {v : Value} {n : Nat} {xs : List Value} {wr : World} (h : wr.ownsRow B e sz v n xs) {X : Nat} (ha : v.ownBlock ≠ some X) (o : Nat) (u : Value) : (wr.setCell ⟨X, o, none⟩ u).ownsRow B e sz v n xs := by
  refine h.kept (row := some X) ⟨rfl, rfl, rfl, by simp [World.setCell], fun i _ hne => Below.heap_setCell wr _ u i (fun e => hne (by rw [e]))⟩ (.inr ha)
theorem Mid.setX (h : Mid B X e T k x v n zs w wr) (y : Int) : Mid B X e T k y v n zs w (wr.setCell ⟨X, 0, none⟩ (.int k y)) :=
  ⟨own_other h.own h.apart 0 _, by simp [World.setCell, Array.getElem?_modify, h.blk], h.apart, h.below.setCell (p := ⟨X, 0, none⟩) h.lo _, h.lo⟩
theorem Mid.append (h : Mid B X e T k x v n zs w wr) {r : Int} {v' : Value} {w1 : World} (hown : w1.ownsRow B e 1 v' (n + 1) (zs.map (Value.int k) ++ [.int k r]))
    (hg : wr.grownBy w1 v.ownBlock) (hat : v'.ownBlock = v.ownBlock ∨ v'.ownBlock = some wr.heap.size) : Mid B X e T k x v' (n + 1) (zs ++ [r]) w w1 := by
  have hlt := h.lt
  refine ⟨by simpa using hown, (hg.block X hlt (Ne.symm h.apart)).trans h.blk, ?_, h.below.grown hg (Nat.le_trans h.lo (Nat.le_of_lt hlt)) (fun j hj => (h.own.lt j hj).1), h.lo⟩
  rcases hat with e' | e'
  · rw [e']; exact h.apart
  · rw [e']; intro e2; injection e2 with e2; omega
theorem Mid.out (h : Mid B X e T k x v n zs w wr) : ∃ A c, v = .slice A n c ∧ n ≤ c ∧ Ints k wr A n zs := by
  rcases h.own.2 with ⟨hv, hn⟩ | ⟨g, cap, cur, hv, _, _, hnc, _⟩
  · subst hn; subst hv; exact ⟨none, 0, rfl, Nat.le_refl _, Ints.of_own h.own⟩
  · subst hv; exact ⟨_, cap, rfl, hnc, Ints.of_own h.own⟩
end

/-- A slice that the call gathers: its cells cs in a row of its own, from block B on. -/
structure Gath (B : Nat) (e : TypeId) (sz : Nat) (v : Value) (n : Nat) (cs : List Value) (w wr : World) : Prop where
  own : wr.ownsRow B e sz v n cs
  below : Below B w wr
  lo : B ≤ wr.heap.size
section
variable {B : Nat} {e : TypeId} {sz : Nat} {v : Value} {n : Nat} {cs : List Value} {w wr w1 : World}
theorem own_keep (h : wr.ownsRow B e sz v n cs) (hb : Below wr.heap.size wr w1) : w1.ownsRow B e sz v n cs :=
  h.kept (row := none) ⟨hb.os, hb.tape, hb.output, hb.size, fun i hi _ => hb.block i hi⟩ (by cases hv : v.ownBlock <;> simp)
theorem below_into (h : Below B w wr) (hB : B ≤ wr.heap.size) (hb : Below wr.heap.size wr w1) : Below B w w1 := h.trans (hb.mono hB)
theorem Gath.keep (h : Gath B e sz v n cs w wr) (hb : Below wr.heap.size wr w1) : Gath B e sz v n cs w w1 :=
  ⟨own_keep h.own hb, below_into h.below h.lo hb, Nat.le_trans h.lo hb.size⟩
theorem Gath.alloc (h : Gath B e sz v n cs w wr) (o : Obj) : Gath B e sz v n cs w (wr.alloc o) := h.keep ((Below.refl _ _).alloc (Nat.le_refl _) o)
theorem Gath.drew (h : Gath B e sz v n cs w wr) : Gath B e sz v n cs w wr.drew := h.keep (Below.refl _ _).drew
theorem Gath.drewN (h : Gath B e sz v n cs w wr) (m : Nat) : Gath B e sz v n cs w (wr.drewN m) := h.keep (below_drewN (Below.refl _ _) m)
theorem Gath.start (w : World) (e : TypeId) (sz : Nat) : Gath w.heap.size e sz (.slice (some ⟨w.heap.size, 0, none⟩) 0 0) 0 [] w (w.alloc (.cells #[] e)) :=
  ⟨World.ownsRow_made w #[] 0 (Nat.le_refl _) (by unfold maxLen; omega) (by simp), (Below.refl _ _).alloc (Nat.le_refl _) _, by simp⟩
theorem Gath.append (h : Gath B e sz v n cs w wr) {m : Nat} {ns : List Value} {v' : Value} (hown : w1.ownsRow B e sz v' (n + m) (cs ++ ns)) (hg : wr.grownBy w1 v.ownBlock) : Gath B e sz v' (n + m) (cs ++ ns) w w1 :=
  ⟨hown, h.below.grown hg h.lo (fun j hj => (h.own.lt j hj).1), Nat.le_trans h.lo hg.size⟩
theorem Gath.slice (h : Gath B e sz v n cs w wr) : ∃ A c, v = .slice A n c ∧ n ≤ c := by
  rcases h.own.2 with ⟨hv, hn⟩ | ⟨g, cap, cur, hv, _, _, hnc, _⟩
  · subst hn; exact ⟨none, 0, hv, Nat.le_refl _⟩
  · exact ⟨_, cap, hv, hnc⟩
end
theorem Gath.ints {B : Nat} {e : TypeId} {k : IntKind} {v : Value} {n : Nat} {zs : List Int} {w wr : World} (h : Gath B e 1 v n (zs.map (Value.int k)) w wr) : ∃ A c, v = .slice A n c ∧ n ≤ c ∧ Ints k wr A n zs := by
  obtain ⟨A, c, hv, hc⟩ := h.slice
  have := h.own
  rw [hv] at this
  exact ⟨A, c, hv, hc, Ints.of_own this⟩
/-- The cells of a step, of a script. -/
def cellsOf1 (k : IntKind) (s : Step) : List Value := [.int .i64 s.1, .int k s.2.1, .int k s.2.2]
def cellsOfL (k : IntKind) (L : List Step) : List Value := L.flatMap (cellsOf1 k)
theorem cellsOfL_length (k : IntKind) (L : List Step) : (cellsOfL k L).length = L.length * 3 := by
  induction L with
  | nil => rfl
  | cons s l ih => simp only [cellsOfL, List.flatMap_cons, List.length_append, List.length_cons] at ih ⊢; rw [ih]; simp [cellsOf1]; omega
theorem cellsOfL_append (k : IntKind) (L M : List Step) : cellsOfL k (L ++ M) = cellsOfL k L ++ cellsOfL k M := by simp [cellsOfL]
theorem cellsOfL_at (k : IntKind) (L : List Step) (i : Nat) (s : Step) (h : L[i]? = some s) (j : Nat) (hj : j < 3) : (cellsOfL k L)[i * 3 + j]? = (cellsOf1 k s)[j]? := by
  induction L generalizing i with
  | nil => simp at h
  | cons a l ih =>
    cases i with
    | zero =>
      simp at h; subst h
      simp only [cellsOfL, List.flatMap_cons, Nat.zero_mul, Nat.zero_add]
      rw [List.getElem?_append_left (by simp [cellsOf1]; omega)]
    | succ i =>
      have h' : l[i]? = some s := by simpa using h
      simp only [cellsOfL, List.flatMap_cons]
      rw [List.getElem?_append_right (by simp [cellsOf1]; omega)]
      have e : (i + 1) * 3 + j - (cellsOf1 k a).length = i * 3 + j := by simp [cellsOf1]; omega
      rw [e]; exact ih i h'
theorem Steps.of_cells {k : IntKind} {w : World} {n b off : Nat} {L : List Step} (hl : L.length = n) (h : ∀ j u, (cellsOfL k L)[j]? = some u → w.cell? ⟨b, off + j, none⟩ = some u) : Steps k w (some ⟨b, off, none⟩) n L := by
  refine ⟨hl, fun i s hs => ⟨b, off, rfl, ?_, ?_, ?_⟩⟩
  · have := h (i * 3 + 0) _ (by rw [cellsOfL_at k L i s hs 0 (by omega)]; rfl)
    simpa using this
  · have := h (i * 3 + 1) _ (by rw [cellsOfL_at k L i s hs 1 (by omega)]; rfl)
    simpa [Nat.add_assoc] using this
  · have := h (i * 3 + 2) _ (by rw [cellsOfL_at k L i s hs 2 (by omega)]; rfl)
    simpa [Nat.add_assoc] using this
theorem Steps.of_own {k : IntKind} {w : World} {B n c : Nat} {e : TypeId} {A : Option Addr} {L : List Step} (h : w.ownsRow B e 3 (.slice A n c) n (cellsOfL k L)) : Steps k w A n L := by
  have hl : L.length = n := by have := h.1; rw [cellsOfL_length] at this; omega
  rcases h.2 with ⟨_, h0⟩ | ⟨g, cap, cur, hv, _⟩
  · refine ⟨hl, fun i s hs => ?_⟩
    have := (List.getElem?_eq_some_iff.1 hs).1
    omega
  · injection hv with ha _ _
    subst ha
    refine Steps.of_cells hl fun j u hu => ?_
    have hadd : (⟨g, 0, none⟩ : Addr).add j = ⟨g, 0 + j, none⟩ := by unfold Addr.add; split <;> simp_all
    rw [← hadd]; exact h.cells (g := g) rfl j u hu
theorem Gath.steps {B : Nat} {e : TypeId} {k : IntKind} {v : Value} {n : Nat} {L : List Step} {w wr : World} (h : Gath B e 3 v n (cellsOfL k L) w wr) : ∃ A c, v = .slice A n c ∧ n ≤ c ∧ Steps k wr A n L := by
  obtain ⟨A, c, hv, hc⟩ := h.slice
  have := h.own
  rw [hv] at this
  exact ⟨A, c, hv, hc, Steps.of_own this⟩
theorem Steps.nil (k : IntKind) (w : World) (A : Option Addr) : Steps k w A 0 [] := ⟨rfl, fun i s h => by simp at h⟩

theorem ref_next {B : Nat} {e : TypeId} {k : IntKind} {v : Value} {w w1 : World} {L : List Step} {i : Nat} {s : Step} {zs : List Int} {x : Int} (hs : L[i]? = some s) (hx : fin k 0 (L.take i) = x) (hz : ans k 0 (L.take i) = zs)
    (h : Gath B e 1 v (i + 1) (zs.map (Value.int k) ++ [.int k (after k x s).1]) w w1) : Gath B e 1 v (i + 1) ((ans k 0 (L.take (i + 1))).map (Value.int k)) w w1 := by
  rw [ans_snoc k 0 L i s hs, hx, hz]; simpa using h

/-! ### scripts that are drawn -/
def Wf (k : IntKind) (s : Step) : Prop := (Lit.int .i64 s.1).wf = true ∧ (Lit.int k s.2.1).wf = true ∧ (Lit.int k s.2.2).wf = true
theorem wfK_wrap (k : IntKind) (e : Int) : (Lit.int k (k.wrap e)).wf = true := by
  cases k <;> simp [Lit.wf, IntKind.wrap, IntKind.min, IntKind.max, IntKind.signed, IntKind.bits] <;> (try split) <;> omega
theorem wfK_add (k : IntKind) (x y : Int) : (Lit.int k (addK k x y)).wf = true := wfK_wrap k _
theorem wfK_and (k : IntKind) (x y : Int) : (Lit.int k (andK k x y)).wf = true := wfK_wrap k _
theorem wfK_or (k : IntKind) (x y : Int) : (Lit.int k (orK k x y)).wf = true := wfK_wrap k _
theorem wfK_small (k : IntKind) (z : Int) (h : z = 0 ∨ z = 1) : (Lit.int k z).wf = true := by rcases h with rfl | rfl <;> cases k <;> decide
theorem after_wf (k : IntKind) (x : Int) (s : Step) (hx : (Lit.int k x).wf = true) (hs : Wf k s) : (Lit.int k (after k x s).1).wf = true ∧ (Lit.int k (after k x s).2).wf = true := by
  unfold after
  by_cases h1 : s.1 = 1
  · rw [if_pos h1]; exact ⟨wfK_small k 0 (.inl rfl), hs.2.1⟩
  rw [if_neg h1]
  by_cases h2 : s.1 = 2
  · rw [if_pos h2]; exact ⟨wfK_add k _ _, wfK_add k _ _⟩
  rw [if_neg h2]
  by_cases h3 : s.1 = 3
  · rw [if_pos h3]; exact ⟨hx, wfK_and k _ _⟩
  rw [if_neg h3]
  by_cases h4 : s.1 = 4
  · rw [if_pos h4]; exact ⟨hx, wfK_or k _ _⟩
  rw [if_neg h4]
  by_cases h5 : s.1 = 5
  · rw [if_pos h5]; exact ⟨hx, hs.2.1⟩
  rw [if_neg h5]
  by_cases h6 : s.1 = 6
  · rw [if_pos h6]
    by_cases h7 : x = s.2.1
    · rw [if_pos h7]; exact ⟨wfK_small k 1 (.inr rfl), hs.2.2⟩
    · rw [if_neg h7]; exact ⟨wfK_small k 0 (.inl rfl), hx⟩
  rw [if_neg h6]; exact ⟨hx, hx⟩
/-- The steps drawn so far, in a row of the call's own; beside it nothing but the reader's block R has turned. -/
structure Drawn (R B : Nat) (e : TypeId) (k : IntKind) (v : Value) (m : Nat) (L : List Step) (w wr : World) : Prop where
  own : wr.ownsRow B e 3 v m (cellsOfL k L)
  grow : w.grownBy wr (some R)
  lo : B ≤ wr.heap.size
  old : R < B
section
variable {R B : Nat} {e : TypeId} {k : IntKind} {v : Value} {m : Nat} {L : List Step} {w wr w1 : World}
theorem Drawn.keep (h : Drawn R B e k v m L w wr) (hg : wr.grownBy w1 (some R)) : Drawn R B e k v m L w w1 :=
  ⟨h.own.kept hg (.inr (fun e => by have := (h.own.lt R e).1; have := h.old; omega)), h.grow.trans hg, Nat.le_trans h.lo hg.size, h.old⟩
theorem Drawn.alloc (h : Drawn R B e k v m L w wr) (o : Obj) : Drawn R B e k v m L w (wr.alloc o) := h.keep (World.grownBy_alloc wr o _)
theorem Drawn.below (h : Drawn R B e k v m L w wr) (hb : Below wr.heap.size wr w1) : Drawn R B e k v m L w w1 := h.keep ⟨hb.os, hb.tape, hb.output, hb.size, fun i hi _ => hb.block i hi⟩
theorem Drawn.far (h : Drawn R B e k v m L w wr) : v.ownBlock ≠ some wr.heap.size := fun e => by have := (h.own.lt _ e).2; omega
theorem Drawn.setFar {g : Nat} (h : Drawn R w.heap.size e k v m L w wr) (hg : w.heap.size ≤ g) (hf : v.ownBlock ≠ some g) (o : Nat) (u : Value) : Drawn R w.heap.size e k v m L w (wr.setCell ⟨g, o, none⟩ u) :=
  ⟨own_other h.own hf o u, ⟨h.grow.os, h.grow.tape, h.grow.output, by simpa [World.setCell] using h.grow.size, fun i hi hne => (Below.heap_setCell wr ⟨g, o, none⟩ u i (by simp; omega)).trans (h.grow.block i hi hne)⟩, by simpa [World.setCell] using h.lo, h.old⟩
theorem Drawn.append (h : Drawn R w.heap.size e k v m L w wr) {s : Step} {v' : Value} (hown : w1.ownsRow w.heap.size e 3 v' (m + 1) (cellsOfL k L ++ cellsOf1 k s)) (hg : wr.grownBy w1 v.ownBlock) : Drawn R w.heap.size e k v' (m + 1) (L ++ [s]) w w1 := by
  refine ⟨by rw [cellsOfL_append]; simpa [cellsOfL] using hown, ?_, Nat.le_trans h.lo hg.size, h.old⟩
  refine ⟨hg.os.trans h.grow.os, hg.tape.trans h.grow.tape, hg.output.trans h.grow.output, Nat.le_trans h.grow.size hg.size, fun i hi hne => ?_⟩
  refine (hg.block i (Nat.lt_of_lt_of_le hi h.grow.size) (fun e => ?_)).trans (h.grow.block i hi hne)
  have := (h.own.lt i e.symm).1
  omega
theorem Drawn.steps (h : Drawn R B e k v m L w wr) : ∃ A c, v = .slice A m c ∧ m ≤ c ∧ Steps k wr A m L := by
  have hown := h.own
  rcases hown.2 with ⟨hv, hn⟩ | ⟨g, cap, cur, hv, _, _, hnc, _⟩
  · subst hn; rw [hv] at hown; exact ⟨none, 0, hv, Nat.le_refl _, Steps.of_own hown⟩
  · rw [hv] at hown; exact ⟨_, cap, hv, hnc, Steps.of_own hown⟩
end
theorem cells_new3 (w : World) (k : IntKind) (s : Step) (t : TypeId) : ∀ j u, (cellsOf1 k s)[j]? = some u → (w.alloc (.cells #[.int .i64 s.1, .int k s.2.1, .int k s.2.2] t)).cell? ((⟨w.heap.size, 0, none⟩ : Addr).add j) = some u := by
  intro j u hj
  match j, hj with
  | 0, hj => simp [cellsOf1] at hj; subst hj; simp [Addr.add]
  | 1, hj => simp [cellsOf1] at hj; subst hj; simp [Addr.add]
  | 2, hj => simp [cellsOf1] at hj; subst hj; simp [Addr.add]
theorem one_cell3 (k : IntKind) (s : Step) : ∀ u ∈ cellsOf1 k s, u.oneCell' = true := by
  intro u hu
  simp [cellsOf1] at hu
  rcases hu with rfl | rfl | rfl <;> rfl

/-! ### literals; slices beside the reader -/
theorem Steps.lit {k : IntKind} {w : World} {g : Nat} {T : TypeId} {arr : Array Value} {fr : Nat × Nat} (L : List Step) (h : w.heap[g]? = some (.cells arr T fr)) (ha : arr.toList = cellsOfL k L) : Steps k w (some ⟨g, 0, none⟩) L.length L := by
  refine Steps.of_cells rfl fun j u hu => ?_
  rw [Nat.zero_add, cell_of_row w g j _ _ _ h, ← Array.getElem?_toList, ha]; exact hu
theorem Ints.lit {k : IntKind} {w : World} {g : Nat} {T : TypeId} {arr : Array Value} {fr : Nat × Nat} (zs : List Int) (h : w.heap[g]? = some (.cells arr T fr)) (ha : arr.toList = zs.map (Value.int k)) : Ints k w (some ⟨g, 0, none⟩) zs.length zs := by
  refine ⟨rfl, fun j z hz => ⟨g, 0, rfl, ?_⟩⟩
  rw [Nat.zero_add, cell_of_row w g j _ _ _ h, ← Array.getElem?_toList, ha, List.getElem?_map, hz]; rfl
theorem Steps.grown {k : IntKind} {w w' : World} {A : Option Addr} {n R : Nat} {L : List Step} (h : Steps k w A n L) (hg : w.grownBy w' (some R)) (hne : ∀ a, A = some a → ¬ a.block = R) : Steps k w' A n L :=
  ⟨h.1, fun i s hs => by
    obtain ⟨b, off, e, h0, h1, h2⟩ := h.2 i s hs
    have hb : ∀ o : Nat, some (⟨b, o, none⟩ : Addr).block ≠ some R := by intro o e'; injection e' with e'; exact hne _ e e'
    exact ⟨b, off, e, hg.cell h0 (hb _), hg.cell h1 (hb _), hg.cell h2 (hb _)⟩⟩
/-- A slice of bytes. -/
def Bytes (w : World) (A : Option Addr) (n : Nat) : Prop :=
  n ≤ 9223372036854775807 ∧ ∀ i, i < n → ∃ b off z, A = some ⟨b, off, none⟩ ∧ w.cell? ⟨b, off + i, none⟩ = some (.int .u8 z) ∧ 0 ≤ z ∧ z ≤ 255
theorem Bytes.of_row {w : World} {A : Option Addr} {len cap : Nat} {zs : List Int} (h : (A = none ∧ len = 0 ∧ cap = 0 ∧ zs = []) ∨
    ∃ x, A = some x ∧ len ≤ cap ∧ cap ≤ maxLen ∧ zs.length = cap ∧ (∀ i, i < zs.length → w.cell? (x.add i) = some (.int .u8 (zs.getD i 0))) ∧ ∀ n ∈ zs, (Lit.int .u8 n).wf = true) : Bytes w A len := by
  rcases h with ⟨rfl, rfl, _, _⟩ | ⟨x, rfl, hl, hm, hz, hc, hw⟩
  · exact ⟨by omega, fun i hi => by omega⟩
  · refine ⟨by unfold maxLen at hm; omega, fun i hi => ?_⟩
    have hi' : i < zs.length := by omega
    have hs := World.cell?_spot (hc 0 (by omega))
    obtain ⟨b, o, sp⟩ := x
    simp [Addr.add] at hs
    subst hs
    have hwf := hw (zs.getD i 0) (by rw [List.getD_eq_getElem?_getD, List.getElem?_eq_getElem hi']; exact List.getElem_mem hi')
    have hb : 0 ≤ zs.getD i 0 ∧ zs.getD i 0 ≤ 255 := by
      simp only [Lit.wf, IntKind.min, IntKind.max, IntKind.signed, IntKind.bits, Bool.and_eq_true] at hwf
      simpa using hwf
    refine ⟨b, o, _, rfl, ?_, hb.1, hb.2⟩
    have := hc i hi'
    by_cases h0 : i = 0
    · subst h0; simpa [Addr.add] using this
    · simpa [Addr.add, h0] using this

/-! ### the rounds of a run -/
theorem after_store (k : IntKind) (x y z : Int) : after k x (1, y, z) = (0, y) := by simp [after]
theorem after_add (k : IntKind) (x y z : Int) : after k x (2, y, z) = (addK k x y, addK k x y) := by simp [after]
theorem after_and (k : IntKind) (x y z : Int) : after k x (3, y, z) = (x, andK k x y) := by simp [after]
theorem after_or (k : IntKind) (x y z : Int) : after k x (4, y, z) = (x, orK k x y) := by simp [after]
theorem after_swap (k : IntKind) (x y z : Int) : after k x (5, y, z) = (x, y) := by simp [after]
theorem after_hit (k : IntKind) (x z : Int) : after k x (6, x, z) = (1, z) := by simp [after]
theorem after_miss (k : IntKind) (x y z : Int) (h : ¬ x = y) : after k x (6, y, z) = (0, x) := by simp [after, h]
theorem after_else (k : IntKind) (x d y z : Int) (h1 : ¬ d = 1) (h2 : ¬ d = 2) (h3 : ¬ d = 3) (h4 : ¬ d = 4) (h5 : ¬ d = 5) (h6 : ¬ d = 6) : after k x (d, y, z) = (x, x) := by simp [after, h1, h2, h3, h4, h5, h6]

theorem rel_next {B X : Nat} {e T : TypeId} {k : IntKind} {v : Value} {w w1 : World} {L : List Step} {i : Nat} {s : Step} {x r x' : Int} {zs : List Int} (hs : L[i]? = some s) (hx : fin k 0 (L.take i) = x) (hz : ans k 0 (L.take i) = zs)
    (ha : after k x s = (r, x')) (h : Mid B X e T k x' v (i + 1) (zs ++ [r]) w w1) : Mid B X e T k (fin k 0 (L.take (i + 1))) v (i + 1) (ans k 0 (L.take (i + 1))) w w1 := by
  rw [fin_snoc k 0 L i s hs, ans_snoc k 0 L i s hs, hx, hz, ha]; exact h
theorem mid_start {k : IntKind} {e T : TypeId} (w : World) (L : List Step) : Mid w.heap.size (w.heap.size + 1) e T k (fin k 0 (L.take 0)) (.slice (some ⟨w.heap.size, 0, none⟩) 0 0) 0 (ans k 0 (L.take 0)) w ((w.alloc (.cells #[] e)).alloc (.cells #[.int k 0] T)) := by
  refine ⟨(World.ownsRow_made w #[] 0 (Nat.le_refl _) (by unfold maxLen; omega) rfl).alloc _, ?_, ?_, ((Below.refl _ _).alloc (Nat.le_refl _) _).alloc (by simp) _, by omega⟩
  · have := heap_alloc_new (w.alloc (.cells #[] e)) (.cells #[.int k 0] T)
    simpa [fin] using this
  · simp [Value.ownBlock]
/-- What a run of a script comes to: the answers in new memory, and the number at last. -/
def RunTo (k : IntKind) (n : Nat) (x : Int) (zs : List Int) (w : World) (e : Ending) (w' : World) : Prop :=
  ∃ A c, e = .returned (.tuple #[.slice A n c, .int k x]) ∧ n ≤ c ∧ Ints k w' A n zs ∧ Below w.heap.size w w'
def RunPost (k : IntKind) (n : Nat) (L : List Step) (w : World) (e : Ending) (w' : World) : Prop :=
  ∃ A c, e = .returned (.tuple #[.slice A n c, .int k (fin k 0 L)]) ∧ n ≤ c ∧ Ints k w' A n (ans k 0 L) ∧ Below w.heap.size w w'

/-- What one step of the reference comes to. -/
def AfterPost (k : IntKind) (x : Int) (s : Step) (w : World) (e : Ending) (w' : World) : Prop :=
  e = .returned (.tuple #[.int k (after k x s).1, .int k (after k x s).2]) ∧ Below w.heap.size w w'
theorem addK_i32 (x y : Int) : wrap32 (x + y) = addK .i32 x y := (IntWalk.i32_left _).symm
theorem addK_i64 (x y : Int) : wrap64 (x + y) = addK .i64 x y := (IntWalk.i64_left _).symm
theorem ret2 {k : IntKind} {a b r x' : Int} {p : Int × Int} (hp : p = (r, x')) (h1 : a = r) (h2 : b = x') : Ending.returned (.tuple #[.int k a, .int k b]) = .returned (.tuple #[.int k p.1, .int k p.2]) := by rw [hp, h1, h2]

/-! ### scripts of loads -/
def toLoad (s : Step) : Step := (0, s.2.1, s.2.2)
theorem loads_fin (k : IntKind) (L : List Step) : fin k 0 (L.map toLoad) = 0 := by
  induction L with
  | nil => rfl
  | cons s l ih => simp only [List.map_cons, fin]; simpa [after, toLoad] using ih
theorem loads_ans (k : IntKind) (L : List Step) : ans k 0 (L.map toLoad) = List.replicate L.length 0 := by
  induction L with
  | nil => rfl
  | cons s l ih => simp only [List.map_cons, ans, List.length_cons, List.replicate_succ]; simpa [after, toLoad] using ih
theorem loads_snoc (k : IntKind) (L : List Step) (i : Nat) (s : Step) (h : L[i]? = some s) : cellsOfL k ((L.take (i + 1)).map toLoad) = cellsOfL k ((L.take i).map toLoad) ++ cellsOf1 k (toLoad s) := by
  rw [take_snoc L i s h, List.map_append, cellsOfL_append]; simp [cellsOfL]

theorem ext_trans {w w1 w2 : World} (h : Below w.heap.size w w1) (h2 : Below w1.heap.size w1 w2) : Below w.heap.size w w2 := below_into h h.size h2
theorem ext_alloc {w w1 : World} (h : Below w.heap.size w w1) (o : Obj) : Below w.heap.size w (w1.alloc o) := h.alloc h.size o
theorem ext_new (w : World) (o : Obj) : Below w.heap.size w (w.alloc o) := ext_alloc (Below.refl _ _) o

/-! ### sync/atomic, one goroutine -/
section
variable {P : Program} {f : FuncId} {fn : Func}
theorem run_add (k : IntKind) (x y : Int) (w : World) : (Op.intArith .add k x y).run P w = .ok (.int k (addK k x y)) w := rfl
theorem run_and (k : IntKind) (x y : Int) (w : World) : (Op.intBits .and k x y).run P w = .ok (.int k (andK k x y)) w := rfl
theorem run_or (k : IntKind) (x y : Int) (w : World) : (Op.intBits .or k x y).run P w = .ok (.int k (orK k x y)) w := rfl

theorem run_call_swap (hf : P.funcs[f]? = some fn) (hname : (fn.name == "runtime.NumGoroutine") = false) (hb : fn.body.isNone = true) (hn : Extern.findNext fn = none) (k : IntKind)
    (he : Extern.find fn = some (Extern.Atomic.swapT (.int k))) {a : Addr} {x y : Int} {w : World} (hc : w.cell? a = some (.int k x)) (hz : w.frozen? a = false) :
    (callFunc f #[.pointer (some a), .int k y]).run P w = .ok (.value (.int k x)) (w.setCell a (.int k y)) := by
  rw [run_callFunc_extern hf hname hb hn he]
  change (Sem.run P (do
    let a' ← asAddr (.pointer (some a))
    let old ← Extern.Atomic.read (.int k) a'
    store a' (.int k y) .atomic
    pure old) w).andThen _ = _
  simp [Extern.Atomic.read, asAddr, hc, hz, run_store P w a (.int k y) .atomic rfl, Result.andThen]

theorem run_call_bits (hf : P.funcs[f]? = some fn) (hname : (fn.name == "runtime.NumGoroutine") = false) (hb : fn.body.isNone = true) (hn : Extern.findNext fn = none) (k : IntKind) (op : IntKind → Int → Int → Sem Value)
    (he : Extern.find fn = some (Extern.Atomic.update op k false)) {a : Addr} {x y s : Int} {w : World} (hc : w.cell? a = some (.int k x)) (hz : w.frozen? a = false)
    (hs : (op k x y).run P w = .ok (.int k s) w) :
    (callFunc f #[.pointer (some a), .int k y]).run P w = .ok (.value (.int k x)) (w.setCell a (.int k s)) := by
  rw [run_callFunc_extern hf hname hb hn he]
  change (Sem.run P (do
    let a' ← asAddr (.pointer (some a))
    let old ← Extern.Atomic.read (.int k) a'
    let new ← op k (← asInt old) (← asInt (.int k y))
    store a' new .atomic
    pure (if false = true then new else old)) w).andThen _ = _
  simp [Extern.Atomic.read, asAddr, asInt, asIntOf, hc, hz, hs, run_store P w a (.int k s) .atomic rfl, Result.andThen]
end
end Go.Proofs.Ytlenkaobojneeaa
