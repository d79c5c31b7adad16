/-
  Words for scripts of pointers: the number of a cell ('cl'), a script of pointers read as a script of numbers ('toP'), its answers and its cell at last ('pans', 'pfin'); what a run has made so far; and what sync/atomic's functions for unsafe.Pointer do in the run of one goroutine. No conditions.
-/
import Derived.Test.YtlenkaobojneeaaBase
import Derived.LaidEqlPtr
namespace Go.Proofs.Ytlenkaobojneeaa.P
open Go.RowKit

/-! ### the plain law -/
def cl (n : Int) : Int := if n < 0 ∨ 8 ≤ n then -1 else n
def doOf (d : Int) : Int := if d = 1 ∨ d = 5 ∨ d = 6 then d else 0
def toP (s : Step) : Step := (doOf s.1, cl s.2.1, cl s.2.2)
def pans (L : List Step) : List Int := ans .i64 (-1) (L.map toP)
def pfin (L : List Step) : Int := fin .i64 (-1) (L.map toP)
def paft (x : Int) (s : Step) : Int × Int := after .i64 x (toP s)
theorem cl_in (n : Int) : -1 ≤ cl n ∧ cl n ≤ 7 := by unfold cl; split <;> omega
theorem cl_out (n : Int) (h : n < 0 ∨ 8 ≤ n) : cl n = -1 := by unfold cl; rw [if_pos h]
theorem cl_of (n : Int) (h0 : 0 ≤ n) (h1 : n < 8) : cl n = n := by unfold cl; rw [if_neg (by omega)]
theorem cl_same (n : Int) (h0 : -1 ≤ n) (h1 : n ≤ 7) : cl n = n := by unfold cl; split <;> omega
theorem doOf_same (d : Int) (h : d = 1 ∨ d = 5 ∨ d = 6) : doOf d = d := by unfold doOf; rw [if_pos h]
theorem doOf_else (d : Int) (h1 : ¬ d = 1) (h5 : ¬ d = 5) (h6 : ¬ d = 6) : doOf d = 0 := by unfold doOf; rw [if_neg (by simp [h1, h5, h6])]
theorem pans_length (L : List Step) : (pans L).length = L.length := by rw [pans, ans_length, List.length_map]
theorem pfin_append (L M : List Step) : pfin (L ++ M) = fin .i64 (pfin L) (M.map toP) := by rw [pfin, List.map_append, fin_append]; rfl
theorem pans_append (L M : List Step) : pans (L ++ M) = pans L ++ ans .i64 (pfin L) (M.map toP) := by rw [pans, List.map_append, ans_append]; rfl
theorem pfin_snoc (l : List Step) (i : Nat) (s : Step) (h : l[i]? = some s) : pfin (l.take (i + 1)) = (paft (pfin (l.take i)) s).2 := by
  rw [take_snoc l i s h, pfin_append]; rfl
theorem pans_snoc (l : List Step) (i : Nat) (s : Step) (h : l[i]? = some s) : pans (l.take (i + 1)) = pans (l.take i) ++ [(paft (pfin (l.take i)) s).1] := by
  rw [take_snoc l i s h, pans_append]; rfl
theorem paft_store (x y z : Int) : paft x (1, y, z) = (0, cl y) := by simp [paft, toP, doOf, after]
theorem paft_swap (x y z : Int) : paft x (5, y, z) = (x, cl y) := by simp [paft, toP, doOf, after]
theorem paft_hit (x y z : Int) (h : x = cl y) : paft x (6, y, z) = (1, cl z) := by simp [paft, toP, doOf, after, h]
theorem paft_miss (x y z : Int) (h : ¬ x = cl y) : paft x (6, y, z) = (0, x) := by simp [paft, toP, doOf, after, h]
theorem paft_else (x d y z : Int) (h1 : ¬ d = 1) (h5 : ¬ d = 5) (h6 : ¬ d = 6) : paft x (d, y, z) = (x, x) := by simp [paft, toP, doOf_else d h1 h5 h6, after]
theorem paft_in (x : Int) (s : Step) (h : -1 ≤ x ∧ x ≤ 7) : -1 ≤ (paft x s).2 ∧ (paft x s).2 ≤ 7 := by
  obtain ⟨d, y, z⟩ := s
  by_cases h1 : d = 1
  · subst h1; rw [paft_store]; exact cl_in y
  by_cases h5 : d = 5
  · subst h5; rw [paft_swap]; exact cl_in y
  by_cases h6 : d = 6
  · subst h6
    by_cases hx : x = cl y
    · rw [paft_hit x y z hx]; exact cl_in z
    · rw [paft_miss x y z hx]; exact h
  · rw [paft_else x d y z h1 h5 h6]; exact h
theorem fin_in (L : List Step) (x : Int) (h : -1 ≤ x ∧ x ≤ 7) : -1 ≤ fin .i64 x (L.map toP) ∧ fin .i64 x (L.map toP) ≤ 7 := by
  induction L generalizing x with
  | nil => exact h
  | cons s l ih => exact ih _ (paft_in x s h)
theorem pfin_in (L : List Step) : -1 ≤ pfin L ∧ pfin L ≤ 7 := fin_in L (-1) (by omega)

/-! ### memory -/
/-- The pointer to the cell with the number x in block C; nil for -1. -/
def pt (C : Nat) (x : Int) : Option Addr := if x < 0 then none else some ⟨C, x.toNat, none⟩
theorem pt_none (C : Nat) : pt C (-1) = none := by simp [pt]
theorem pt_some (C k : Nat) : pt C (k : Int) = some ⟨C, k, none⟩ := by unfold pt; rw [if_neg (by omega)]; simp
theorem pt_cases (x : Int) (h : -1 ≤ x ∧ x ≤ 7) : x = -1 ∨ ∃ k : Nat, k < 8 ∧ x = (k : Int) := by
  by_cases h0 : x = -1
  · exact .inl h0
  · exact .inr ⟨x.toNat, by omega, by omega⟩
/-- The eight cells. -/
def eight : Array Value := #[.int .i64 0, .int .i64 0, .int .i64 0, .int .i64 0, .int .i64 0, .int .i64 0, .int .i64 0, .int .i64 0]
def Eight (w : World) (C : Nat) : Prop := w.heap[C]? = some (.cells eight 3 (0, 0))
theorem Eight.cell {w : World} {C k : Nat} (h : Eight w C) (hk : k < 8) : w.cell? ⟨C, k, none⟩ = some (.int .i64 0) := by
  rw [cell_of_row w C k _ _ _ h]
  rcases (show k = 0 ∨ k = 1 ∨ k = 2 ∨ k = 3 ∨ k = 4 ∨ k = 5 ∨ k = 6 ∨ k = 7 by omega) with rfl | rfl | rfl | rfl | rfl | rfl | rfl | rfl <;> rfl
theorem Eight.shape {w : World} {C : Nat} (h : Eight w C) : w.shape? C = some (3, 8) := by unfold World.shape?; rw [h]; rfl
/-- What a run of a script of pointers has made so far: its answers zs in a row of its own, the cells in block C, its pointer in block X. -/
structure Mid (B C X : Nat) (e T : TypeId) (x : Int) (v : Value) (n : Nat) (zs : List Int) (w wr : World) : Prop where
  own : wr.ownsRow B e 1 v n (zs.map (Value.int .i64))
  blk : wr.heap[X]? = some (.cells #[.pointer (pt C x)] T (0, 0))
  cells : Eight wr C
  apart : v.ownBlock ≠ some X
  apartC : v.ownBlock ≠ some C
  ne : ¬ C = X
  below : Below B w wr
  lo : B ≤ X
  loC : B ≤ C
section
variable {B C X : Nat} {e T : TypeId} {x : Int} {v : Value} {n : Nat} {zs : List Int} {w wr : World}
theorem Mid.lt (h : Mid B C X e T x v n zs w wr) : X < wr.heap.size := (Array.getElem?_eq_some_iff.1 h.blk).1
theorem Mid.ltC (h : Mid B C X e T x v n zs w wr) : C < wr.heap.size := (Array.getElem?_eq_some_iff.1 h.cells).1
theorem Mid.cell (h : Mid B C X e T x v n zs w wr) : wr.cell? ⟨X, 0, none⟩ = some (.pointer (pt C x)) := by
  rw [cell_of_row wr X 0 _ _ _ h.blk]; rfl
theorem Mid.free (h : Mid B C X e T x v n zs w wr) : wr.frozen? ⟨X, 0, none⟩ = false := by
  simp [World.frozen?, h.blk]
theorem Mid.alloc (h : Mid B C X e T x v n zs w wr) (o : Obj) : Mid B C X e T x v n zs w (wr.alloc o) :=
  ⟨h.own.alloc o, (Below.heap_alloc wr o X h.lt).trans h.blk, (Below.heap_alloc wr o C h.ltC).trans h.cells, h.apart, h.apartC, h.ne, h.below.alloc (Nat.le_trans h.lo (Nat.le_of_lt h.lt)) o, h.lo, h.loC⟩
theorem Mid.drew (h : Mid B C X e T x v n zs w wr) : Mid B C X e T x v n zs w wr.drew := ⟨h.own, h.blk, h.cells, h.apart, h.apartC, h.ne, h.below.drew, h.lo, h.loC⟩
theorem Mid.drewN (h : Mid B C X e T x v n zs w wr) (m : Nat) : Mid B C X e T x v n zs w (wr.drewN m) := ⟨h.own, h.blk, h.cells, h.apart, h.apartC, h.ne, below_drewN h.below m, h.lo, h.loC⟩
theorem Mid.setX (h : Mid B C X e T x v n zs w wr) (y : Int) : Mid B C X e T y v n zs w (wr.setCell ⟨X, 0, none⟩ (.pointer (pt C y))) :=
  ⟨own_other h.own h.apart 0 _, by simp [World.setCell, Array.getElem?_modify, h.blk], (Below.heap_setCell wr ⟨X, 0, none⟩ _ C h.ne).trans h.cells, h.apart, h.apartC, h.ne, h.below.setCell (p := ⟨X, 0, none⟩) h.lo _, h.lo, h.loC⟩
theorem Mid.append (h : Mid B C X e T x v n zs w wr) {r : Int} {v' : Value} {w1 : World} (hown : w1.ownsRow B e 1 v' (n + 1) (zs.map (Value.int .i64) ++ [.int .i64 r]))
    (hg : wr.grownBy w1 v.ownBlock) (hat : v'.ownBlock = v.ownBlock ∨ v'.ownBlock = some wr.heap.size) : Mid B C X e T x v' (n + 1) (zs ++ [r]) w w1 := by
  have hlt := h.lt
  have hltC := h.ltC
  refine ⟨by simpa using hown, (hg.block X hlt (Ne.symm h.apart)).trans h.blk, (hg.block C hltC (Ne.symm h.apartC)).trans h.cells, ?_, ?_, h.ne, h.below.grown hg (Nat.le_trans h.lo (Nat.le_of_lt hlt)) (fun j hj => (h.own.lt j hj).1), h.lo, h.loC⟩
  · rcases hat with e' | e'
    · rw [e']; exact h.apart
    · rw [e']; intro e2; injection e2 with e2; omega
  · rcases hat with e' | e'
    · rw [e']; exact h.apartC
    · rw [e']; intro e2; injection e2 with e2; omega
theorem Mid.out (h : Mid B C X e T x v n zs w wr) : ∃ A c, v = .slice A n c ∧ n ≤ c ∧ Ints .i64 wr A n zs := by
  rcases h.own.2 with ⟨hv, hn⟩ | ⟨g, cap, cur, hv, _, _, hnc, _⟩
  · subst hn; subst hv; exact ⟨none, 0, rfl, Nat.le_refl _, Ints.of_own h.own⟩
  · subst hv; exact ⟨_, cap, rfl, hnc, Ints.of_own h.own⟩
end
theorem rel_next {B C X : Nat} {e T : TypeId} {v : Value} {w w1 : World} {L : List Step} {i : Nat} {s : Step} {x r x' : Int} {zs : List Int} (hs : L[i]? = some s) (hx : pfin (L.take i) = x) (hz : pans (L.take i) = zs)
    (ha : paft x s = (r, x')) (h : Mid B C X e T x' v (i + 1) (zs ++ [r]) w w1) : Mid B C X e T (pfin (L.take (i + 1))) v (i + 1) (pans (L.take (i + 1))) w w1 := by
  rw [pfin_snoc L i s hs, pans_snoc L i s hs, hx, hz, ha]; exact h
theorem mid_start {e T : TypeId} (w : World) (L : List Step) : Mid w.heap.size (w.heap.size + 1) (w.heap.size + 1 + 1) e T (pfin (L.take 0)) (.slice (some ⟨w.heap.size, 0, none⟩) 0 0) 0 (pans (L.take 0)) w
    (((w.alloc (.cells #[] e)).alloc (.cells eight 3)).alloc (.cells #[.pointer none] T)) := by
  refine ⟨((World.ownsRow_made w #[] 0 (Nat.le_refl _) (by unfold maxLen; omega) rfl).alloc _).alloc _, ?_, ?_, ?_, ?_, by omega, (((Below.refl _ _).alloc (Nat.le_refl _) _).alloc (by simp) _).alloc (by simp; omega) _, by omega, by omega⟩
  · have := heap_alloc_new ((w.alloc (.cells #[] e)).alloc (.cells eight 3)) (.cells #[.pointer none] T)
    simpa [pfin, fin, pt] using this
  · have := heap_alloc_new (w.alloc (.cells #[] e)) (.cells eight 3)
    exact (Below.heap_alloc _ _ _ (by simp)).trans (by simpa using this)
  · simp [Value.ownBlock]; omega
  · simp [Value.ownBlock]
theorem ref_next {B : Nat} {e : TypeId} {v : Value} {w w1 : World} {L : List Step} {i : Nat} {s : Step} {zs : List Int} {x r x' : Int} (hs : L[i]? = some s) (hx : pfin (L.take i) = x) (hz : pans (L.take i) = zs) (ha : paft x s = (r, x'))
    (h : Gath B e 1 v (i + 1) (zs.map (Value.int .i64) ++ [.int .i64 r]) w w1) : x' = pfin (L.take (i + 1)) ∧ Gath B e 1 v (i + 1) ((pans (L.take (i + 1))).map (Value.int .i64)) w w1 := by
  rw [pans_snoc L i s hs, pfin_snoc L i s hs, hx, hz, ha]; exact ⟨rfl, by simpa using h⟩

/-! ### sync/atomic for unsafe.Pointer, one goroutine -/
section
variable {P : Program} {f : FuncId} {fn : Func}
theorem run_call_storeP (hf : P.funcs[f]? = some fn) (hname : (fn.name == "runtime.NumGoroutine") = false) (hb : fn.body.isNone = true) (hn : Extern.findNext fn = none)
    (he : Extern.find fn = some Extern.Atomic.storeT) {a : Addr} {y : Option Addr} {u : Value} {w : World} (hc : w.cell? a = some u) (hz : w.frozen? a = false) :
    (callFunc f #[.pointer (some a), .pointer y]).run P w = .ok (.value (.tuple #[])) (w.setCell a (.pointer y)) := by
  rw [run_callFunc_extern hf hname hb hn he]
  change (Sem.run P (do
    store (← asAddr (.pointer (some a))) (.pointer y) .atomic
    pure Extern.Atomic.none_) w).andThen _ = _
  simp [asAddr, hc, hz, run_store P w a (.pointer y) .atomic rfl, Result.andThen, Extern.Atomic.none_]
theorem run_call_loadP (hf : P.funcs[f]? = some fn) (hname : (fn.name == "runtime.NumGoroutine") = false) (hb : fn.body.isNone = true) (hn : Extern.findNext fn = none)
    (he : Extern.find fn = some (Extern.Atomic.loadT .ptr)) {a : Addr} {x : Option Addr} {w : World} (hc : w.cell? a = some (.pointer x)) :
    (callFunc f #[.pointer (some a)]).run P w = .ok (.value (.pointer x)) w := by
  rw [run_callFunc_extern hf hname hb hn he]
  change (Sem.run P (do Extern.Atomic.read .ptr (← asAddr (.pointer (some a)))) w).andThen _ = _
  simp [Extern.Atomic.read, asAddr, hc, Result.andThen]
theorem run_call_swapP (hf : P.funcs[f]? = some fn) (hname : (fn.name == "runtime.NumGoroutine") = false) (hb : fn.body.isNone = true) (hn : Extern.findNext fn = none)
    (he : Extern.find fn = some (Extern.Atomic.swapT .ptr)) {a : Addr} {x y : Option Addr} {w : World} (hc : w.cell? a = some (.pointer x)) (hz : w.frozen? a = false) :
    (callFunc f #[.pointer (some a), .pointer y]).run P w = .ok (.value (.pointer x)) (w.setCell a (.pointer y)) := by
  rw [run_callFunc_extern hf hname hb hn he]
  change (Sem.run P (do
    let a' ← asAddr (.pointer (some a))
    let old ← Extern.Atomic.read .ptr a'
    store a' (.pointer y) .atomic
    pure old) w).andThen _ = _
  simp [Extern.Atomic.read, asAddr, hc, hz, run_store P w a (.pointer y) .atomic rfl, Result.andThen]
theorem run_call_casP (hf : P.funcs[f]? = some fn) (hname : (fn.name == "runtime.NumGoroutine") = false) (hb : fn.body.isNone = true) (hn : Extern.findNext fn = none)
    (he : Extern.find fn = some (Extern.Atomic.casT .ptr)) {a : Addr} {x o y : Option Addr} {q : Bool} {w : World} (hc : w.cell? a = some (.pointer x)) (hz : w.frozen? a = false) (hs : (samePointer x o).run P w = .ok q w) :
    (callFunc f #[.pointer (some a), .pointer o, .pointer y]).run P w = .ok (.value (.bool q)) (if q then w.setCell a (.pointer y) else w) := by
  rw [run_callFunc_extern hf hname hb hn he]
  change (Sem.run P (do
    let a' ← asAddr (.pointer (some a))
    if ← Extern.Atomic.touchesFrozen a' then unsupported (.unsafePointer "a write to bytes that a string shares")
    let eq ← match Extern.Atomic.T.ptr, ← Extern.Atomic.read .ptr a', Value.pointer o with
      | _, .int _ x, .int _ y => pure (x == y)
      | .ptr, .pointer x, .pointer y => samePointer x y
      | .int _, .pointer (some _), .int _ 0 | .int _, .int _ 0, .pointer (some _) => pure false
      | .int _, .pointer (some _), _ | .int _, _, .pointer (some _) => unsupported .addressObserved
      | _, _, _ => stuck "atomic.CompareAndSwap: old is no T"
    if eq then store a' (.pointer y) .atomic
    pure (Value.bool eq)) w).andThen _ = _
  cases q <;> simp [Extern.Atomic.touchesFrozen, Extern.Atomic.read, asAddr, viewAt, World.shape?_isSome_of_cell? hc, hc, hz, hs, run_store P w a (.pointer y) .atomic rfl, Result.andThen]
theorem run_same (C : Nat) (x y : Int) (hx : -1 ≤ x ∧ x ≤ 7) (hy : -1 ≤ y ∧ y ≤ 7) (w : World) : (samePointer (pt C x) (pt C y)).run P w = .ok (decide (x = y)) w := by
  rcases pt_cases x hx with rfl | ⟨i, hi, rfl⟩ <;> rcases pt_cases y hy with rfl | ⟨j, hj, rfl⟩
  · simp [pt_none, samePointer]
  · have h : ¬ (-1 : Int) = (j : Int) := by omega
    simp [pt_none, pt_some, samePointer, h]
  · have h : ¬ (i : Int) = -1 := by omega
    simp [pt_none, pt_some, samePointer, h]
  · by_cases h : i = j
    · subst h; simp [pt_some, samePointer, sameAddr]
    · have h' : ¬ (i : Int) = (j : Int) := by omega
      simp [pt_some, samePointer, sameAddr, h']
theorem run_to_unsafe {src dst t : TypeId} (hs : P.underlying src = some (.pointer t)) (hd : P.underlying dst = some .unsafePointer) (hsz : (P.info? t).map (fun i => decide (i.size = 0)) = some false)
    {C : Nat} {x : Int} {w : World} (hx : -1 ≤ x ∧ x ≤ 7) (hC : Eight w C) : (convert src dst (.pointer (pt C x))).run P w = .ok (.pointer (pt C x)) w := by
  rcases pt_cases x hx with rfl | ⟨i, hi, rfl⟩
  · rw [pt_none]
    simp [convert, Conv.unsafePointer, run_underlying hs, run_underlying hd, Result.andThen]
  · rw [pt_some]
    exact run_convert_to_unsafe hs hd hsz (hC.cell hi)
theorem run_from_unsafe {src dst t : TypeId} (hs : P.underlying src = some .unsafePointer) (hd : P.underlying dst = some (.pointer t)) (hsz : (P.info? t).map (fun i => decide (i.size = 0)) = some false)
    (hl : ∀ k, k < 8 → liesAt P P.depth 3 (8 / P.cellsOf 3) k t 1 = true)
    {C : Nat} {x : Int} {w : World} (hx : -1 ≤ x ∧ x ≤ 7) (hC : Eight w C) : (convert src dst (.pointer (pt C x))).run P w = .ok (.pointer (pt C x)) w := by
  rcases pt_cases x hx with rfl | ⟨i, hi, rfl⟩
  · rw [pt_none]
    simp [convert, Conv.unsafePointer, run_underlying hs, run_underlying hd, Result.andThen]
  · rw [pt_some]
    obtain ⟨j, hj, hz0⟩ := Option.map_eq_some_iff.1 hsz
    have hz : j.size ≠ 0 := by simpa using hz0
    have hli := hl i hi
    simp [convert, Conv.unsafePointer, Conv.seenAt, viewAt, sizeOf, typeInfo, variablesAt, run_underlying hs, run_underlying hd, hj, hz, hC.shape, hli, Result.andThen]
end
end Go.Proofs.Ytlenkaobojneeaa.P
