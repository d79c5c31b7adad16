/-
  Plain facts: a script whose numbers are wrapped into another kind has the answers wrapped into that kind: with and without a sign, for numbers that fit; and from 64 to 32 bits, if nothing is compared. Conditions: as said at each.
-/
import Derived.Test.YtclhdhpjgabpeaaBits
namespace Go.Proofs.Ytclhdhpjgabpeaa
open Go.RowKit

def conv (k' : IntKind) (s : Step) : Step := (s.1, k'.wrap s.2.1, k'.wrap s.2.2)

theorem conv_snoc (k' : IntKind) (L : List Step) (i : Nat) (s : Step) (h : L[i]? = some s) : cellsOfL k' ((L.take (i + 1)).map (conv k')) = cellsOfL k' ((L.take i).map (conv k')) ++ cellsOf1 k' (s.1, k'.wrap s.2.1, k'.wrap s.2.2) := by
  rw [take_snoc L i s h, List.map_append, cellsOfL_append]; simp [cellsOfL, conv]

/-- What a wrap from kind k into kind k' keeps. -/
structure Wraps (k k' : IntKind) : Prop where
  add : ∀ x y, k'.wrap (addK k x y) = addK k' (k'.wrap x) (k'.wrap y)
  and_ : ∀ x y, k'.wrap (andK k x y) = andK k' (k'.wrap x) (k'.wrap y)
  or_ : ∀ x y, k'.wrap (orK k x y) = orK k' (k'.wrap x) (k'.wrap y)
theorem wrap_zero (k : IntKind) : k.wrap 0 = 0 := by cases k <;> rfl
theorem wrap_one (k : IntKind) : k.wrap 1 = 1 := by cases k <;> rfl

theorem conv_after {k k' : IntKind} (h : Wraps k k') (x : Int) (s : Step) (hc : s.1 = 6 → (k'.wrap x = k'.wrap s.2.1 ↔ x = s.2.1)) :
    after k' (k'.wrap x) (conv k' s) = (k'.wrap (after k x s).1, k'.wrap (after k x s).2) := by
  obtain ⟨d, y, z⟩ := s
  unfold after conv
  by_cases h1 : d = 1
  · simp [h1, wrap_zero]
  by_cases h2 : d = 2
  · simp [h2, h.add]
  by_cases h3 : d = 3
  · simp [h3, h.and_]
  by_cases h4 : d = 4
  · simp [h4, h.or_]
  by_cases h5 : d = 5
  · simp [h5]
  by_cases h6 : d = 6
  · have hc' := hc h6
    by_cases h7 : x = y
    · simp [h6, h7, wrap_one]
    · have : ¬ k'.wrap x = k'.wrap y := fun e => h7 (hc'.1 e)
      simp [h6, h7, this, wrap_zero]
  · simp [h1, h2, h3, h4, h5, h6]
theorem conv_run {k k' : IntKind} (h : Wraps k k') (ok : Int → Prop) (L : List Step) (x : Int) (hx : ok x) (hs : ∀ s ∈ L, ∀ x, ok x → (s.1 = 6 → (k'.wrap x = k'.wrap s.2.1 ↔ x = s.2.1)) ∧ ok (after k x s).2) :
    ans k' (k'.wrap x) (L.map (conv k')) = (ans k x L).map k'.wrap ∧ fin k' (k'.wrap x) (L.map (conv k')) = k'.wrap (fin k x L) := by
  induction L generalizing x with
  | nil => exact ⟨rfl, rfl⟩
  | cons s l ih =>
    obtain ⟨hc, hok⟩ := hs s (by simp) x hx
    have ha := conv_after h x s hc
    have := ih (after k x s).2 hok (fun s' h' => hs s' (by simp [h']))
    simp only [List.map_cons, ans, fin, ha]
    exact ⟨by rw [this.1], this.2⟩
theorem conv_signed {k k' : IntKind} (h : Wraps k k') (inj : ∀ x y, (Lit.int k x).wf = true → (Lit.int k y).wf = true → k'.wrap x = k'.wrap y → x = y) (L : List Step) (hL : ∀ s ∈ L, Wf k s) :
    ans k' 0 (L.map (conv k')) = (ans k 0 L).map k'.wrap ∧ fin k' 0 (L.map (conv k')) = k'.wrap (fin k 0 L) := by
  have := conv_run h (fun x => (Lit.int k x).wf = true) L 0 (wfK_small k 0 (.inl rfl)) (fun s hs x hx => ⟨fun _ => ⟨inj x s.2.1 hx (hL s hs).2.1, fun e => by rw [e]⟩, (after_wf k x s hx (hL s hs)).2⟩)
  rw [wrap_zero] at this
  exact this
theorem conv_low {k k' : IntKind} (h : Wraps k k') (L : List Step) (hL : ∀ s ∈ L, ¬ s.1 = 6) :
    ans k' 0 (L.map (conv k')) = (ans k 0 L).map k'.wrap ∧ fin k' 0 (L.map (conv k')) = k'.wrap (fin k 0 L) := by
  have := conv_run h (fun _ => True) L 0 trivial (fun s hs x _ => ⟨fun e => absurd e (hL s hs), trivial⟩)
  rw [wrap_zero] at this
  exact this

theorem ofInt_wrapI (k : IntKind) (x : Int) : BitVec.ofInt k.bits (k.wrap x) = BitVec.ofInt k.bits x := by
  apply BitVec.eq_of_toNat_eq
  rw [BitVec.toNat_ofInt, BitVec.toNat_ofInt]
  cases k <;> simp only [IntKind.wrap, IntKind.bits, IntKind.signed] <;> (try split) <;> omega
theorem wraps_32 : Wraps .i32 .u32 := by
  have hw : ∀ n, IntKind.u32.wrap (IntKind.i32.wrap n) = IntKind.u32.wrap n := by
    intro n; simp only [IntKind.wrap, IntKind.bits, IntKind.signed]; (repeat' split) <;> simp_all <;> omega
  refine ⟨fun x y => ?_, fun x y => ?_, fun x y => ?_⟩
  · unfold addK; rw [hw, wrap_left, wrap_right]
  · show IntKind.u32.wrap (IntKind.i32.wrap ((BitVec.ofInt 32 x &&& BitVec.ofInt 32 y).toNat : Int)) = IntKind.u32.wrap ((BitVec.ofInt IntKind.u32.bits (IntKind.u32.wrap x) &&& BitVec.ofInt IntKind.u32.bits (IntKind.u32.wrap y)).toNat : Int)
    rw [hw, ofInt_wrapI, ofInt_wrapI]; rfl
  · show IntKind.u32.wrap (IntKind.i32.wrap ((BitVec.ofInt 32 x ||| BitVec.ofInt 32 y).toNat : Int)) = IntKind.u32.wrap ((BitVec.ofInt IntKind.u32.bits (IntKind.u32.wrap x) ||| BitVec.ofInt IntKind.u32.bits (IntKind.u32.wrap y)).toNat : Int)
    rw [hw, ofInt_wrapI, ofInt_wrapI]; rfl
theorem wraps_64 : Wraps .i64 .u64 := by
  have hw : ∀ n, IntKind.u64.wrap (IntKind.i64.wrap n) = IntKind.u64.wrap n := by
    intro n; simp only [IntKind.wrap, IntKind.bits, IntKind.signed]; (repeat' split) <;> simp_all <;> omega
  refine ⟨fun x y => ?_, fun x y => ?_, fun x y => ?_⟩
  · unfold addK; rw [hw, wrap_left, wrap_right]
  · show IntKind.u64.wrap (IntKind.i64.wrap ((BitVec.ofInt 64 x &&& BitVec.ofInt 64 y).toNat : Int)) = IntKind.u64.wrap ((BitVec.ofInt IntKind.u64.bits (IntKind.u64.wrap x) &&& BitVec.ofInt IntKind.u64.bits (IntKind.u64.wrap y)).toNat : Int)
    rw [hw, ofInt_wrapI, ofInt_wrapI]; rfl
  · show IntKind.u64.wrap (IntKind.i64.wrap ((BitVec.ofInt 64 x ||| BitVec.ofInt 64 y).toNat : Int)) = IntKind.u64.wrap ((BitVec.ofInt IntKind.u64.bits (IntKind.u64.wrap x) ||| BitVec.ofInt IntKind.u64.bits (IntKind.u64.wrap y)).toNat : Int)
    rw [hw, ofInt_wrapI, ofInt_wrapI]; rfl
theorem ofInt_low (x : Int) : BitVec.ofInt 32 x = (BitVec.ofInt 64 x).setWidth 32 := by
  apply BitVec.eq_of_toNat_eq
  rw [BitVec.toNat_setWidth, BitVec.toNat_ofInt, BitVec.toNat_ofInt]
  omega
theorem wraps_low : Wraps .u64 .u32 := by
  have hw : ∀ n, IntKind.u32.wrap (IntKind.u64.wrap n) = IntKind.u32.wrap n := by
    intro n; simp only [IntKind.wrap, IntKind.bits, IntKind.signed]; simp
  have hl : ∀ a : BitVec 64, IntKind.u32.wrap (a.toNat : Int) = IntKind.u32.wrap ((a.setWidth 32).toNat : Int) := by
    intro a; rw [BitVec.toNat_setWidth]; simp only [IntKind.wrap, IntKind.bits, IntKind.signed]; simp
  refine ⟨fun x y => ?_, fun x y => ?_, fun x y => ?_⟩
  · unfold addK; rw [hw, wrap_left, wrap_right]
  · show IntKind.u32.wrap (IntKind.u64.wrap ((BitVec.ofInt 64 x &&& BitVec.ofInt 64 y).toNat : Int)) = IntKind.u32.wrap ((BitVec.ofInt IntKind.u32.bits (IntKind.u32.wrap x) &&& BitVec.ofInt IntKind.u32.bits (IntKind.u32.wrap y)).toNat : Int)
    rw [hw, ofInt_wrapI, ofInt_wrapI, hl, BitVec.setWidth_and, ← ofInt_low, ← ofInt_low]; rfl
  · show IntKind.u32.wrap (IntKind.u64.wrap ((BitVec.ofInt 64 x ||| BitVec.ofInt 64 y).toNat : Int)) = IntKind.u32.wrap ((BitVec.ofInt IntKind.u32.bits (IntKind.u32.wrap x) ||| BitVec.ofInt IntKind.u32.bits (IntKind.u32.wrap y)).toNat : Int)
    rw [hw, ofInt_wrapI, ofInt_wrapI, hl, BitVec.setWidth_or, ← ofInt_low, ← ofInt_low]; rfl
theorem inj_32 (x y : Int) (hx : (Lit.int .i32 x).wf = true) (hy : (Lit.int .i32 y).wf = true) (h : IntKind.u32.wrap x = IntKind.u32.wrap y) : x = y := by
  simp only [Lit.wf, IntKind.min, IntKind.max, IntKind.signed, IntKind.bits, Bool.and_eq_true, decide_eq_true_eq, IntKind.wrap] at hx hy h
  simp at hx hy h
  omega
theorem inj_64 (x y : Int) (hx : (Lit.int .i64 x).wf = true) (hy : (Lit.int .i64 y).wf = true) (h : IntKind.u64.wrap x = IntKind.u64.wrap y) : x = y := by
  simp only [Lit.wf, IntKind.min, IntKind.max, IntKind.signed, IntKind.bits, Bool.and_eq_true, decide_eq_true_eq, IntKind.wrap] at hx hy h
  simp at hx hy h
  omega
end Go.Proofs.Ytclhdhpjgabpeaa
