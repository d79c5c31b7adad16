/-
  Plain facts on the bits and sums of numbers of one kind: to set bits twice changes nothing; what a mask keeps and what the other mask keeps make the number; sums do not depend on the order. Conditions: where it is said, the number fits its kind.
-/
import Derived.Test.YtclhdhpjgabpeaaBase
namespace Go.Proofs.Ytclhdhpjgabpeaa
open Go.RowKit

theorem ofInt_wrap (k : IntKind) (v : BitVec k.bits) : BitVec.ofInt k.bits (k.wrap (v.toNat : Int)) = v := by
  apply BitVec.eq_of_toNat_eq
  rw [BitVec.toNat_ofInt]
  have h := v.isLt
  generalize v.toNat = a at h
  cases k <;> simp only [IntKind.wrap, IntKind.bits, IntKind.signed] at h ⊢ <;> (try split) <;> omega
theorem wrap_ofInt (k : IntKind) (x : Int) (hx : (Lit.int k x).wf = true) : k.wrap ((BitVec.ofInt k.bits x).toNat : Int) = x := by
  cases k <;> simp only [Lit.wf, IntKind.min, IntKind.max, IntKind.signed, IntKind.bits, Bool.and_eq_true, decide_eq_true_eq] at hx <;> simp [IntKind.wrap, IntKind.bits, IntKind.signed, BitVec.toNat_ofInt] <;> (try split) <;> simp_all <;> omega
theorem bits_and (k : IntKind) (x y : Int) : bits .and k x y = k.wrap ((BitVec.ofInt k.bits x &&& BitVec.ofInt k.bits y).toNat : Int) := rfl
theorem bits_or (k : IntKind) (x y : Int) : bits .or k x y = k.wrap ((BitVec.ofInt k.bits x ||| BitVec.ofInt k.bits y).toNat : Int) := rfl
theorem bits_xor (k : IntKind) (x y : Int) : bits .xor k x y = k.wrap ((BitVec.ofInt k.bits x ^^^ BitVec.ofInt k.bits y).toNat : Int) := rfl
theorem or_again (k : IntKind) (x y : Int) : bits .or k (bits .or k x y) y = bits .or k x y := by
  rw [bits_or k (bits .or k x y) y, bits_or k x y, ofInt_wrap, BitVec.or_assoc, BitVec.or_self]
theorem ofInt_ones (k : IntKind) : BitVec.ofInt k.bits (if k.signed then -1 else k.max) = BitVec.allOnes k.bits := by
  cases k <;> decide
theorem parted (k : IntKind) (x y : Int) (hx : (Lit.int k x).wf = true) : bits .or k (bits .and k x y) (bits .and k x (bits .xor k (if k.signed then -1 else k.max) y)) = x := by
  rw [bits_or, bits_and k x y, bits_and k x (bits .xor k _ y), bits_xor, ofInt_wrap, ofInt_wrap, ofInt_wrap, ofInt_ones]
  have e : (BitVec.ofInt k.bits x &&& BitVec.ofInt k.bits y) ||| (BitVec.ofInt k.bits x &&& (BitVec.allOnes k.bits ^^^ BitVec.ofInt k.bits y)) = BitVec.ofInt k.bits x := by
    ext i hi
    simp
    cases (BitVec.ofInt k.bits x)[i] <;> cases (BitVec.ofInt k.bits y)[i] <;> rfl
  rw [e, wrap_ofInt k x hx]
theorem apart_bits (k : IntKind) (x y : Int) : bits .and k (bits .and k x y) (bits .and k x (bits .xor k (if k.signed then -1 else k.max) y)) = 0 := by
  rw [bits_and k (bits .and k x y), bits_and k x y, bits_and k x (bits .xor k _ y), bits_xor, ofInt_wrap, ofInt_wrap, ofInt_wrap, ofInt_ones]
  have e : (BitVec.ofInt k.bits x &&& BitVec.ofInt k.bits y) &&& (BitVec.ofInt k.bits x &&& (BitVec.allOnes k.bits ^^^ BitVec.ofInt k.bits y)) = 0#k.bits := by
    ext i hi
    simp
    intro _ h _
    exact h
  rw [e]
  cases k <;> rfl
theorem wrap_left (k : IntKind) (x y : Int) : k.wrap (k.wrap x + y) = k.wrap (x + y) := by
  cases k <;> simp only [IntKind.wrap, IntKind.bits, IntKind.signed] <;> (repeat' split) <;> simp_all <;> omega
theorem wrap_right (k : IntKind) (x y : Int) : k.wrap (x + k.wrap y) = k.wrap (x + y) := by
  rw [Int.add_comm x, wrap_left, Int.add_comm y]
theorem add1 (k : IntKind) (c a : Int) : addK k c a = k.wrap (a + c) := by unfold addK; rw [Int.add_comm]
theorem add2 (k : IntKind) (c a b : Int) : addK k (addK k c b) a = addK k (addK k c a) b := by
  unfold addK; rw [wrap_left, wrap_left, show c + b + a = c + a + b from by omega]
theorem add3 (k : IntKind) (c a b : Int) : addK k (addK k (addK k c a) b) (k.wrap (-a)) = k.wrap (b + c) := by
  unfold addK; rw [wrap_right, wrap_left k (c + a), wrap_left, show c + a + b + -a = b + c from by omega]
theorem add4 (k : IntKind) (c a b : Int) : addK k (addK k (addK k c b) a) (k.wrap (-a)) = k.wrap (b + c) := by rw [add2 k c a b, add3]
theorem addP (k : IntKind) (a b c : Int) : fin k 0 [(1, c, 0), (2, a, 0), (2, b, 0), (2, k.wrap (-a), 0)] = k.wrap (b + c) ∧ ans k 0 [(1, c, 0), (2, a, 0), (2, b, 0), (2, k.wrap (-a), 0)] = [0, k.wrap (a + c), addK k (addK k c a) b, k.wrap (b + c)] := by
  constructor
  · simp [fin, after, add3]
  · simp [ans, after, add3]; exact add1 k c a
theorem addQ (k : IntKind) (a b c : Int) : fin k 0 [(1, c, 0), (2, b, 0), (2, a, 0), (2, k.wrap (-a), 0)] = k.wrap (b + c) ∧ ans k 0 [(1, c, 0), (2, b, 0), (2, a, 0), (2, k.wrap (-a), 0)] = [0, k.wrap (b + c), addK k (addK k c a) b, k.wrap (b + c)] := by
  constructor
  · simp [fin, after, add4]
  · simp [ans, after, add4]; exact ⟨add1 k c b, add2 k c a b⟩
end Go.Proofs.Ytclhdhpjgabpeaa
