/-
  No cell of these rows narrows 'for every input' (looked for: loops, veiled, ifaces, maps, wideKeys, modest, calm, conditions, laid).
  DERIVED. THE GIVEN ROWS OF THIS SEAT. 3 by the template 'for every input the law returns true; each argument reads behind the call as it read before'; 0 by the template 'total and deterministic' (their statements: YtclhdhpjgabpeaaTotals.lean).
  GIVEN WITH THE SEED: the statements are not yours to turn. If you find one false, say at which input.
  Laid BY PROGRAM, IN A SANDBOX (cutbox-rows.mjs): the forced cells as the released guide's own fill.sh prints them over the translation 0ede90f6b5bd4a34… (all of the seat's roots in one cut). By AI agents, Wed Nov 11 2026. No macro, syntax, notation, axiom, sorry.
-/
import Derived.Test.YtclhdhpjgabpeaaChecked
import GoSem.Claim
import GoSem.ClaimJoined
import GoSem.ClaimMapViews
import Derived.JoinedTies
import Derived.KernelRfl
namespace Go.Proofs.Ytclhdhpjgabpeaa
/- THE CELL 'sum', in the pinned program and in every row, IS THE sha256 OF THE DUMP (.gsa) THAT YtclhdhpjgabpeaaProg.lean LOADS. Nothing in Lean hashes anything: it is a label: what it is worth is what the hold of that sum in a sandbox is worth. -/
noncomputable def Try.pinned : Pinned := { name := "ytclhdhpjgabpeaa", sum := "0ede90f6b5bd4a34c7d26388610680f34c3091b5aee369f3060e9a73a0697c7d", checked := Try.checked }
namespace Rows
def none {H : Type} : Left H := { results := [], args := [] }

/-- 'laws.FnSignedInt32': WHATEVER THE INPUT: true; the input reads as it did. -/
def fnSignedInt32Spec : ChangeSpec := { name := "fnSignedInt32", fn := fun _ => fun
  | [d] => { results := [.lit (.bool true)], args := [d] }
  | _ => none }
def fnSignedInt32Row : OpenClaim := { program := "ytclhdhpjgabpeaa", sum := "0ede90f6b5bd4a34c7d26388610680f34c3091b5aee369f3060e9a73a0697c7d", func := "loop.example/lib-atomicvalues/laws.FnSignedInt32", spec := "fnSignedInt32", inPlace := ["sync/atomic.StoreInt32", "sync/atomic.AddInt32", "sync/atomic.AndInt32", "sync/atomic.OrInt32", "sync/atomic.SwapInt32", "sync/atomic.CompareAndSwapInt32", "sync/atomic.LoadInt32", "sync/atomic.StoreUint32", "sync/atomic.AddUint32", "sync/atomic.AndUint32", "sync/atomic.OrUint32", "sync/atomic.SwapUint32", "sync/atomic.CompareAndSwapUint32", "sync/atomic.LoadUint32"], apart := false }
def FnSignedInt32Said : Prop := fnSignedInt32Row.holds Try.pinned (OpenSpec.ofChange fnSignedInt32Spec)

/-- ITS FALSE NEIGHBOUR: 'it returns false'. Refute it at one input. -/
def fnSignedInt32Wrong : ChangeSpec := { name := "fnSignedInt32", fn := fun _ => fun
  | [d] => { results := [.lit (.bool false)], args := [d] }
  | _ => none }
def FnSignedInt32WrongFalsely : Prop := fnSignedInt32Row.holds Try.pinned (OpenSpec.ofChange fnSignedInt32Wrong)

/-- 'laws.FnLowBits': WHATEVER THE INPUT: true; the input reads as it did. -/
def fnLowBitsSpec : ChangeSpec := { name := "fnLowBits", fn := fun _ => fun
  | [d] => { results := [.lit (.bool true)], args := [d] }
  | _ => none }
def fnLowBitsRow : OpenClaim := { program := "ytclhdhpjgabpeaa", sum := "0ede90f6b5bd4a34c7d26388610680f34c3091b5aee369f3060e9a73a0697c7d", func := "loop.example/lib-atomicvalues/laws.FnLowBits", spec := "fnLowBits", inPlace := ["sync/atomic.StoreUint64", "sync/atomic.AddUint64", "sync/atomic.AndUint64", "sync/atomic.OrUint64", "sync/atomic.SwapUint64", "sync/atomic.CompareAndSwapUint64", "sync/atomic.LoadUint64", "sync/atomic.StoreUint32", "sync/atomic.AddUint32", "sync/atomic.AndUint32", "sync/atomic.OrUint32", "sync/atomic.SwapUint32", "sync/atomic.CompareAndSwapUint32", "sync/atomic.LoadUint32", "sync/atomic.StoreInt32", "sync/atomic.AddInt32", "sync/atomic.AndInt32", "sync/atomic.OrInt32", "sync/atomic.SwapInt32", "sync/atomic.CompareAndSwapInt32", "sync/atomic.LoadInt32"], apart := false }
def FnLowBitsSaid : Prop := fnLowBitsRow.holds Try.pinned (OpenSpec.ofChange fnLowBitsSpec)

/-- ITS FALSE NEIGHBOUR: 'it returns false'. Refute it at one input. -/
def fnLowBitsWrong : ChangeSpec := { name := "fnLowBits", fn := fun _ => fun
  | [d] => { results := [.lit (.bool false)], args := [d] }
  | _ => none }
def FnLowBitsWrongFalsely : Prop := fnLowBitsRow.holds Try.pinned (OpenSpec.ofChange fnLowBitsWrong)

/-- 'laws.FnSignedInt64': WHATEVER THE INPUT: true; the input reads as it did. -/
def fnSignedInt64Spec : ChangeSpec := { name := "fnSignedInt64", fn := fun _ => fun
  | [d] => { results := [.lit (.bool true)], args := [d] }
  | _ => none }
def fnSignedInt64Row : OpenClaim := { program := "ytclhdhpjgabpeaa", sum := "0ede90f6b5bd4a34c7d26388610680f34c3091b5aee369f3060e9a73a0697c7d", func := "loop.example/lib-atomicvalues/laws.FnSignedInt64", spec := "fnSignedInt64", inPlace := ["sync/atomic.StoreInt64", "sync/atomic.AddInt64", "sync/atomic.AndInt64", "sync/atomic.OrInt64", "sync/atomic.SwapInt64", "sync/atomic.CompareAndSwapInt64", "sync/atomic.LoadInt64", "sync/atomic.StoreUint64", "sync/atomic.AddUint64", "sync/atomic.AndUint64", "sync/atomic.OrUint64", "sync/atomic.SwapUint64", "sync/atomic.CompareAndSwapUint64", "sync/atomic.LoadUint64", "sync/atomic.StoreInt32", "sync/atomic.AddInt32", "sync/atomic.AndInt32", "sync/atomic.OrInt32", "sync/atomic.SwapInt32", "sync/atomic.CompareAndSwapInt32", "sync/atomic.LoadInt32"], apart := false }
def FnSignedInt64Said : Prop := fnSignedInt64Row.holds Try.pinned (OpenSpec.ofChange fnSignedInt64Spec)

/-- ITS FALSE NEIGHBOUR: 'it returns false'. Refute it at one input. -/
def fnSignedInt64Wrong : ChangeSpec := { name := "fnSignedInt64", fn := fun _ => fun
  | [d] => { results := [.lit (.bool false)], args := [d] }
  | _ => none }
def FnSignedInt64WrongFalsely : Prop := fnSignedInt64Row.holds Try.pinned (OpenSpec.ofChange fnSignedInt64Wrong)

/- THE SECOND FORM. 'bulk': how many values and letters a reading holds, each counted each time it is reached (what is shared counts as often as it is met; a slice's spare places count too). A statement '..UptoSaid' is the law's where the arguments, and the package variables that the reading takes, are together of bulk at most 1048576: NARROWER than '..Said'. Prove '..Said' where nothing that the law and all that it calls make is longer than what came in: it says more and counts as full. Else prove '..UptoSaid'. A law counts once. -/
mutual
def uptoBulk {H : Type} : DataW H → Nat
  | .lit (.string bytes) => bytes.length + 1
  | .lit _ => 1
  | .nil => 1
  | .ptr d => uptoBulk d + 1
  | .slice elems spare => uptoBulkAll elems + uptoBulkAll spare + 1
  | .agg parts => uptoBulkAll parts + 1
  | .iface _ d => uptoBulk d + 1
  | .map entries => uptoBulkEntries entries + 1
  | .held _ => 1
def uptoBulkAll {H : Type} : List (DataW H) → Nat
  | [] => 0
  | d :: r => uptoBulk d + uptoBulkAll r
def uptoBulkEntries {H : Type} : List (Lit × DataW H) → Nat
  | [] => 0
  | x :: r => uptoBulkEntry x + uptoBulkEntries r
def uptoBulkEntry {H : Type} : Lit × DataW H → Nat
  | (.string bytes, d) => bytes.length + uptoBulk d + 1
  | (_, d) => uptoBulk d + 1
 end
def uptoSmall : (H : Type) → List (DataW H) → Bool := fun _ ds => decide (uptoBulkAll ds ≤ 1048576)
def OpenSpec.upto (s : _root_.Go.ChangeSpec) : _root_.Go.OpenSpec := { _root_.Go.OpenSpec.ofChange s with cond := some uptoSmall }

/-- 'laws.FnSignedInt32', WHERE WHAT IT READS IS OF BULK AT MOST 1048576: true; the input reads as it did. -/
def fnSignedInt32UptoRow : OpenClaim := { program := "ytclhdhpjgabpeaa", sum := "0ede90f6b5bd4a34c7d26388610680f34c3091b5aee369f3060e9a73a0697c7d", func := "loop.example/lib-atomicvalues/laws.FnSignedInt32", spec := "fnSignedInt32", inPlace := ["sync/atomic.StoreInt32", "sync/atomic.AddInt32", "sync/atomic.AndInt32", "sync/atomic.OrInt32", "sync/atomic.SwapInt32", "sync/atomic.CompareAndSwapInt32", "sync/atomic.LoadInt32", "sync/atomic.StoreUint32", "sync/atomic.AddUint32", "sync/atomic.AndUint32", "sync/atomic.OrUint32", "sync/atomic.SwapUint32", "sync/atomic.CompareAndSwapUint32", "sync/atomic.LoadUint32"], apart := false, narrowed := true }
def FnSignedInt32UptoSaid : Prop := fnSignedInt32UptoRow.holds Try.pinned (OpenSpec.upto fnSignedInt32Spec)

/-- 'laws.FnLowBits', WHERE WHAT IT READS IS OF BULK AT MOST 1048576: true; the input reads as it did. -/
def fnLowBitsUptoRow : OpenClaim := { program := "ytclhdhpjgabpeaa", sum := "0ede90f6b5bd4a34c7d26388610680f34c3091b5aee369f3060e9a73a0697c7d", func := "loop.example/lib-atomicvalues/laws.FnLowBits", spec := "fnLowBits", inPlace := ["sync/atomic.StoreUint64", "sync/atomic.AddUint64", "sync/atomic.AndUint64", "sync/atomic.OrUint64", "sync/atomic.SwapUint64", "sync/atomic.CompareAndSwapUint64", "sync/atomic.LoadUint64", "sync/atomic.StoreUint32", "sync/atomic.AddUint32", "sync/atomic.AndUint32", "sync/atomic.OrUint32", "sync/atomic.SwapUint32", "sync/atomic.CompareAndSwapUint32", "sync/atomic.LoadUint32", "sync/atomic.StoreInt32", "sync/atomic.AddInt32", "sync/atomic.AndInt32", "sync/atomic.OrInt32", "sync/atomic.SwapInt32", "sync/atomic.CompareAndSwapInt32", "sync/atomic.LoadInt32"], apart := false, narrowed := true }
def FnLowBitsUptoSaid : Prop := fnLowBitsUptoRow.holds Try.pinned (OpenSpec.upto fnLowBitsSpec)

/-- 'laws.FnSignedInt64', WHERE WHAT IT READS IS OF BULK AT MOST 1048576: true; the input reads as it did. -/
def fnSignedInt64UptoRow : OpenClaim := { program := "ytclhdhpjgabpeaa", sum := "0ede90f6b5bd4a34c7d26388610680f34c3091b5aee369f3060e9a73a0697c7d", func := "loop.example/lib-atomicvalues/laws.FnSignedInt64", spec := "fnSignedInt64", inPlace := ["sync/atomic.StoreInt64", "sync/atomic.AddInt64", "sync/atomic.AndInt64", "sync/atomic.OrInt64", "sync/atomic.SwapInt64", "sync/atomic.CompareAndSwapInt64", "sync/atomic.LoadInt64", "sync/atomic.StoreUint64", "sync/atomic.AddUint64", "sync/atomic.AndUint64", "sync/atomic.OrUint64", "sync/atomic.SwapUint64", "sync/atomic.CompareAndSwapUint64", "sync/atomic.LoadUint64", "sync/atomic.StoreInt32", "sync/atomic.AddInt32", "sync/atomic.AndInt32", "sync/atomic.OrInt32", "sync/atomic.SwapInt32", "sync/atomic.CompareAndSwapInt32", "sync/atomic.LoadInt32"], apart := false, narrowed := true }
def FnSignedInt64UptoSaid : Prop := fnSignedInt64UptoRow.holds Try.pinned (OpenSpec.upto fnSignedInt64Spec)

end Rows
end Go.Proofs.Ytclhdhpjgabpeaa
