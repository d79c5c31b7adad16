/-
  No cell of these rows narrows 'for every input' (looked for: loops, veiled, ifaces, maps, wideKeys, modest, calm, conditions, laid).
  DERIVED. THE GIVEN ROWS OF THIS SEAT. 12 by the template 'for every input the law returns true; each argument reads behind the call as it read before'; 0 by the template 'total and deterministic' (their statements: YtabipgjebbmpgaaTotals.lean).
  GIVEN WITH THE SEED: the statements are not yours to turn. If you find one false, say at which input.
  Laid BY PROGRAM, IN A SANDBOX (cutbox-rows.mjs): the forced cells as the released guide's own fill.sh prints them over the translation c3d9bea110c89e1d… (all of the seat's roots in one cut). By AI agents, Wed Nov 11 2026. No macro, syntax, notation, axiom, sorry.
-/
import Derived.Test.YtabipgjebbmpgaaChecked
import GoSem.Claim
import GoSem.ClaimJoined
import GoSem.ClaimMapViews
import Derived.JoinedTies
import Derived.KernelRfl
namespace Go.Proofs.Ytabipgjebbmpgaa
/- THE CELL 'sum', in the pinned program and in every row, IS THE sha256 OF THE DUMP (.gsa) THAT YtabipgjebbmpgaaProg.lean LOADS. Nothing in Lean hashes anything: it is a label: what it is worth is what the hold of that sum in a sandbox is worth. -/
noncomputable def Try.pinned : Pinned := { name := "ytabipgjebbmpgaa", sum := "c3d9bea110c89e1d95c7a06a5051b2f2624f870e2b38a78eef35bae0871d523f", checked := Try.checked }
namespace Rows
def none {H : Type} : Left H := { results := [], args := [] }

/-- 'laws.FnExactCallsUint64': WHATEVER THE INPUT: true; the input reads as it did. -/
def fnExactCallsUint64Spec : ChangeSpec := { name := "fnExactCallsUint64", fn := fun _ => fun
  | [d] => { results := [.lit (.bool true)], args := [d] }
  | _ => none }
def fnExactCallsUint64Row : OpenClaim := { program := "ytabipgjebbmpgaa", sum := "c3d9bea110c89e1d95c7a06a5051b2f2624f870e2b38a78eef35bae0871d523f", func := "loop.example/lib-atomicvalues/laws.FnExactCallsUint64", spec := "fnExactCallsUint64", inPlace := ["sync/atomic.StoreUint64", "sync/atomic.AddUint64", "sync/atomic.AndUint64", "sync/atomic.OrUint64", "sync/atomic.SwapUint64", "sync/atomic.CompareAndSwapUint64", "sync/atomic.LoadUint64"], apart := false }
def FnExactCallsUint64Said : Prop := fnExactCallsUint64Row.holds Try.pinned (OpenSpec.ofChange fnExactCallsUint64Spec)

/-- ITS FALSE NEIGHBOUR: 'it returns false'. Refute it at one input. -/
def fnExactCallsUint64Wrong : ChangeSpec := { name := "fnExactCallsUint64", fn := fun _ => fun
  | [d] => { results := [.lit (.bool false)], args := [d] }
  | _ => none }
def FnExactCallsUint64WrongFalsely : Prop := fnExactCallsUint64Row.holds Try.pinned (OpenSpec.ofChange fnExactCallsUint64Wrong)

/-- 'laws.FnComparedUint64': WHATEVER THE INPUT: true; the input reads as it did. -/
def fnComparedUint64Spec : ChangeSpec := { name := "fnComparedUint64", fn := fun _ => fun
  | [d] => { results := [.lit (.bool true)], args := [d] }
  | _ => none }
def fnComparedUint64Row : OpenClaim := { program := "ytabipgjebbmpgaa", sum := "c3d9bea110c89e1d95c7a06a5051b2f2624f870e2b38a78eef35bae0871d523f", func := "loop.example/lib-atomicvalues/laws.FnComparedUint64", spec := "fnComparedUint64", inPlace := ["sync/atomic.StoreUint64", "sync/atomic.AddUint64", "sync/atomic.AndUint64", "sync/atomic.OrUint64", "sync/atomic.SwapUint64", "sync/atomic.CompareAndSwapUint64", "sync/atomic.LoadUint64"], apart := false }
def FnComparedUint64Said : Prop := fnComparedUint64Row.holds Try.pinned (OpenSpec.ofChange fnComparedUint64Spec)

/-- ITS FALSE NEIGHBOUR: 'it returns false'. Refute it at one input. -/
def fnComparedUint64Wrong : ChangeSpec := { name := "fnComparedUint64", fn := fun _ => fun
  | [d] => { results := [.lit (.bool false)], args := [d] }
  | _ => none }
def FnComparedUint64WrongFalsely : Prop := fnComparedUint64Row.holds Try.pinned (OpenSpec.ofChange fnComparedUint64Wrong)

/-- 'laws.FnExactRunUint64': WHATEVER THE INPUT: true; the input reads as it did. -/
def fnExactRunUint64Spec : ChangeSpec := { name := "fnExactRunUint64", fn := fun _ => fun
  | [d] => { results := [.lit (.bool true)], args := [d] }
  | _ => none }
def fnExactRunUint64Row : OpenClaim := { program := "ytabipgjebbmpgaa", sum := "c3d9bea110c89e1d95c7a06a5051b2f2624f870e2b38a78eef35bae0871d523f", func := "loop.example/lib-atomicvalues/laws.FnExactRunUint64", spec := "fnExactRunUint64", inPlace := ["sync/atomic.StoreUint64", "sync/atomic.AddUint64", "sync/atomic.AndUint64", "sync/atomic.OrUint64", "sync/atomic.SwapUint64", "sync/atomic.CompareAndSwapUint64", "sync/atomic.LoadUint64"], apart := false }
def FnExactRunUint64Said : Prop := fnExactRunUint64Row.holds Try.pinned (OpenSpec.ofChange fnExactRunUint64Spec)

/-- ITS FALSE NEIGHBOUR: 'it returns false'. Refute it at one input. -/
def fnExactRunUint64Wrong : ChangeSpec := { name := "fnExactRunUint64", fn := fun _ => fun
  | [d] => { results := [.lit (.bool false)], args := [d] }
  | _ => none }
def FnExactRunUint64WrongFalsely : Prop := fnExactRunUint64Row.holds Try.pinned (OpenSpec.ofChange fnExactRunUint64Wrong)

/-- 'laws.FnPartsUint64': WHATEVER THE INPUT: true; the input reads as it did. -/
def fnPartsUint64Spec : ChangeSpec := { name := "fnPartsUint64", fn := fun _ => fun
  | [d] => { results := [.lit (.bool true)], args := [d] }
  | _ => none }
def fnPartsUint64Row : OpenClaim := { program := "ytabipgjebbmpgaa", sum := "c3d9bea110c89e1d95c7a06a5051b2f2624f870e2b38a78eef35bae0871d523f", func := "loop.example/lib-atomicvalues/laws.FnPartsUint64", spec := "fnPartsUint64", inPlace := ["sync/atomic.StoreUint64", "sync/atomic.AddUint64", "sync/atomic.AndUint64", "sync/atomic.OrUint64", "sync/atomic.SwapUint64", "sync/atomic.CompareAndSwapUint64", "sync/atomic.LoadUint64"], apart := false }
def FnPartsUint64Said : Prop := fnPartsUint64Row.holds Try.pinned (OpenSpec.ofChange fnPartsUint64Spec)

/-- ITS FALSE NEIGHBOUR: 'it returns false'. Refute it at one input. -/
def fnPartsUint64Wrong : ChangeSpec := { name := "fnPartsUint64", fn := fun _ => fun
  | [d] => { results := [.lit (.bool false)], args := [d] }
  | _ => none }
def FnPartsUint64WrongFalsely : Prop := fnPartsUint64Row.holds Try.pinned (OpenSpec.ofChange fnPartsUint64Wrong)

/-- 'laws.FnStoredUint64': WHATEVER THE INPUT: true; the input reads as it did. -/
def fnStoredUint64Spec : ChangeSpec := { name := "fnStoredUint64", fn := fun _ => fun
  | [d] => { results := [.lit (.bool true)], args := [d] }
  | _ => none }
def fnStoredUint64Row : OpenClaim := { program := "ytabipgjebbmpgaa", sum := "c3d9bea110c89e1d95c7a06a5051b2f2624f870e2b38a78eef35bae0871d523f", func := "loop.example/lib-atomicvalues/laws.FnStoredUint64", spec := "fnStoredUint64", inPlace := ["sync/atomic.StoreUint64", "sync/atomic.AddUint64", "sync/atomic.AndUint64", "sync/atomic.OrUint64", "sync/atomic.SwapUint64", "sync/atomic.CompareAndSwapUint64", "sync/atomic.LoadUint64"], apart := false }
def FnStoredUint64Said : Prop := fnStoredUint64Row.holds Try.pinned (OpenSpec.ofChange fnStoredUint64Spec)

/-- ITS FALSE NEIGHBOUR: 'it returns false'. Refute it at one input. -/
def fnStoredUint64Wrong : ChangeSpec := { name := "fnStoredUint64", fn := fun _ => fun
  | [d] => { results := [.lit (.bool false)], args := [d] }
  | _ => none }
def FnStoredUint64WrongFalsely : Prop := fnStoredUint64Row.holds Try.pinned (OpenSpec.ofChange fnStoredUint64Wrong)

/-- 'laws.FnAddedByCompareUint64': WHATEVER THE INPUT: true; the input reads as it did. -/
def fnAddedByCompareUint64Spec : ChangeSpec := { name := "fnAddedByCompareUint64", fn := fun _ => fun
  | [d] => { results := [.lit (.bool true)], args := [d] }
  | _ => none }
def fnAddedByCompareUint64Row : OpenClaim := { program := "ytabipgjebbmpgaa", sum := "c3d9bea110c89e1d95c7a06a5051b2f2624f870e2b38a78eef35bae0871d523f", func := "loop.example/lib-atomicvalues/laws.FnAddedByCompareUint64", spec := "fnAddedByCompareUint64", inPlace := ["sync/atomic.StoreUint64", "sync/atomic.AddUint64", "sync/atomic.AndUint64", "sync/atomic.OrUint64", "sync/atomic.SwapUint64", "sync/atomic.CompareAndSwapUint64", "sync/atomic.LoadUint64", "sync/atomic.StoreInt32", "sync/atomic.AddInt32", "sync/atomic.AndInt32", "sync/atomic.OrInt32", "sync/atomic.SwapInt32", "sync/atomic.CompareAndSwapInt32", "sync/atomic.LoadInt32"], apart := false }
def FnAddedByCompareUint64Said : Prop := fnAddedByCompareUint64Row.holds Try.pinned (OpenSpec.ofChange fnAddedByCompareUint64Spec)

/-- ITS FALSE NEIGHBOUR: 'it returns false'. Refute it at one input. -/
def fnAddedByCompareUint64Wrong : ChangeSpec := { name := "fnAddedByCompareUint64", fn := fun _ => fun
  | [d] => { results := [.lit (.bool false)], args := [d] }
  | _ => none }
def FnAddedByCompareUint64WrongFalsely : Prop := fnAddedByCompareUint64Row.holds Try.pinned (OpenSpec.ofChange fnAddedByCompareUint64Wrong)

/-- 'laws.FnAddedUint64': WHATEVER THE INPUT: true; the input reads as it did. -/
def fnAddedUint64Spec : ChangeSpec := { name := "fnAddedUint64", fn := fun _ => fun
  | [d] => { results := [.lit (.bool true)], args := [d] }
  | _ => none }
def fnAddedUint64Row : OpenClaim := { program := "ytabipgjebbmpgaa", sum := "c3d9bea110c89e1d95c7a06a5051b2f2624f870e2b38a78eef35bae0871d523f", func := "loop.example/lib-atomicvalues/laws.FnAddedUint64", spec := "fnAddedUint64", inPlace := ["sync/atomic.StoreUint64", "sync/atomic.AddUint64", "sync/atomic.AndUint64", "sync/atomic.OrUint64", "sync/atomic.SwapUint64", "sync/atomic.CompareAndSwapUint64", "sync/atomic.LoadUint64", "sync/atomic.StoreInt32", "sync/atomic.AddInt32", "sync/atomic.AndInt32", "sync/atomic.OrInt32", "sync/atomic.SwapInt32", "sync/atomic.CompareAndSwapInt32", "sync/atomic.LoadInt32"], apart := false }
def FnAddedUint64Said : Prop := fnAddedUint64Row.holds Try.pinned (OpenSpec.ofChange fnAddedUint64Spec)

/-- ITS FALSE NEIGHBOUR: 'it returns false'. Refute it at one input. -/
def fnAddedUint64Wrong : ChangeSpec := { name := "fnAddedUint64", fn := fun _ => fun
  | [d] => { results := [.lit (.bool false)], args := [d] }
  | _ => none }
def FnAddedUint64WrongFalsely : Prop := fnAddedUint64Row.holds Try.pinned (OpenSpec.ofChange fnAddedUint64Wrong)

/-- 'laws.FnEmptyUint64': WHATEVER THE INPUT: true; the input reads as it did. -/
def fnEmptyUint64Spec : ChangeSpec := { name := "fnEmptyUint64", fn := fun _ => fun
  | [d] => { results := [.lit (.bool true)], args := [d] }
  | _ => none }
def fnEmptyUint64Row : OpenClaim := { program := "ytabipgjebbmpgaa", sum := "c3d9bea110c89e1d95c7a06a5051b2f2624f870e2b38a78eef35bae0871d523f", func := "loop.example/lib-atomicvalues/laws.FnEmptyUint64", spec := "fnEmptyUint64", inPlace := ["sync/atomic.StoreUint64", "sync/atomic.AddUint64", "sync/atomic.AndUint64", "sync/atomic.OrUint64", "sync/atomic.SwapUint64", "sync/atomic.CompareAndSwapUint64", "sync/atomic.LoadUint64", "sync/atomic.StoreInt32", "sync/atomic.AddInt32", "sync/atomic.AndInt32", "sync/atomic.OrInt32", "sync/atomic.SwapInt32", "sync/atomic.CompareAndSwapInt32", "sync/atomic.LoadInt32"], apart := false }
def FnEmptyUint64Said : Prop := fnEmptyUint64Row.holds Try.pinned (OpenSpec.ofChange fnEmptyUint64Spec)

/-- ITS FALSE NEIGHBOUR: 'it returns false'. Refute it at one input. -/
def fnEmptyUint64Wrong : ChangeSpec := { name := "fnEmptyUint64", fn := fun _ => fun
  | [d] => { results := [.lit (.bool false)], args := [d] }
  | _ => none }
def FnEmptyUint64WrongFalsely : Prop := fnEmptyUint64Row.holds Try.pinned (OpenSpec.ofChange fnEmptyUint64Wrong)

/-- 'laws.FnExchangedUint64': WHATEVER THE INPUT: true; the input reads as it did. -/
def fnExchangedUint64Spec : ChangeSpec := { name := "fnExchangedUint64", fn := fun _ => fun
  | [d] => { results := [.lit (.bool true)], args := [d] }
  | _ => none }
def fnExchangedUint64Row : OpenClaim := { program := "ytabipgjebbmpgaa", sum := "c3d9bea110c89e1d95c7a06a5051b2f2624f870e2b38a78eef35bae0871d523f", func := "loop.example/lib-atomicvalues/laws.FnExchangedUint64", spec := "fnExchangedUint64", inPlace := ["sync/atomic.StoreUint64", "sync/atomic.AddUint64", "sync/atomic.AndUint64", "sync/atomic.OrUint64", "sync/atomic.SwapUint64", "sync/atomic.CompareAndSwapUint64", "sync/atomic.LoadUint64", "sync/atomic.StoreInt32", "sync/atomic.AddInt32", "sync/atomic.AndInt32", "sync/atomic.OrInt32", "sync/atomic.SwapInt32", "sync/atomic.CompareAndSwapInt32", "sync/atomic.LoadInt32"], apart := false }
def FnExchangedUint64Said : Prop := fnExchangedUint64Row.holds Try.pinned (OpenSpec.ofChange fnExchangedUint64Spec)

/-- ITS FALSE NEIGHBOUR: 'it returns false'. Refute it at one input. -/
def fnExchangedUint64Wrong : ChangeSpec := { name := "fnExchangedUint64", fn := fun _ => fun
  | [d] => { results := [.lit (.bool false)], args := [d] }
  | _ => none }
def FnExchangedUint64WrongFalsely : Prop := fnExchangedUint64Row.holds Try.pinned (OpenSpec.ofChange fnExchangedUint64Wrong)

/-- 'laws.FnMaskedUint64': WHATEVER THE INPUT: true; the input reads as it did. -/
def fnMaskedUint64Spec : ChangeSpec := { name := "fnMaskedUint64", fn := fun _ => fun
  | [d] => { results := [.lit (.bool true)], args := [d] }
  | _ => none }
def fnMaskedUint64Row : OpenClaim := { program := "ytabipgjebbmpgaa", sum := "c3d9bea110c89e1d95c7a06a5051b2f2624f870e2b38a78eef35bae0871d523f", func := "loop.example/lib-atomicvalues/laws.FnMaskedUint64", spec := "fnMaskedUint64", inPlace := ["sync/atomic.StoreUint64", "sync/atomic.AddUint64", "sync/atomic.AndUint64", "sync/atomic.OrUint64", "sync/atomic.SwapUint64", "sync/atomic.CompareAndSwapUint64", "sync/atomic.LoadUint64", "sync/atomic.StoreInt32", "sync/atomic.AddInt32", "sync/atomic.AndInt32", "sync/atomic.OrInt32", "sync/atomic.SwapInt32", "sync/atomic.CompareAndSwapInt32", "sync/atomic.LoadInt32"], apart := false }
def FnMaskedUint64Said : Prop := fnMaskedUint64Row.holds Try.pinned (OpenSpec.ofChange fnMaskedUint64Spec)

/-- ITS FALSE NEIGHBOUR: 'it returns false'. Refute it at one input. -/
def fnMaskedUint64Wrong : ChangeSpec := { name := "fnMaskedUint64", fn := fun _ => fun
  | [d] => { results := [.lit (.bool false)], args := [d] }
  | _ => none }
def FnMaskedUint64WrongFalsely : Prop := fnMaskedUint64Row.holds Try.pinned (OpenSpec.ofChange fnMaskedUint64Wrong)

/-- 'laws.FnPartedUint64': WHATEVER THE INPUT: true; the input reads as it did. -/
def fnPartedUint64Spec : ChangeSpec := { name := "fnPartedUint64", fn := fun _ => fun
  | [d] => { results := [.lit (.bool true)], args := [d] }
  | _ => none }
def fnPartedUint64Row : OpenClaim := { program := "ytabipgjebbmpgaa", sum := "c3d9bea110c89e1d95c7a06a5051b2f2624f870e2b38a78eef35bae0871d523f", func := "loop.example/lib-atomicvalues/laws.FnPartedUint64", spec := "fnPartedUint64", inPlace := ["sync/atomic.StoreUint64", "sync/atomic.AddUint64", "sync/atomic.AndUint64", "sync/atomic.OrUint64", "sync/atomic.SwapUint64", "sync/atomic.CompareAndSwapUint64", "sync/atomic.LoadUint64", "sync/atomic.StoreInt32", "sync/atomic.AddInt32", "sync/atomic.AndInt32", "sync/atomic.OrInt32", "sync/atomic.SwapInt32", "sync/atomic.CompareAndSwapInt32", "sync/atomic.LoadInt32"], apart := false }
def FnPartedUint64Said : Prop := fnPartedUint64Row.holds Try.pinned (OpenSpec.ofChange fnPartedUint64Spec)

/-- ITS FALSE NEIGHBOUR: 'it returns false'. Refute it at one input. -/
def fnPartedUint64Wrong : ChangeSpec := { name := "fnPartedUint64", fn := fun _ => fun
  | [d] => { results := [.lit (.bool false)], args := [d] }
  | _ => none }
def FnPartedUint64WrongFalsely : Prop := fnPartedUint64Row.holds Try.pinned (OpenSpec.ofChange fnPartedUint64Wrong)

/-- 'laws.FnRoadsUint64': WHATEVER THE INPUT: true; the input reads as it did. -/
def fnRoadsUint64Spec : ChangeSpec := { name := "fnRoadsUint64", fn := fun _ => fun
  | [d] => { results := [.lit (.bool true)], args := [d] }
  | _ => none }
def fnRoadsUint64Row : OpenClaim := { program := "ytabipgjebbmpgaa", sum := "c3d9bea110c89e1d95c7a06a5051b2f2624f870e2b38a78eef35bae0871d523f", func := "loop.example/lib-atomicvalues/laws.FnRoadsUint64", spec := "fnRoadsUint64", inPlace := ["sync/atomic.StoreUint64", "sync/atomic.AddUint64", "sync/atomic.AndUint64", "sync/atomic.OrUint64", "sync/atomic.SwapUint64", "sync/atomic.CompareAndSwapUint64", "sync/atomic.LoadUint64", "sync/atomic.StoreInt32", "sync/atomic.AddInt32", "sync/atomic.AndInt32", "sync/atomic.OrInt32", "sync/atomic.SwapInt32", "sync/atomic.CompareAndSwapInt32", "sync/atomic.LoadInt32"], apart := false }
def FnRoadsUint64Said : Prop := fnRoadsUint64Row.holds Try.pinned (OpenSpec.ofChange fnRoadsUint64Spec)

/-- ITS FALSE NEIGHBOUR: 'it returns false'. Refute it at one input. -/
def fnRoadsUint64Wrong : ChangeSpec := { name := "fnRoadsUint64", fn := fun _ => fun
  | [d] => { results := [.lit (.bool false)], args := [d] }
  | _ => none }
def FnRoadsUint64WrongFalsely : Prop := fnRoadsUint64Row.holds Try.pinned (OpenSpec.ofChange fnRoadsUint64Wrong)

/- THE SECOND FORM. 'bulk': how many values and letters a reading holds, each counted each time it is reached (what is shared counts as often as it is met; a slice's spare places count too). A statement '..UptoSaid' is the law's where the arguments, and the package variables that the reading takes, are together of bulk at most 1048576: NARROWER than '..Said'. Prove '..Said' where nothing that the law and all that it calls make is longer than what came in: it says more and counts as full. Else prove '..UptoSaid'. A law counts once. -/
mutual
def uptoBulk {H : Type} : DataW H → Nat
  | .lit (.string bytes) => bytes.length + 1
  | .lit _ => 1
  | .nil => 1
  | .ptr d => uptoBulk d + 1
  | .slice elems spare => uptoBulkAll elems + uptoBulkAll spare + 1
  | .agg parts => uptoBulkAll parts + 1
  | .iface _ d => uptoBulk d + 1
  | .map entries => uptoBulkEntries entries + 1
  | .held _ => 1
def uptoBulkAll {H : Type} : List (DataW H) → Nat
  | [] => 0
  | d :: r => uptoBulk d + uptoBulkAll r
def uptoBulkEntries {H : Type} : List (Lit × DataW H) → Nat
  | [] => 0
  | x :: r => uptoBulkEntry x + uptoBulkEntries r
def uptoBulkEntry {H : Type} : Lit × DataW H → Nat
  | (.string bytes, d) => bytes.length + uptoBulk d + 1
  | (_, d) => uptoBulk d + 1
 end
def uptoSmall : (H : Type) → List (DataW H) → Bool := fun _ ds => decide (uptoBulkAll ds ≤ 1048576)
def OpenSpec.upto (s : _root_.Go.ChangeSpec) : _root_.Go.OpenSpec := { _root_.Go.OpenSpec.ofChange s with cond := some uptoSmall }

/-- 'laws.FnExactCallsUint64', WHERE WHAT IT READS IS OF BULK AT MOST 1048576: true; the input reads as it did. -/
def fnExactCallsUint64UptoRow : OpenClaim := { program := "ytabipgjebbmpgaa", sum := "c3d9bea110c89e1d95c7a06a5051b2f2624f870e2b38a78eef35bae0871d523f", func := "loop.example/lib-atomicvalues/laws.FnExactCallsUint64", spec := "fnExactCallsUint64", inPlace := ["sync/atomic.StoreUint64", "sync/atomic.AddUint64", "sync/atomic.AndUint64", "sync/atomic.OrUint64", "sync/atomic.SwapUint64", "sync/atomic.CompareAndSwapUint64", "sync/atomic.LoadUint64"], apart := false, narrowed := true }
def FnExactCallsUint64UptoSaid : Prop := fnExactCallsUint64UptoRow.holds Try.pinned (OpenSpec.upto fnExactCallsUint64Spec)

/-- 'laws.FnComparedUint64', WHERE WHAT IT READS IS OF BULK AT MOST 1048576: true; the input reads as it did. -/
def fnComparedUint64UptoRow : OpenClaim := { program := "ytabipgjebbmpgaa", sum := "c3d9bea110c89e1d95c7a06a5051b2f2624f870e2b38a78eef35bae0871d523f", func := "loop.example/lib-atomicvalues/laws.FnComparedUint64", spec := "fnComparedUint64", inPlace := ["sync/atomic.StoreUint64", "sync/atomic.AddUint64", "sync/atomic.AndUint64", "sync/atomic.OrUint64", "sync/atomic.SwapUint64", "sync/atomic.CompareAndSwapUint64", "sync/atomic.LoadUint64"], apart := false, narrowed := true }
def FnComparedUint64UptoSaid : Prop := fnComparedUint64UptoRow.holds Try.pinned (OpenSpec.upto fnComparedUint64Spec)

/-- 'laws.FnExactRunUint64', WHERE WHAT IT READS IS OF BULK AT MOST 1048576: true; the input reads as it did. -/
def fnExactRunUint64UptoRow : OpenClaim := { program := "ytabipgjebbmpgaa", sum := "c3d9bea110c89e1d95c7a06a5051b2f2624f870e2b38a78eef35bae0871d523f", func := "loop.example/lib-atomicvalues/laws.FnExactRunUint64", spec := "fnExactRunUint64", inPlace := ["sync/atomic.StoreUint64", "sync/atomic.AddUint64", "sync/atomic.AndUint64", "sync/atomic.OrUint64", "sync/atomic.SwapUint64", "sync/atomic.CompareAndSwapUint64", "sync/atomic.LoadUint64"], apart := false, narrowed := true }
def FnExactRunUint64UptoSaid : Prop := fnExactRunUint64UptoRow.holds Try.pinned (OpenSpec.upto fnExactRunUint64Spec)

/-- 'laws.FnPartsUint64', WHERE WHAT IT READS IS OF BULK AT MOST 1048576: true; the input reads as it did. -/
def fnPartsUint64UptoRow : OpenClaim := { program := "ytabipgjebbmpgaa", sum := "c3d9bea110c89e1d95c7a06a5051b2f2624f870e2b38a78eef35bae0871d523f", func := "loop.example/lib-atomicvalues/laws.FnPartsUint64", spec := "fnPartsUint64", inPlace := ["sync/atomic.StoreUint64", "sync/atomic.AddUint64", "sync/atomic.AndUint64", "sync/atomic.OrUint64", "sync/atomic.SwapUint64", "sync/atomic.CompareAndSwapUint64", "sync/atomic.LoadUint64"], apart := false, narrowed := true }
def FnPartsUint64UptoSaid : Prop := fnPartsUint64UptoRow.holds Try.pinned (OpenSpec.upto fnPartsUint64Spec)

/-- 'laws.FnStoredUint64', WHERE WHAT IT READS IS OF BULK AT MOST 1048576: true; the input reads as it did. -/
def fnStoredUint64UptoRow : OpenClaim := { program := "ytabipgjebbmpgaa", sum := "c3d9bea110c89e1d95c7a06a5051b2f2624f870e2b38a78eef35bae0871d523f", func := "loop.example/lib-atomicvalues/laws.FnStoredUint64", spec := "fnStoredUint64", inPlace := ["sync/atomic.StoreUint64", "sync/atomic.AddUint64", "sync/atomic.AndUint64", "sync/atomic.OrUint64", "sync/atomic.SwapUint64", "sync/atomic.CompareAndSwapUint64", "sync/atomic.LoadUint64"], apart := false, narrowed := true }
def FnStoredUint64UptoSaid : Prop := fnStoredUint64UptoRow.holds Try.pinned (OpenSpec.upto fnStoredUint64Spec)

/-- 'laws.FnAddedByCompareUint64', WHERE WHAT IT READS IS OF BULK AT MOST 1048576: true; the input reads as it did. -/
def fnAddedByCompareUint64UptoRow : OpenClaim := { program := "ytabipgjebbmpgaa", sum := "c3d9bea110c89e1d95c7a06a5051b2f2624f870e2b38a78eef35bae0871d523f", func := "loop.example/lib-atomicvalues/laws.FnAddedByCompareUint64", spec := "fnAddedByCompareUint64", inPlace := ["sync/atomic.StoreUint64", "sync/atomic.AddUint64", "sync/atomic.AndUint64", "sync/atomic.OrUint64", "sync/atomic.SwapUint64", "sync/atomic.CompareAndSwapUint64", "sync/atomic.LoadUint64", "sync/atomic.StoreInt32", "sync/atomic.AddInt32", "sync/atomic.AndInt32", "sync/atomic.OrInt32", "sync/atomic.SwapInt32", "sync/atomic.CompareAndSwapInt32", "sync/atomic.LoadInt32"], apart := false, narrowed := true }
def FnAddedByCompareUint64UptoSaid : Prop := fnAddedByCompareUint64UptoRow.holds Try.pinned (OpenSpec.upto fnAddedByCompareUint64Spec)

/-- 'laws.FnAddedUint64', WHERE WHAT IT READS IS OF BULK AT MOST 1048576: true; the input reads as it did. -/
def fnAddedUint64UptoRow : OpenClaim := { program := "ytabipgjebbmpgaa", sum := "c3d9bea110c89e1d95c7a06a5051b2f2624f870e2b38a78eef35bae0871d523f", func := "loop.example/lib-atomicvalues/laws.FnAddedUint64", spec := "fnAddedUint64", inPlace := ["sync/atomic.StoreUint64", "sync/atomic.AddUint64", "sync/atomic.AndUint64", "sync/atomic.OrUint64", "sync/atomic.SwapUint64", "sync/atomic.CompareAndSwapUint64", "sync/atomic.LoadUint64", "sync/atomic.StoreInt32", "sync/atomic.AddInt32", "sync/atomic.AndInt32", "sync/atomic.OrInt32", "sync/atomic.SwapInt32", "sync/atomic.CompareAndSwapInt32", "sync/atomic.LoadInt32"], apart := false, narrowed := true }
def FnAddedUint64UptoSaid : Prop := fnAddedUint64UptoRow.holds Try.pinned (OpenSpec.upto fnAddedUint64Spec)

/-- 'laws.FnEmptyUint64', WHERE WHAT IT READS IS OF BULK AT MOST 1048576: true; the input reads as it did. -/
def fnEmptyUint64UptoRow : OpenClaim := { program := "ytabipgjebbmpgaa", sum := "c3d9bea110c89e1d95c7a06a5051b2f2624f870e2b38a78eef35bae0871d523f", func := "loop.example/lib-atomicvalues/laws.FnEmptyUint64", spec := "fnEmptyUint64", inPlace := ["sync/atomic.StoreUint64", "sync/atomic.AddUint64", "sync/atomic.AndUint64", "sync/atomic.OrUint64", "sync/atomic.SwapUint64", "sync/atomic.CompareAndSwapUint64", "sync/atomic.LoadUint64", "sync/atomic.StoreInt32", "sync/atomic.AddInt32", "sync/atomic.AndInt32", "sync/atomic.OrInt32", "sync/atomic.SwapInt32", "sync/atomic.CompareAndSwapInt32", "sync/atomic.LoadInt32"], apart := false, narrowed := true }
def FnEmptyUint64UptoSaid : Prop := fnEmptyUint64UptoRow.holds Try.pinned (OpenSpec.upto fnEmptyUint64Spec)

/-- 'laws.FnExchangedUint64', WHERE WHAT IT READS IS OF BULK AT MOST 1048576: true; the input reads as it did. -/
def fnExchangedUint64UptoRow : OpenClaim := { program := "ytabipgjebbmpgaa", sum := "c3d9bea110c89e1d95c7a06a5051b2f2624f870e2b38a78eef35bae0871d523f", func := "loop.example/lib-atomicvalues/laws.FnExchangedUint64", spec := "fnExchangedUint64", inPlace := ["sync/atomic.StoreUint64", "sync/atomic.AddUint64", "sync/atomic.AndUint64", "sync/atomic.OrUint64", "sync/atomic.SwapUint64", "sync/atomic.CompareAndSwapUint64", "sync/atomic.LoadUint64", "sync/atomic.StoreInt32", "sync/atomic.AddInt32", "sync/atomic.AndInt32", "sync/atomic.OrInt32", "sync/atomic.SwapInt32", "sync/atomic.CompareAndSwapInt32", "sync/atomic.LoadInt32"], apart := false, narrowed := true }
def FnExchangedUint64UptoSaid : Prop := fnExchangedUint64UptoRow.holds Try.pinned (OpenSpec.upto fnExchangedUint64Spec)

/-- 'laws.FnMaskedUint64', WHERE WHAT IT READS IS OF BULK AT MOST 1048576: true; the input reads as it did. -/
def fnMaskedUint64UptoRow : OpenClaim := { program := "ytabipgjebbmpgaa", sum := "c3d9bea110c89e1d95c7a06a5051b2f2624f870e2b38a78eef35bae0871d523f", func := "loop.example/lib-atomicvalues/laws.FnMaskedUint64", spec := "fnMaskedUint64", inPlace := ["sync/atomic.StoreUint64", "sync/atomic.AddUint64", "sync/atomic.AndUint64", "sync/atomic.OrUint64", "sync/atomic.SwapUint64", "sync/atomic.CompareAndSwapUint64", "sync/atomic.LoadUint64", "sync/atomic.StoreInt32", "sync/atomic.AddInt32", "sync/atomic.AndInt32", "sync/atomic.OrInt32", "sync/atomic.SwapInt32", "sync/atomic.CompareAndSwapInt32", "sync/atomic.LoadInt32"], apart := false, narrowed := true }
def FnMaskedUint64UptoSaid : Prop := fnMaskedUint64UptoRow.holds Try.pinned (OpenSpec.upto fnMaskedUint64Spec)

/-- 'laws.FnPartedUint64', WHERE WHAT IT READS IS OF BULK AT MOST 1048576: true; the input reads as it did. -/
def fnPartedUint64UptoRow : OpenClaim := { program := "ytabipgjebbmpgaa", sum := "c3d9bea110c89e1d95c7a06a5051b2f2624f870e2b38a78eef35bae0871d523f", func := "loop.example/lib-atomicvalues/laws.FnPartedUint64", spec := "fnPartedUint64", inPlace := ["sync/atomic.StoreUint64", "sync/atomic.AddUint64", "sync/atomic.AndUint64", "sync/atomic.OrUint64", "sync/atomic.SwapUint64", "sync/atomic.CompareAndSwapUint64", "sync/atomic.LoadUint64", "sync/atomic.StoreInt32", "sync/atomic.AddInt32", "sync/atomic.AndInt32", "sync/atomic.OrInt32", "sync/atomic.SwapInt32", "sync/atomic.CompareAndSwapInt32", "sync/atomic.LoadInt32"], apart := false, narrowed := true }
def FnPartedUint64UptoSaid : Prop := fnPartedUint64UptoRow.holds Try.pinned (OpenSpec.upto fnPartedUint64Spec)

/-- 'laws.FnRoadsUint64', WHERE WHAT IT READS IS OF BULK AT MOST 1048576: true; the input reads as it did. -/
def fnRoadsUint64UptoRow : OpenClaim := { program := "ytabipgjebbmpgaa", sum := "c3d9bea110c89e1d95c7a06a5051b2f2624f870e2b38a78eef35bae0871d523f", func := "loop.example/lib-atomicvalues/laws.FnRoadsUint64", spec := "fnRoadsUint64", inPlace := ["sync/atomic.StoreUint64", "sync/atomic.AddUint64", "sync/atomic.AndUint64", "sync/atomic.OrUint64", "sync/atomic.SwapUint64", "sync/atomic.CompareAndSwapUint64", "sync/atomic.LoadUint64", "sync/atomic.StoreInt32", "sync/atomic.AddInt32", "sync/atomic.AndInt32", "sync/atomic.OrInt32", "sync/atomic.SwapInt32", "sync/atomic.CompareAndSwapInt32", "sync/atomic.LoadInt32"], apart := false, narrowed := true }
def FnRoadsUint64UptoSaid : Prop := fnRoadsUint64UptoRow.holds Try.pinned (OpenSpec.upto fnRoadsUint64Spec)

end Rows
end Go.Proofs.Ytabipgjebbmpgaa
