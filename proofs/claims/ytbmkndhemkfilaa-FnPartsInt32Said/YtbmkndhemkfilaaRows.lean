/-
  No cell of these rows narrows 'for every input' (looked for: loops, veiled, ifaces, maps, wideKeys, modest, calm, conditions, laid).
  DERIVED. THE GIVEN ROWS OF THIS SEAT. 12 by the template 'for every input the law returns true; each argument reads behind the call as it read before'; 0 by the template 'total and deterministic' (their statements: YtbmkndhemkfilaaTotals.lean).
  GIVEN WITH THE SEED: the statements are not yours to turn. If you find one false, say at which input.
  Laid BY PROGRAM, IN A SANDBOX (cutbox-rows.mjs): the forced cells as the released guide's own fill.sh prints them over the translation a44a933e8f957d88… (all of the seat's roots in one cut). By AI agents, Wed Nov 11 2026. No macro, syntax, notation, axiom, sorry.
-/
import Derived.Test.YtbmkndhemkfilaaChecked
import GoSem.Claim
import GoSem.ClaimJoined
import GoSem.ClaimMapViews
import Derived.JoinedTies
import Derived.KernelRfl
namespace Go.Proofs.Ytbmkndhemkfilaa
/- THE CELL 'sum', in the pinned program and in every row, IS THE sha256 OF THE DUMP (.gsa) THAT YtbmkndhemkfilaaProg.lean LOADS. Nothing in Lean hashes anything: it is a label: what it is worth is what the hold of that sum in a sandbox is worth. -/
noncomputable def Try.pinned : Pinned := { name := "ytbmkndhemkfilaa", sum := "a44a933e8f957d88fad3effa10447753af01453bd3ee4e9a7fde1ea5d515e514", checked := Try.checked }
namespace Rows
def none {H : Type} : Left H := { results := [], args := [] }

/-- 'laws.FnExactCallsInt32': WHATEVER THE INPUT: true; the input reads as it did. -/
def fnExactCallsInt32Spec : ChangeSpec := { name := "fnExactCallsInt32", fn := fun _ => fun
  | [d] => { results := [.lit (.bool true)], args := [d] }
  | _ => none }
def fnExactCallsInt32Row : OpenClaim := { program := "ytbmkndhemkfilaa", sum := "a44a933e8f957d88fad3effa10447753af01453bd3ee4e9a7fde1ea5d515e514", func := "loop.example/lib-atomicvalues/laws.FnExactCallsInt32", spec := "fnExactCallsInt32", inPlace := ["sync/atomic.StoreInt32", "sync/atomic.AddInt32", "sync/atomic.AndInt32", "sync/atomic.OrInt32", "sync/atomic.SwapInt32", "sync/atomic.CompareAndSwapInt32", "sync/atomic.LoadInt32"], apart := false }
def FnExactCallsInt32Said : Prop := fnExactCallsInt32Row.holds Try.pinned (OpenSpec.ofChange fnExactCallsInt32Spec)

/-- ITS FALSE NEIGHBOUR: 'it returns false'. Refute it at one input. -/
def fnExactCallsInt32Wrong : ChangeSpec := { name := "fnExactCallsInt32", fn := fun _ => fun
  | [d] => { results := [.lit (.bool false)], args := [d] }
  | _ => none }
def FnExactCallsInt32WrongFalsely : Prop := fnExactCallsInt32Row.holds Try.pinned (OpenSpec.ofChange fnExactCallsInt32Wrong)

/-- 'laws.FnAddedByCompareInt32': WHATEVER THE INPUT: true; the input reads as it did. -/
def fnAddedByCompareInt32Spec : ChangeSpec := { name := "fnAddedByCompareInt32", fn := fun _ => fun
  | [d] => { results := [.lit (.bool true)], args := [d] }
  | _ => none }
def fnAddedByCompareInt32Row : OpenClaim := { program := "ytbmkndhemkfilaa", sum := "a44a933e8f957d88fad3effa10447753af01453bd3ee4e9a7fde1ea5d515e514", func := "loop.example/lib-atomicvalues/laws.FnAddedByCompareInt32", spec := "fnAddedByCompareInt32", inPlace := ["sync/atomic.StoreInt32", "sync/atomic.AddInt32", "sync/atomic.AndInt32", "sync/atomic.OrInt32", "sync/atomic.SwapInt32", "sync/atomic.CompareAndSwapInt32", "sync/atomic.LoadInt32"], apart := false }
def FnAddedByCompareInt32Said : Prop := fnAddedByCompareInt32Row.holds Try.pinned (OpenSpec.ofChange fnAddedByCompareInt32Spec)

/-- ITS FALSE NEIGHBOUR: 'it returns false'. Refute it at one input. -/
def fnAddedByCompareInt32Wrong : ChangeSpec := { name := "fnAddedByCompareInt32", fn := fun _ => fun
  | [d] => { results := [.lit (.bool false)], args := [d] }
  | _ => none }
def FnAddedByCompareInt32WrongFalsely : Prop := fnAddedByCompareInt32Row.holds Try.pinned (OpenSpec.ofChange fnAddedByCompareInt32Wrong)

/-- 'laws.FnAddedInt32': WHATEVER THE INPUT: true; the input reads as it did. -/
def fnAddedInt32Spec : ChangeSpec := { name := "fnAddedInt32", fn := fun _ => fun
  | [d] => { results := [.lit (.bool true)], args := [d] }
  | _ => none }
def fnAddedInt32Row : OpenClaim := { program := "ytbmkndhemkfilaa", sum := "a44a933e8f957d88fad3effa10447753af01453bd3ee4e9a7fde1ea5d515e514", func := "loop.example/lib-atomicvalues/laws.FnAddedInt32", spec := "fnAddedInt32", inPlace := ["sync/atomic.StoreInt32", "sync/atomic.AddInt32", "sync/atomic.AndInt32", "sync/atomic.OrInt32", "sync/atomic.SwapInt32", "sync/atomic.CompareAndSwapInt32", "sync/atomic.LoadInt32"], apart := false }
def FnAddedInt32Said : Prop := fnAddedInt32Row.holds Try.pinned (OpenSpec.ofChange fnAddedInt32Spec)

/-- ITS FALSE NEIGHBOUR: 'it returns false'. Refute it at one input. -/
def fnAddedInt32Wrong : ChangeSpec := { name := "fnAddedInt32", fn := fun _ => fun
  | [d] => { results := [.lit (.bool false)], args := [d] }
  | _ => none }
def FnAddedInt32WrongFalsely : Prop := fnAddedInt32Row.holds Try.pinned (OpenSpec.ofChange fnAddedInt32Wrong)

/-- 'laws.FnComparedInt32': WHATEVER THE INPUT: true; the input reads as it did. -/
def fnComparedInt32Spec : ChangeSpec := { name := "fnComparedInt32", fn := fun _ => fun
  | [d] => { results := [.lit (.bool true)], args := [d] }
  | _ => none }
def fnComparedInt32Row : OpenClaim := { program := "ytbmkndhemkfilaa", sum := "a44a933e8f957d88fad3effa10447753af01453bd3ee4e9a7fde1ea5d515e514", func := "loop.example/lib-atomicvalues/laws.FnComparedInt32", spec := "fnComparedInt32", inPlace := ["sync/atomic.StoreInt32", "sync/atomic.AddInt32", "sync/atomic.AndInt32", "sync/atomic.OrInt32", "sync/atomic.SwapInt32", "sync/atomic.CompareAndSwapInt32", "sync/atomic.LoadInt32"], apart := false }
def FnComparedInt32Said : Prop := fnComparedInt32Row.holds Try.pinned (OpenSpec.ofChange fnComparedInt32Spec)

/-- ITS FALSE NEIGHBOUR: 'it returns false'. Refute it at one input. -/
def fnComparedInt32Wrong : ChangeSpec := { name := "fnComparedInt32", fn := fun _ => fun
  | [d] => { results := [.lit (.bool false)], args := [d] }
  | _ => none }
def FnComparedInt32WrongFalsely : Prop := fnComparedInt32Row.holds Try.pinned (OpenSpec.ofChange fnComparedInt32Wrong)

/-- 'laws.FnEmptyInt32': WHATEVER THE INPUT: true; the input reads as it did. -/
def fnEmptyInt32Spec : ChangeSpec := { name := "fnEmptyInt32", fn := fun _ => fun
  | [d] => { results := [.lit (.bool true)], args := [d] }
  | _ => none }
def fnEmptyInt32Row : OpenClaim := { program := "ytbmkndhemkfilaa", sum := "a44a933e8f957d88fad3effa10447753af01453bd3ee4e9a7fde1ea5d515e514", func := "loop.example/lib-atomicvalues/laws.FnEmptyInt32", spec := "fnEmptyInt32", inPlace := ["sync/atomic.StoreInt32", "sync/atomic.AddInt32", "sync/atomic.AndInt32", "sync/atomic.OrInt32", "sync/atomic.SwapInt32", "sync/atomic.CompareAndSwapInt32", "sync/atomic.LoadInt32"], apart := false }
def FnEmptyInt32Said : Prop := fnEmptyInt32Row.holds Try.pinned (OpenSpec.ofChange fnEmptyInt32Spec)

/-- ITS FALSE NEIGHBOUR: 'it returns false'. Refute it at one input. -/
def fnEmptyInt32Wrong : ChangeSpec := { name := "fnEmptyInt32", fn := fun _ => fun
  | [d] => { results := [.lit (.bool false)], args := [d] }
  | _ => none }
def FnEmptyInt32WrongFalsely : Prop := fnEmptyInt32Row.holds Try.pinned (OpenSpec.ofChange fnEmptyInt32Wrong)

/-- 'laws.FnExactRunInt32': WHATEVER THE INPUT: true; the input reads as it did. -/
def fnExactRunInt32Spec : ChangeSpec := { name := "fnExactRunInt32", fn := fun _ => fun
  | [d] => { results := [.lit (.bool true)], args := [d] }
  | _ => none }
def fnExactRunInt32Row : OpenClaim := { program := "ytbmkndhemkfilaa", sum := "a44a933e8f957d88fad3effa10447753af01453bd3ee4e9a7fde1ea5d515e514", func := "loop.example/lib-atomicvalues/laws.FnExactRunInt32", spec := "fnExactRunInt32", inPlace := ["sync/atomic.StoreInt32", "sync/atomic.AddInt32", "sync/atomic.AndInt32", "sync/atomic.OrInt32", "sync/atomic.SwapInt32", "sync/atomic.CompareAndSwapInt32", "sync/atomic.LoadInt32"], apart := false }
def FnExactRunInt32Said : Prop := fnExactRunInt32Row.holds Try.pinned (OpenSpec.ofChange fnExactRunInt32Spec)

/-- ITS FALSE NEIGHBOUR: 'it returns false'. Refute it at one input. -/
def fnExactRunInt32Wrong : ChangeSpec := { name := "fnExactRunInt32", fn := fun _ => fun
  | [d] => { results := [.lit (.bool false)], args := [d] }
  | _ => none }
def FnExactRunInt32WrongFalsely : Prop := fnExactRunInt32Row.holds Try.pinned (OpenSpec.ofChange fnExactRunInt32Wrong)

/-- 'laws.FnExchangedInt32': WHATEVER THE INPUT: true; the input reads as it did. -/
def fnExchangedInt32Spec : ChangeSpec := { name := "fnExchangedInt32", fn := fun _ => fun
  | [d] => { results := [.lit (.bool true)], args := [d] }
  | _ => none }
def fnExchangedInt32Row : OpenClaim := { program := "ytbmkndhemkfilaa", sum := "a44a933e8f957d88fad3effa10447753af01453bd3ee4e9a7fde1ea5d515e514", func := "loop.example/lib-atomicvalues/laws.FnExchangedInt32", spec := "fnExchangedInt32", inPlace := ["sync/atomic.StoreInt32", "sync/atomic.AddInt32", "sync/atomic.AndInt32", "sync/atomic.OrInt32", "sync/atomic.SwapInt32", "sync/atomic.CompareAndSwapInt32", "sync/atomic.LoadInt32"], apart := false }
def FnExchangedInt32Said : Prop := fnExchangedInt32Row.holds Try.pinned (OpenSpec.ofChange fnExchangedInt32Spec)

/-- ITS FALSE NEIGHBOUR: 'it returns false'. Refute it at one input. -/
def fnExchangedInt32Wrong : ChangeSpec := { name := "fnExchangedInt32", fn := fun _ => fun
  | [d] => { results := [.lit (.bool false)], args := [d] }
  | _ => none }
def FnExchangedInt32WrongFalsely : Prop := fnExchangedInt32Row.holds Try.pinned (OpenSpec.ofChange fnExchangedInt32Wrong)

/-- 'laws.FnMaskedInt32': WHATEVER THE INPUT: true; the input reads as it did. -/
def fnMaskedInt32Spec : ChangeSpec := { name := "fnMaskedInt32", fn := fun _ => fun
  | [d] => { results := [.lit (.bool true)], args := [d] }
  | _ => none }
def fnMaskedInt32Row : OpenClaim := { program := "ytbmkndhemkfilaa", sum := "a44a933e8f957d88fad3effa10447753af01453bd3ee4e9a7fde1ea5d515e514", func := "loop.example/lib-atomicvalues/laws.FnMaskedInt32", spec := "fnMaskedInt32", inPlace := ["sync/atomic.StoreInt32", "sync/atomic.AddInt32", "sync/atomic.AndInt32", "sync/atomic.OrInt32", "sync/atomic.SwapInt32", "sync/atomic.CompareAndSwapInt32", "sync/atomic.LoadInt32"], apart := false }
def FnMaskedInt32Said : Prop := fnMaskedInt32Row.holds Try.pinned (OpenSpec.ofChange fnMaskedInt32Spec)

/-- ITS FALSE NEIGHBOUR: 'it returns false'. Refute it at one input. -/
def fnMaskedInt32Wrong : ChangeSpec := { name := "fnMaskedInt32", fn := fun _ => fun
  | [d] => { results := [.lit (.bool false)], args := [d] }
  | _ => none }
def FnMaskedInt32WrongFalsely : Prop := fnMaskedInt32Row.holds Try.pinned (OpenSpec.ofChange fnMaskedInt32Wrong)

/-- 'laws.FnPartedInt32': WHATEVER THE INPUT: true; the input reads as it did. -/
def fnPartedInt32Spec : ChangeSpec := { name := "fnPartedInt32", fn := fun _ => fun
  | [d] => { results := [.lit (.bool true)], args := [d] }
  | _ => none }
def fnPartedInt32Row : OpenClaim := { program := "ytbmkndhemkfilaa", sum := "a44a933e8f957d88fad3effa10447753af01453bd3ee4e9a7fde1ea5d515e514", func := "loop.example/lib-atomicvalues/laws.FnPartedInt32", spec := "fnPartedInt32", inPlace := ["sync/atomic.StoreInt32", "sync/atomic.AddInt32", "sync/atomic.AndInt32", "sync/atomic.OrInt32", "sync/atomic.SwapInt32", "sync/atomic.CompareAndSwapInt32", "sync/atomic.LoadInt32"], apart := false }
def FnPartedInt32Said : Prop := fnPartedInt32Row.holds Try.pinned (OpenSpec.ofChange fnPartedInt32Spec)

/-- ITS FALSE NEIGHBOUR: 'it returns false'. Refute it at one input. -/
def fnPartedInt32Wrong : ChangeSpec := { name := "fnPartedInt32", fn := fun _ => fun
  | [d] => { results := [.lit (.bool false)], args := [d] }
  | _ => none }
def FnPartedInt32WrongFalsely : Prop := fnPartedInt32Row.holds Try.pinned (OpenSpec.ofChange fnPartedInt32Wrong)

/-- 'laws.FnPartsInt32': WHATEVER THE INPUT: true; the input reads as it did. -/
def fnPartsInt32Spec : ChangeSpec := { name := "fnPartsInt32", fn := fun _ => fun
  | [d] => { results := [.lit (.bool true)], args := [d] }
  | _ => none }
def fnPartsInt32Row : OpenClaim := { program := "ytbmkndhemkfilaa", sum := "a44a933e8f957d88fad3effa10447753af01453bd3ee4e9a7fde1ea5d515e514", func := "loop.example/lib-atomicvalues/laws.FnPartsInt32", spec := "fnPartsInt32", inPlace := ["sync/atomic.StoreInt32", "sync/atomic.AddInt32", "sync/atomic.AndInt32", "sync/atomic.OrInt32", "sync/atomic.SwapInt32", "sync/atomic.CompareAndSwapInt32", "sync/atomic.LoadInt32"], apart := false }
def FnPartsInt32Said : Prop := fnPartsInt32Row.holds Try.pinned (OpenSpec.ofChange fnPartsInt32Spec)

/-- ITS FALSE NEIGHBOUR: 'it returns false'. Refute it at one input. -/
def fnPartsInt32Wrong : ChangeSpec := { name := "fnPartsInt32", fn := fun _ => fun
  | [d] => { results := [.lit (.bool false)], args := [d] }
  | _ => none }
def FnPartsInt32WrongFalsely : Prop := fnPartsInt32Row.holds Try.pinned (OpenSpec.ofChange fnPartsInt32Wrong)

/-- 'laws.FnStoredInt32': WHATEVER THE INPUT: true; the input reads as it did. -/
def fnStoredInt32Spec : ChangeSpec := { name := "fnStoredInt32", fn := fun _ => fun
  | [d] => { results := [.lit (.bool true)], args := [d] }
  | _ => none }
def fnStoredInt32Row : OpenClaim := { program := "ytbmkndhemkfilaa", sum := "a44a933e8f957d88fad3effa10447753af01453bd3ee4e9a7fde1ea5d515e514", func := "loop.example/lib-atomicvalues/laws.FnStoredInt32", spec := "fnStoredInt32", inPlace := ["sync/atomic.StoreInt32", "sync/atomic.AddInt32", "sync/atomic.AndInt32", "sync/atomic.OrInt32", "sync/atomic.SwapInt32", "sync/atomic.CompareAndSwapInt32", "sync/atomic.LoadInt32"], apart := false }
def FnStoredInt32Said : Prop := fnStoredInt32Row.holds Try.pinned (OpenSpec.ofChange fnStoredInt32Spec)

/-- ITS FALSE NEIGHBOUR: 'it returns false'. Refute it at one input. -/
def fnStoredInt32Wrong : ChangeSpec := { name := "fnStoredInt32", fn := fun _ => fun
  | [d] => { results := [.lit (.bool false)], args := [d] }
  | _ => none }
def FnStoredInt32WrongFalsely : Prop := fnStoredInt32Row.holds Try.pinned (OpenSpec.ofChange fnStoredInt32Wrong)

/-- 'laws.FnRoadsInt32': WHATEVER THE INPUT: true; the input reads as it did. -/
def fnRoadsInt32Spec : ChangeSpec := { name := "fnRoadsInt32", fn := fun _ => fun
  | [d] => { results := [.lit (.bool true)], args := [d] }
  | _ => none }
def fnRoadsInt32Row : OpenClaim := { program := "ytbmkndhemkfilaa", sum := "a44a933e8f957d88fad3effa10447753af01453bd3ee4e9a7fde1ea5d515e514", func := "loop.example/lib-atomicvalues/laws.FnRoadsInt32", spec := "fnRoadsInt32", inPlace := ["sync/atomic.StoreInt32", "sync/atomic.AddInt32", "sync/atomic.AndInt32", "sync/atomic.OrInt32", "sync/atomic.SwapInt32", "sync/atomic.CompareAndSwapInt32", "sync/atomic.LoadInt32"], apart := false }
def FnRoadsInt32Said : Prop := fnRoadsInt32Row.holds Try.pinned (OpenSpec.ofChange fnRoadsInt32Spec)

/-- ITS FALSE NEIGHBOUR: 'it returns false'. Refute it at one input. -/
def fnRoadsInt32Wrong : ChangeSpec := { name := "fnRoadsInt32", fn := fun _ => fun
  | [d] => { results := [.lit (.bool false)], args := [d] }
  | _ => none }
def FnRoadsInt32WrongFalsely : Prop := fnRoadsInt32Row.holds Try.pinned (OpenSpec.ofChange fnRoadsInt32Wrong)

/- THE SECOND FORM. 'bulk': how many values and letters a reading holds, each counted each time it is reached (what is shared counts as often as it is met; a slice's spare places count too). A statement '..UptoSaid' is the law's where the arguments, and the package variables that the reading takes, are together of bulk at most 1048576: NARROWER than '..Said'. Prove '..Said' where nothing that the law and all that it calls make is longer than what came in: it says more and counts as full. Else prove '..UptoSaid'. A law counts once. -/
mutual
def uptoBulk {H : Type} : DataW H → Nat
  | .lit (.string bytes) => bytes.length + 1
  | .lit _ => 1
  | .nil => 1
  | .ptr d => uptoBulk d + 1
  | .slice elems spare => uptoBulkAll elems + uptoBulkAll spare + 1
  | .agg parts => uptoBulkAll parts + 1
  | .iface _ d => uptoBulk d + 1
  | .map entries => uptoBulkEntries entries + 1
  | .held _ => 1
def uptoBulkAll {H : Type} : List (DataW H) → Nat
  | [] => 0
  | d :: r => uptoBulk d + uptoBulkAll r
def uptoBulkEntries {H : Type} : List (Lit × DataW H) → Nat
  | [] => 0
  | x :: r => uptoBulkEntry x + uptoBulkEntries r
def uptoBulkEntry {H : Type} : Lit × DataW H → Nat
  | (.string bytes, d) => bytes.length + uptoBulk d + 1
  | (_, d) => uptoBulk d + 1
 end
def uptoSmall : (H : Type) → List (DataW H) → Bool := fun _ ds => decide (uptoBulkAll ds ≤ 1048576)
def OpenSpec.upto (s : _root_.Go.ChangeSpec) : _root_.Go.OpenSpec := { _root_.Go.OpenSpec.ofChange s with cond := some uptoSmall }

/-- 'laws.FnExactCallsInt32', WHERE WHAT IT READS IS OF BULK AT MOST 1048576: true; the input reads as it did. -/
def fnExactCallsInt32UptoRow : OpenClaim := { program := "ytbmkndhemkfilaa", sum := "a44a933e8f957d88fad3effa10447753af01453bd3ee4e9a7fde1ea5d515e514", func := "loop.example/lib-atomicvalues/laws.FnExactCallsInt32", spec := "fnExactCallsInt32", inPlace := ["sync/atomic.StoreInt32", "sync/atomic.AddInt32", "sync/atomic.AndInt32", "sync/atomic.OrInt32", "sync/atomic.SwapInt32", "sync/atomic.CompareAndSwapInt32", "sync/atomic.LoadInt32"], apart := false, narrowed := true }
def FnExactCallsInt32UptoSaid : Prop := fnExactCallsInt32UptoRow.holds Try.pinned (OpenSpec.upto fnExactCallsInt32Spec)

/-- 'laws.FnAddedByCompareInt32', WHERE WHAT IT READS IS OF BULK AT MOST 1048576: true; the input reads as it did. -/
def fnAddedByCompareInt32UptoRow : OpenClaim := { program := "ytbmkndhemkfilaa", sum := "a44a933e8f957d88fad3effa10447753af01453bd3ee4e9a7fde1ea5d515e514", func := "loop.example/lib-atomicvalues/laws.FnAddedByCompareInt32", spec := "fnAddedByCompareInt32", inPlace := ["sync/atomic.StoreInt32", "sync/atomic.AddInt32", "sync/atomic.AndInt32", "sync/atomic.OrInt32", "sync/atomic.SwapInt32", "sync/atomic.CompareAndSwapInt32", "sync/atomic.LoadInt32"], apart := false, narrowed := true }
def FnAddedByCompareInt32UptoSaid : Prop := fnAddedByCompareInt32UptoRow.holds Try.pinned (OpenSpec.upto fnAddedByCompareInt32Spec)

/-- 'laws.FnAddedInt32', WHERE WHAT IT READS IS OF BULK AT MOST 1048576: true; the input reads as it did. -/
def fnAddedInt32UptoRow : OpenClaim := { program := "ytbmkndhemkfilaa", sum := "a44a933e8f957d88fad3effa10447753af01453bd3ee4e9a7fde1ea5d515e514", func := "loop.example/lib-atomicvalues/laws.FnAddedInt32", spec := "fnAddedInt32", inPlace := ["sync/atomic.StoreInt32", "sync/atomic.AddInt32", "sync/atomic.AndInt32", "sync/atomic.OrInt32", "sync/atomic.SwapInt32", "sync/atomic.CompareAndSwapInt32", "sync/atomic.LoadInt32"], apart := false, narrowed := true }
def FnAddedInt32UptoSaid : Prop := fnAddedInt32UptoRow.holds Try.pinned (OpenSpec.upto fnAddedInt32Spec)

/-- 'laws.FnComparedInt32', WHERE WHAT IT READS IS OF BULK AT MOST 1048576: true; the input reads as it did. -/
def fnComparedInt32UptoRow : OpenClaim := { program := "ytbmkndhemkfilaa", sum := "a44a933e8f957d88fad3effa10447753af01453bd3ee4e9a7fde1ea5d515e514", func := "loop.example/lib-atomicvalues/laws.FnComparedInt32", spec := "fnComparedInt32", inPlace := ["sync/atomic.StoreInt32", "sync/atomic.AddInt32", "sync/atomic.AndInt32", "sync/atomic.OrInt32", "sync/atomic.SwapInt32", "sync/atomic.CompareAndSwapInt32", "sync/atomic.LoadInt32"], apart := false, narrowed := true }
def FnComparedInt32UptoSaid : Prop := fnComparedInt32UptoRow.holds Try.pinned (OpenSpec.upto fnComparedInt32Spec)

/-- 'laws.FnEmptyInt32', WHERE WHAT IT READS IS OF BULK AT MOST 1048576: true; the input reads as it did. -/
def fnEmptyInt32UptoRow : OpenClaim := { program := "ytbmkndhemkfilaa", sum := "a44a933e8f957d88fad3effa10447753af01453bd3ee4e9a7fde1ea5d515e514", func := "loop.example/lib-atomicvalues/laws.FnEmptyInt32", spec := "fnEmptyInt32", inPlace := ["sync/atomic.StoreInt32", "sync/atomic.AddInt32", "sync/atomic.AndInt32", "sync/atomic.OrInt32", "sync/atomic.SwapInt32", "sync/atomic.CompareAndSwapInt32", "sync/atomic.LoadInt32"], apart := false, narrowed := true }
def FnEmptyInt32UptoSaid : Prop := fnEmptyInt32UptoRow.holds Try.pinned (OpenSpec.upto fnEmptyInt32Spec)

/-- 'laws.FnExactRunInt32', WHERE WHAT IT READS IS OF BULK AT MOST 1048576: true; the input reads as it did. -/
def fnExactRunInt32UptoRow : OpenClaim := { program := "ytbmkndhemkfilaa", sum := "a44a933e8f957d88fad3effa10447753af01453bd3ee4e9a7fde1ea5d515e514", func := "loop.example/lib-atomicvalues/laws.FnExactRunInt32", spec := "fnExactRunInt32", inPlace := ["sync/atomic.StoreInt32", "sync/atomic.AddInt32", "sync/atomic.AndInt32", "sync/atomic.OrInt32", "sync/atomic.SwapInt32", "sync/atomic.CompareAndSwapInt32", "sync/atomic.LoadInt32"], apart := false, narrowed := true }
def FnExactRunInt32UptoSaid : Prop := fnExactRunInt32UptoRow.holds Try.pinned (OpenSpec.upto fnExactRunInt32Spec)

/-- 'laws.FnExchangedInt32', WHERE WHAT IT READS IS OF BULK AT MOST 1048576: true; the input reads as it did. -/
def fnExchangedInt32UptoRow : OpenClaim := { program := "ytbmkndhemkfilaa", sum := "a44a933e8f957d88fad3effa10447753af01453bd3ee4e9a7fde1ea5d515e514", func := "loop.example/lib-atomicvalues/laws.FnExchangedInt32", spec := "fnExchangedInt32", inPlace := ["sync/atomic.StoreInt32", "sync/atomic.AddInt32", "sync/atomic.AndInt32", "sync/atomic.OrInt32", "sync/atomic.SwapInt32", "sync/atomic.CompareAndSwapInt32", "sync/atomic.LoadInt32"], apart := false, narrowed := true }
def FnExchangedInt32UptoSaid : Prop := fnExchangedInt32UptoRow.holds Try.pinned (OpenSpec.upto fnExchangedInt32Spec)

/-- 'laws.FnMaskedInt32', WHERE WHAT IT READS IS OF BULK AT MOST 1048576: true; the input reads as it did. -/
def fnMaskedInt32UptoRow : OpenClaim := { program := "ytbmkndhemkfilaa", sum := "a44a933e8f957d88fad3effa10447753af01453bd3ee4e9a7fde1ea5d515e514", func := "loop.example/lib-atomicvalues/laws.FnMaskedInt32", spec := "fnMaskedInt32", inPlace := ["sync/atomic.StoreInt32", "sync/atomic.AddInt32", "sync/atomic.AndInt32", "sync/atomic.OrInt32", "sync/atomic.SwapInt32", "sync/atomic.CompareAndSwapInt32", "sync/atomic.LoadInt32"], apart := false, narrowed := true }
def FnMaskedInt32UptoSaid : Prop := fnMaskedInt32UptoRow.holds Try.pinned (OpenSpec.upto fnMaskedInt32Spec)

/-- 'laws.FnPartedInt32', WHERE WHAT IT READS IS OF BULK AT MOST 1048576: true; the input reads as it did. -/
def fnPartedInt32UptoRow : OpenClaim := { program := "ytbmkndhemkfilaa", sum := "a44a933e8f957d88fad3effa10447753af01453bd3ee4e9a7fde1ea5d515e514", func := "loop.example/lib-atomicvalues/laws.FnPartedInt32", spec := "fnPartedInt32", inPlace := ["sync/atomic.StoreInt32", "sync/atomic.AddInt32", "sync/atomic.AndInt32", "sync/atomic.OrInt32", "sync/atomic.SwapInt32", "sync/atomic.CompareAndSwapInt32", "sync/atomic.LoadInt32"], apart := false, narrowed := true }
def FnPartedInt32UptoSaid : Prop := fnPartedInt32UptoRow.holds Try.pinned (OpenSpec.upto fnPartedInt32Spec)

/-- 'laws.FnPartsInt32', WHERE WHAT IT READS IS OF BULK AT MOST 1048576: true; the input reads as it did. -/
def fnPartsInt32UptoRow : OpenClaim := { program := "ytbmkndhemkfilaa", sum := "a44a933e8f957d88fad3effa10447753af01453bd3ee4e9a7fde1ea5d515e514", func := "loop.example/lib-atomicvalues/laws.FnPartsInt32", spec := "fnPartsInt32", inPlace := ["sync/atomic.StoreInt32", "sync/atomic.AddInt32", "sync/atomic.AndInt32", "sync/atomic.OrInt32", "sync/atomic.SwapInt32", "sync/atomic.CompareAndSwapInt32", "sync/atomic.LoadInt32"], apart := false, narrowed := true }
def FnPartsInt32UptoSaid : Prop := fnPartsInt32UptoRow.holds Try.pinned (OpenSpec.upto fnPartsInt32Spec)

/-- 'laws.FnStoredInt32', WHERE WHAT IT READS IS OF BULK AT MOST 1048576: true; the input reads as it did. -/
def fnStoredInt32UptoRow : OpenClaim := { program := "ytbmkndhemkfilaa", sum := "a44a933e8f957d88fad3effa10447753af01453bd3ee4e9a7fde1ea5d515e514", func := "loop.example/lib-atomicvalues/laws.FnStoredInt32", spec := "fnStoredInt32", inPlace := ["sync/atomic.StoreInt32", "sync/atomic.AddInt32", "sync/atomic.AndInt32", "sync/atomic.OrInt32", "sync/atomic.SwapInt32", "sync/atomic.CompareAndSwapInt32", "sync/atomic.LoadInt32"], apart := false, narrowed := true }
def FnStoredInt32UptoSaid : Prop := fnStoredInt32UptoRow.holds Try.pinned (OpenSpec.upto fnStoredInt32Spec)

/-- 'laws.FnRoadsInt32', WHERE WHAT IT READS IS OF BULK AT MOST 1048576: true; the input reads as it did. -/
def fnRoadsInt32UptoRow : OpenClaim := { program := "ytbmkndhemkfilaa", sum := "a44a933e8f957d88fad3effa10447753af01453bd3ee4e9a7fde1ea5d515e514", func := "loop.example/lib-atomicvalues/laws.FnRoadsInt32", spec := "fnRoadsInt32", inPlace := ["sync/atomic.StoreInt32", "sync/atomic.AddInt32", "sync/atomic.AndInt32", "sync/atomic.OrInt32", "sync/atomic.SwapInt32", "sync/atomic.CompareAndSwapInt32", "sync/atomic.LoadInt32"], apart := false, narrowed := true }
def FnRoadsInt32UptoSaid : Prop := fnRoadsInt32UptoRow.holds Try.pinned (OpenSpec.upto fnRoadsInt32Spec)

end Rows
end Go.Proofs.Ytbmkndhemkfilaa
