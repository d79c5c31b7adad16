/-
  No cell of these rows narrows 'for every input' (looked for: loops, veiled, ifaces, maps, wideKeys, modest, calm, conditions, laid).
  DERIVED. THE GIVEN ROWS OF THIS SEAT. 12 by the template 'for every input the law returns true; each argument reads behind the call as it read before'; 0 by the template 'total and deterministic' (their statements: YtdobfbkldiadmaaTotals.lean).
  GIVEN WITH THE SEED: the statements are not yours to turn. If you find one false, say at which input.
  Laid BY PROGRAM, IN A SANDBOX (cutbox-rows.mjs): the forced cells as the released guide's own fill.sh prints them over the translation 74922a3e963fdedf… (all of the seat's roots in one cut). By AI agents, Wed Nov 11 2026. No macro, syntax, notation, axiom, sorry.
-/
import Derived.Test.YtdobfbkldiadmaaChecked
import GoSem.Claim
import GoSem.ClaimJoined
import GoSem.ClaimMapViews
import Derived.JoinedTies
import Derived.KernelRfl
namespace Go.Proofs.Ytdobfbkldiadmaa
/- THE CELL 'sum', in the pinned program and in every row, IS THE sha256 OF THE DUMP (.gsa) THAT YtdobfbkldiadmaaProg.lean LOADS. Nothing in Lean hashes anything: it is a label: what it is worth is what the hold of that sum in a sandbox is worth. -/
noncomputable def Try.pinned : Pinned := { name := "ytdobfbkldiadmaa", sum := "74922a3e963fdedfa10021b3d7f1c4125af99849e98ff1a1c0d3020c5973a8c7", checked := Try.checked }
namespace Rows
def none {H : Type} : Left H := { results := [], args := [] }

/-- 'laws.FnExactCallsUint32': WHATEVER THE INPUT: true; the input reads as it did. -/
def fnExactCallsUint32Spec : ChangeSpec := { name := "fnExactCallsUint32", fn := fun _ => fun
  | [d] => { results := [.lit (.bool true)], args := [d] }
  | _ => none }
def fnExactCallsUint32Row : OpenClaim := { program := "ytdobfbkldiadmaa", sum := "74922a3e963fdedfa10021b3d7f1c4125af99849e98ff1a1c0d3020c5973a8c7", func := "loop.example/lib-atomicvalues/laws.FnExactCallsUint32", spec := "fnExactCallsUint32", inPlace := ["sync/atomic.StoreUint32", "sync/atomic.AddUint32", "sync/atomic.AndUint32", "sync/atomic.OrUint32", "sync/atomic.SwapUint32", "sync/atomic.CompareAndSwapUint32", "sync/atomic.LoadUint32"], apart := false }
def FnExactCallsUint32Said : Prop := fnExactCallsUint32Row.holds Try.pinned (OpenSpec.ofChange fnExactCallsUint32Spec)

/-- ITS FALSE NEIGHBOUR: 'it returns false'. Refute it at one input. -/
def fnExactCallsUint32Wrong : ChangeSpec := { name := "fnExactCallsUint32", fn := fun _ => fun
  | [d] => { results := [.lit (.bool false)], args := [d] }
  | _ => none }
def FnExactCallsUint32WrongFalsely : Prop := fnExactCallsUint32Row.holds Try.pinned (OpenSpec.ofChange fnExactCallsUint32Wrong)

/-- 'laws.FnComparedUint32': WHATEVER THE INPUT: true; the input reads as it did. -/
def fnComparedUint32Spec : ChangeSpec := { name := "fnComparedUint32", fn := fun _ => fun
  | [d] => { results := [.lit (.bool true)], args := [d] }
  | _ => none }
def fnComparedUint32Row : OpenClaim := { program := "ytdobfbkldiadmaa", sum := "74922a3e963fdedfa10021b3d7f1c4125af99849e98ff1a1c0d3020c5973a8c7", func := "loop.example/lib-atomicvalues/laws.FnComparedUint32", spec := "fnComparedUint32", inPlace := ["sync/atomic.StoreUint32", "sync/atomic.AddUint32", "sync/atomic.AndUint32", "sync/atomic.OrUint32", "sync/atomic.SwapUint32", "sync/atomic.CompareAndSwapUint32", "sync/atomic.LoadUint32"], apart := false }
def FnComparedUint32Said : Prop := fnComparedUint32Row.holds Try.pinned (OpenSpec.ofChange fnComparedUint32Spec)

/-- ITS FALSE NEIGHBOUR: 'it returns false'. Refute it at one input. -/
def fnComparedUint32Wrong : ChangeSpec := { name := "fnComparedUint32", fn := fun _ => fun
  | [d] => { results := [.lit (.bool false)], args := [d] }
  | _ => none }
def FnComparedUint32WrongFalsely : Prop := fnComparedUint32Row.holds Try.pinned (OpenSpec.ofChange fnComparedUint32Wrong)

/-- 'laws.FnExactRunUint32': WHATEVER THE INPUT: true; the input reads as it did. -/
def fnExactRunUint32Spec : ChangeSpec := { name := "fnExactRunUint32", fn := fun _ => fun
  | [d] => { results := [.lit (.bool true)], args := [d] }
  | _ => none }
def fnExactRunUint32Row : OpenClaim := { program := "ytdobfbkldiadmaa", sum := "74922a3e963fdedfa10021b3d7f1c4125af99849e98ff1a1c0d3020c5973a8c7", func := "loop.example/lib-atomicvalues/laws.FnExactRunUint32", spec := "fnExactRunUint32", inPlace := ["sync/atomic.StoreUint32", "sync/atomic.AddUint32", "sync/atomic.AndUint32", "sync/atomic.OrUint32", "sync/atomic.SwapUint32", "sync/atomic.CompareAndSwapUint32", "sync/atomic.LoadUint32"], apart := false }
def FnExactRunUint32Said : Prop := fnExactRunUint32Row.holds Try.pinned (OpenSpec.ofChange fnExactRunUint32Spec)

/-- ITS FALSE NEIGHBOUR: 'it returns false'. Refute it at one input. -/
def fnExactRunUint32Wrong : ChangeSpec := { name := "fnExactRunUint32", fn := fun _ => fun
  | [d] => { results := [.lit (.bool false)], args := [d] }
  | _ => none }
def FnExactRunUint32WrongFalsely : Prop := fnExactRunUint32Row.holds Try.pinned (OpenSpec.ofChange fnExactRunUint32Wrong)

/-- 'laws.FnPartsUint32': WHATEVER THE INPUT: true; the input reads as it did. -/
def fnPartsUint32Spec : ChangeSpec := { name := "fnPartsUint32", fn := fun _ => fun
  | [d] => { results := [.lit (.bool true)], args := [d] }
  | _ => none }
def fnPartsUint32Row : OpenClaim := { program := "ytdobfbkldiadmaa", sum := "74922a3e963fdedfa10021b3d7f1c4125af99849e98ff1a1c0d3020c5973a8c7", func := "loop.example/lib-atomicvalues/laws.FnPartsUint32", spec := "fnPartsUint32", inPlace := ["sync/atomic.StoreUint32", "sync/atomic.AddUint32", "sync/atomic.AndUint32", "sync/atomic.OrUint32", "sync/atomic.SwapUint32", "sync/atomic.CompareAndSwapUint32", "sync/atomic.LoadUint32"], apart := false }
def FnPartsUint32Said : Prop := fnPartsUint32Row.holds Try.pinned (OpenSpec.ofChange fnPartsUint32Spec)

/-- ITS FALSE NEIGHBOUR: 'it returns false'. Refute it at one input. -/
def fnPartsUint32Wrong : ChangeSpec := { name := "fnPartsUint32", fn := fun _ => fun
  | [d] => { results := [.lit (.bool false)], args := [d] }
  | _ => none }
def FnPartsUint32WrongFalsely : Prop := fnPartsUint32Row.holds Try.pinned (OpenSpec.ofChange fnPartsUint32Wrong)

/-- 'laws.FnStoredUint32': WHATEVER THE INPUT: true; the input reads as it did. -/
def fnStoredUint32Spec : ChangeSpec := { name := "fnStoredUint32", fn := fun _ => fun
  | [d] => { results := [.lit (.bool true)], args := [d] }
  | _ => none }
def fnStoredUint32Row : OpenClaim := { program := "ytdobfbkldiadmaa", sum := "74922a3e963fdedfa10021b3d7f1c4125af99849e98ff1a1c0d3020c5973a8c7", func := "loop.example/lib-atomicvalues/laws.FnStoredUint32", spec := "fnStoredUint32", inPlace := ["sync/atomic.StoreUint32", "sync/atomic.AddUint32", "sync/atomic.AndUint32", "sync/atomic.OrUint32", "sync/atomic.SwapUint32", "sync/atomic.CompareAndSwapUint32", "sync/atomic.LoadUint32"], apart := false }
def FnStoredUint32Said : Prop := fnStoredUint32Row.holds Try.pinned (OpenSpec.ofChange fnStoredUint32Spec)

/-- ITS FALSE NEIGHBOUR: 'it returns false'. Refute it at one input. -/
def fnStoredUint32Wrong : ChangeSpec := { name := "fnStoredUint32", fn := fun _ => fun
  | [d] => { results := [.lit (.bool false)], args := [d] }
  | _ => none }
def FnStoredUint32WrongFalsely : Prop := fnStoredUint32Row.holds Try.pinned (OpenSpec.ofChange fnStoredUint32Wrong)

/-- 'laws.FnAddedByCompareUint32': WHATEVER THE INPUT: true; the input reads as it did. -/
def fnAddedByCompareUint32Spec : ChangeSpec := { name := "fnAddedByCompareUint32", fn := fun _ => fun
  | [d] => { results := [.lit (.bool true)], args := [d] }
  | _ => none }
def fnAddedByCompareUint32Row : OpenClaim := { program := "ytdobfbkldiadmaa", sum := "74922a3e963fdedfa10021b3d7f1c4125af99849e98ff1a1c0d3020c5973a8c7", func := "loop.example/lib-atomicvalues/laws.FnAddedByCompareUint32", spec := "fnAddedByCompareUint32", inPlace := ["sync/atomic.StoreUint32", "sync/atomic.AddUint32", "sync/atomic.AndUint32", "sync/atomic.OrUint32", "sync/atomic.SwapUint32", "sync/atomic.CompareAndSwapUint32", "sync/atomic.LoadUint32", "sync/atomic.StoreInt32", "sync/atomic.AddInt32", "sync/atomic.AndInt32", "sync/atomic.OrInt32", "sync/atomic.SwapInt32", "sync/atomic.CompareAndSwapInt32", "sync/atomic.LoadInt32"], apart := false }
def FnAddedByCompareUint32Said : Prop := fnAddedByCompareUint32Row.holds Try.pinned (OpenSpec.ofChange fnAddedByCompareUint32Spec)

/-- ITS FALSE NEIGHBOUR: 'it returns false'. Refute it at one input. -/
def fnAddedByCompareUint32Wrong : ChangeSpec := { name := "fnAddedByCompareUint32", fn := fun _ => fun
  | [d] => { results := [.lit (.bool false)], args := [d] }
  | _ => none }
def FnAddedByCompareUint32WrongFalsely : Prop := fnAddedByCompareUint32Row.holds Try.pinned (OpenSpec.ofChange fnAddedByCompareUint32Wrong)

/-- 'laws.FnAddedUint32': WHATEVER THE INPUT: true; the input reads as it did. -/
def fnAddedUint32Spec : ChangeSpec := { name := "fnAddedUint32", fn := fun _ => fun
  | [d] => { results := [.lit (.bool true)], args := [d] }
  | _ => none }
def fnAddedUint32Row : OpenClaim := { program := "ytdobfbkldiadmaa", sum := "74922a3e963fdedfa10021b3d7f1c4125af99849e98ff1a1c0d3020c5973a8c7", func := "loop.example/lib-atomicvalues/laws.FnAddedUint32", spec := "fnAddedUint32", inPlace := ["sync/atomic.StoreUint32", "sync/atomic.AddUint32", "sync/atomic.AndUint32", "sync/atomic.OrUint32", "sync/atomic.SwapUint32", "sync/atomic.CompareAndSwapUint32", "sync/atomic.LoadUint32", "sync/atomic.StoreInt32", "sync/atomic.AddInt32", "sync/atomic.AndInt32", "sync/atomic.OrInt32", "sync/atomic.SwapInt32", "sync/atomic.CompareAndSwapInt32", "sync/atomic.LoadInt32"], apart := false }
def FnAddedUint32Said : Prop := fnAddedUint32Row.holds Try.pinned (OpenSpec.ofChange fnAddedUint32Spec)

/-- ITS FALSE NEIGHBOUR: 'it returns false'. Refute it at one input. -/
def fnAddedUint32Wrong : ChangeSpec := { name := "fnAddedUint32", fn := fun _ => fun
  | [d] => { results := [.lit (.bool false)], args := [d] }
  | _ => none }
def FnAddedUint32WrongFalsely : Prop := fnAddedUint32Row.holds Try.pinned (OpenSpec.ofChange fnAddedUint32Wrong)

/-- 'laws.FnEmptyUint32': WHATEVER THE INPUT: true; the input reads as it did. -/
def fnEmptyUint32Spec : ChangeSpec := { name := "fnEmptyUint32", fn := fun _ => fun
  | [d] => { results := [.lit (.bool true)], args := [d] }
  | _ => none }
def fnEmptyUint32Row : OpenClaim := { program := "ytdobfbkldiadmaa", sum := "74922a3e963fdedfa10021b3d7f1c4125af99849e98ff1a1c0d3020c5973a8c7", func := "loop.example/lib-atomicvalues/laws.FnEmptyUint32", spec := "fnEmptyUint32", inPlace := ["sync/atomic.StoreUint32", "sync/atomic.AddUint32", "sync/atomic.AndUint32", "sync/atomic.OrUint32", "sync/atomic.SwapUint32", "sync/atomic.CompareAndSwapUint32", "sync/atomic.LoadUint32", "sync/atomic.StoreInt32", "sync/atomic.AddInt32", "sync/atomic.AndInt32", "sync/atomic.OrInt32", "sync/atomic.SwapInt32", "sync/atomic.CompareAndSwapInt32", "sync/atomic.LoadInt32"], apart := false }
def FnEmptyUint32Said : Prop := fnEmptyUint32Row.holds Try.pinned (OpenSpec.ofChange fnEmptyUint32Spec)

/-- ITS FALSE NEIGHBOUR: 'it returns false'. Refute it at one input. -/
def fnEmptyUint32Wrong : ChangeSpec := { name := "fnEmptyUint32", fn := fun _ => fun
  | [d] => { results := [.lit (.bool false)], args := [d] }
  | _ => none }
def FnEmptyUint32WrongFalsely : Prop := fnEmptyUint32Row.holds Try.pinned (OpenSpec.ofChange fnEmptyUint32Wrong)

/-- 'laws.FnExchangedUint32': WHATEVER THE INPUT: true; the input reads as it did. -/
def fnExchangedUint32Spec : ChangeSpec := { name := "fnExchangedUint32", fn := fun _ => fun
  | [d] => { results := [.lit (.bool true)], args := [d] }
  | _ => none }
def fnExchangedUint32Row : OpenClaim := { program := "ytdobfbkldiadmaa", sum := "74922a3e963fdedfa10021b3d7f1c4125af99849e98ff1a1c0d3020c5973a8c7", func := "loop.example/lib-atomicvalues/laws.FnExchangedUint32", spec := "fnExchangedUint32", inPlace := ["sync/atomic.StoreUint32", "sync/atomic.AddUint32", "sync/atomic.AndUint32", "sync/atomic.OrUint32", "sync/atomic.SwapUint32", "sync/atomic.CompareAndSwapUint32", "sync/atomic.LoadUint32", "sync/atomic.StoreInt32", "sync/atomic.AddInt32", "sync/atomic.AndInt32", "sync/atomic.OrInt32", "sync/atomic.SwapInt32", "sync/atomic.CompareAndSwapInt32", "sync/atomic.LoadInt32"], apart := false }
def FnExchangedUint32Said : Prop := fnExchangedUint32Row.holds Try.pinned (OpenSpec.ofChange fnExchangedUint32Spec)

/-- ITS FALSE NEIGHBOUR: 'it returns false'. Refute it at one input. -/
def fnExchangedUint32Wrong : ChangeSpec := { name := "fnExchangedUint32", fn := fun _ => fun
  | [d] => { results := [.lit (.bool false)], args := [d] }
  | _ => none }
def FnExchangedUint32WrongFalsely : Prop := fnExchangedUint32Row.holds Try.pinned (OpenSpec.ofChange fnExchangedUint32Wrong)

/-- 'laws.FnMaskedUint32': WHATEVER THE INPUT: true; the input reads as it did. -/
def fnMaskedUint32Spec : ChangeSpec := { name := "fnMaskedUint32", fn := fun _ => fun
  | [d] => { results := [.lit (.bool true)], args := [d] }
  | _ => none }
def fnMaskedUint32Row : OpenClaim := { program := "ytdobfbkldiadmaa", sum := "74922a3e963fdedfa10021b3d7f1c4125af99849e98ff1a1c0d3020c5973a8c7", func := "loop.example/lib-atomicvalues/laws.FnMaskedUint32", spec := "fnMaskedUint32", inPlace := ["sync/atomic.StoreUint32", "sync/atomic.AddUint32", "sync/atomic.AndUint32", "sync/atomic.OrUint32", "sync/atomic.SwapUint32", "sync/atomic.CompareAndSwapUint32", "sync/atomic.LoadUint32", "sync/atomic.StoreInt32", "sync/atomic.AddInt32", "sync/atomic.AndInt32", "sync/atomic.OrInt32", "sync/atomic.SwapInt32", "sync/atomic.CompareAndSwapInt32", "sync/atomic.LoadInt32"], apart := false }
def FnMaskedUint32Said : Prop := fnMaskedUint32Row.holds Try.pinned (OpenSpec.ofChange fnMaskedUint32Spec)

/-- ITS FALSE NEIGHBOUR: 'it returns false'. Refute it at one input. -/
def fnMaskedUint32Wrong : ChangeSpec := { name := "fnMaskedUint32", fn := fun _ => fun
  | [d] => { results := [.lit (.bool false)], args := [d] }
  | _ => none }
def FnMaskedUint32WrongFalsely : Prop := fnMaskedUint32Row.holds Try.pinned (OpenSpec.ofChange fnMaskedUint32Wrong)

/-- 'laws.FnPartedUint32': WHATEVER THE INPUT: true; the input reads as it did. -/
def fnPartedUint32Spec : ChangeSpec := { name := "fnPartedUint32", fn := fun _ => fun
  | [d] => { results := [.lit (.bool true)], args := [d] }
  | _ => none }
def fnPartedUint32Row : OpenClaim := { program := "ytdobfbkldiadmaa", sum := "74922a3e963fdedfa10021b3d7f1c4125af99849e98ff1a1c0d3020c5973a8c7", func := "loop.example/lib-atomicvalues/laws.FnPartedUint32", spec := "fnPartedUint32", inPlace := ["sync/atomic.StoreUint32", "sync/atomic.AddUint32", "sync/atomic.AndUint32", "sync/atomic.OrUint32", "sync/atomic.SwapUint32", "sync/atomic.CompareAndSwapUint32", "sync/atomic.LoadUint32", "sync/atomic.StoreInt32", "sync/atomic.AddInt32", "sync/atomic.AndInt32", "sync/atomic.OrInt32", "sync/atomic.SwapInt32", "sync/atomic.CompareAndSwapInt32", "sync/atomic.LoadInt32"], apart := false }
def FnPartedUint32Said : Prop := fnPartedUint32Row.holds Try.pinned (OpenSpec.ofChange fnPartedUint32Spec)

/-- ITS FALSE NEIGHBOUR: 'it returns false'. Refute it at one input. -/
def fnPartedUint32Wrong : ChangeSpec := { name := "fnPartedUint32", fn := fun _ => fun
  | [d] => { results := [.lit (.bool false)], args := [d] }
  | _ => none }
def FnPartedUint32WrongFalsely : Prop := fnPartedUint32Row.holds Try.pinned (OpenSpec.ofChange fnPartedUint32Wrong)

/-- 'laws.FnRoadsUint32': WHATEVER THE INPUT: true; the input reads as it did. -/
def fnRoadsUint32Spec : ChangeSpec := { name := "fnRoadsUint32", fn := fun _ => fun
  | [d] => { results := [.lit (.bool true)], args := [d] }
  | _ => none }
def fnRoadsUint32Row : OpenClaim := { program := "ytdobfbkldiadmaa", sum := "74922a3e963fdedfa10021b3d7f1c4125af99849e98ff1a1c0d3020c5973a8c7", func := "loop.example/lib-atomicvalues/laws.FnRoadsUint32", spec := "fnRoadsUint32", inPlace := ["sync/atomic.StoreUint32", "sync/atomic.AddUint32", "sync/atomic.AndUint32", "sync/atomic.OrUint32", "sync/atomic.SwapUint32", "sync/atomic.CompareAndSwapUint32", "sync/atomic.LoadUint32", "sync/atomic.StoreInt32", "sync/atomic.AddInt32", "sync/atomic.AndInt32", "sync/atomic.OrInt32", "sync/atomic.SwapInt32", "sync/atomic.CompareAndSwapInt32", "sync/atomic.LoadInt32"], apart := false }
def FnRoadsUint32Said : Prop := fnRoadsUint32Row.holds Try.pinned (OpenSpec.ofChange fnRoadsUint32Spec)

/-- ITS FALSE NEIGHBOUR: 'it returns false'. Refute it at one input. -/
def fnRoadsUint32Wrong : ChangeSpec := { name := "fnRoadsUint32", fn := fun _ => fun
  | [d] => { results := [.lit (.bool false)], args := [d] }
  | _ => none }
def FnRoadsUint32WrongFalsely : Prop := fnRoadsUint32Row.holds Try.pinned (OpenSpec.ofChange fnRoadsUint32Wrong)

/- THE SECOND FORM. 'bulk': how many values and letters a reading holds, each counted each time it is reached (what is shared counts as often as it is met; a slice's spare places count too). A statement '..UptoSaid' is the law's where the arguments, and the package variables that the reading takes, are together of bulk at most 1048576: NARROWER than '..Said'. Prove '..Said' where nothing that the law and all that it calls make is longer than what came in: it says more and counts as full. Else prove '..UptoSaid'. A law counts once. -/
mutual
def uptoBulk {H : Type} : DataW H → Nat
  | .lit (.string bytes) => bytes.length + 1
  | .lit _ => 1
  | .nil => 1
  | .ptr d => uptoBulk d + 1
  | .slice elems spare => uptoBulkAll elems + uptoBulkAll spare + 1
  | .agg parts => uptoBulkAll parts + 1
  | .iface _ d => uptoBulk d + 1
  | .map entries => uptoBulkEntries entries + 1
  | .held _ => 1
def uptoBulkAll {H : Type} : List (DataW H) → Nat
  | [] => 0
  | d :: r => uptoBulk d + uptoBulkAll r
def uptoBulkEntries {H : Type} : List (Lit × DataW H) → Nat
  | [] => 0
  | x :: r => uptoBulkEntry x + uptoBulkEntries r
def uptoBulkEntry {H : Type} : Lit × DataW H → Nat
  | (.string bytes, d) => bytes.length + uptoBulk d + 1
  | (_, d) => uptoBulk d + 1
 end
def uptoSmall : (H : Type) → List (DataW H) → Bool := fun _ ds => decide (uptoBulkAll ds ≤ 1048576)
def OpenSpec.upto (s : _root_.Go.ChangeSpec) : _root_.Go.OpenSpec := { _root_.Go.OpenSpec.ofChange s with cond := some uptoSmall }

/-- 'laws.FnExactCallsUint32', WHERE WHAT IT READS IS OF BULK AT MOST 1048576: true; the input reads as it did. -/
def fnExactCallsUint32UptoRow : OpenClaim := { program := "ytdobfbkldiadmaa", sum := "74922a3e963fdedfa10021b3d7f1c4125af99849e98ff1a1c0d3020c5973a8c7", func := "loop.example/lib-atomicvalues/laws.FnExactCallsUint32", spec := "fnExactCallsUint32", inPlace := ["sync/atomic.StoreUint32", "sync/atomic.AddUint32", "sync/atomic.AndUint32", "sync/atomic.OrUint32", "sync/atomic.SwapUint32", "sync/atomic.CompareAndSwapUint32", "sync/atomic.LoadUint32"], apart := false, narrowed := true }
def FnExactCallsUint32UptoSaid : Prop := fnExactCallsUint32UptoRow.holds Try.pinned (OpenSpec.upto fnExactCallsUint32Spec)

/-- 'laws.FnComparedUint32', WHERE WHAT IT READS IS OF BULK AT MOST 1048576: true; the input reads as it did. -/
def fnComparedUint32UptoRow : OpenClaim := { program := "ytdobfbkldiadmaa", sum := "74922a3e963fdedfa10021b3d7f1c4125af99849e98ff1a1c0d3020c5973a8c7", func := "loop.example/lib-atomicvalues/laws.FnComparedUint32", spec := "fnComparedUint32", inPlace := ["sync/atomic.StoreUint32", "sync/atomic.AddUint32", "sync/atomic.AndUint32", "sync/atomic.OrUint32", "sync/atomic.SwapUint32", "sync/atomic.CompareAndSwapUint32", "sync/atomic.LoadUint32"], apart := false, narrowed := true }
def FnComparedUint32UptoSaid : Prop := fnComparedUint32UptoRow.holds Try.pinned (OpenSpec.upto fnComparedUint32Spec)

/-- 'laws.FnExactRunUint32', WHERE WHAT IT READS IS OF BULK AT MOST 1048576: true; the input reads as it did. -/
def fnExactRunUint32UptoRow : OpenClaim := { program := "ytdobfbkldiadmaa", sum := "74922a3e963fdedfa10021b3d7f1c4125af99849e98ff1a1c0d3020c5973a8c7", func := "loop.example/lib-atomicvalues/laws.FnExactRunUint32", spec := "fnExactRunUint32", inPlace := ["sync/atomic.StoreUint32", "sync/atomic.AddUint32", "sync/atomic.AndUint32", "sync/atomic.OrUint32", "sync/atomic.SwapUint32", "sync/atomic.CompareAndSwapUint32", "sync/atomic.LoadUint32"], apart := false, narrowed := true }
def FnExactRunUint32UptoSaid : Prop := fnExactRunUint32UptoRow.holds Try.pinned (OpenSpec.upto fnExactRunUint32Spec)

/-- 'laws.FnPartsUint32', WHERE WHAT IT READS IS OF BULK AT MOST 1048576: true; the input reads as it did. -/
def fnPartsUint32UptoRow : OpenClaim := { program := "ytdobfbkldiadmaa", sum := "74922a3e963fdedfa10021b3d7f1c4125af99849e98ff1a1c0d3020c5973a8c7", func := "loop.example/lib-atomicvalues/laws.FnPartsUint32", spec := "fnPartsUint32", inPlace := ["sync/atomic.StoreUint32", "sync/atomic.AddUint32", "sync/atomic.AndUint32", "sync/atomic.OrUint32", "sync/atomic.SwapUint32", "sync/atomic.CompareAndSwapUint32", "sync/atomic.LoadUint32"], apart := false, narrowed := true }
def FnPartsUint32UptoSaid : Prop := fnPartsUint32UptoRow.holds Try.pinned (OpenSpec.upto fnPartsUint32Spec)

/-- 'laws.FnStoredUint32', WHERE WHAT IT READS IS OF BULK AT MOST 1048576: true; the input reads as it did. -/
def fnStoredUint32UptoRow : OpenClaim := { program := "ytdobfbkldiadmaa", sum := "74922a3e963fdedfa10021b3d7f1c4125af99849e98ff1a1c0d3020c5973a8c7", func := "loop.example/lib-atomicvalues/laws.FnStoredUint32", spec := "fnStoredUint32", inPlace := ["sync/atomic.StoreUint32", "sync/atomic.AddUint32", "sync/atomic.AndUint32", "sync/atomic.OrUint32", "sync/atomic.SwapUint32", "sync/atomic.CompareAndSwapUint32", "sync/atomic.LoadUint32"], apart := false, narrowed := true }
def FnStoredUint32UptoSaid : Prop := fnStoredUint32UptoRow.holds Try.pinned (OpenSpec.upto fnStoredUint32Spec)

/-- 'laws.FnAddedByCompareUint32', WHERE WHAT IT READS IS OF BULK AT MOST 1048576: true; the input reads as it did. -/
def fnAddedByCompareUint32UptoRow : OpenClaim := { program := "ytdobfbkldiadmaa", sum := "74922a3e963fdedfa10021b3d7f1c4125af99849e98ff1a1c0d3020c5973a8c7", func := "loop.example/lib-atomicvalues/laws.FnAddedByCompareUint32", spec := "fnAddedByCompareUint32", inPlace := ["sync/atomic.StoreUint32", "sync/atomic.AddUint32", "sync/atomic.AndUint32", "sync/atomic.OrUint32", "sync/atomic.SwapUint32", "sync/atomic.CompareAndSwapUint32", "sync/atomic.LoadUint32", "sync/atomic.StoreInt32", "sync/atomic.AddInt32", "sync/atomic.AndInt32", "sync/atomic.OrInt32", "sync/atomic.SwapInt32", "sync/atomic.CompareAndSwapInt32", "sync/atomic.LoadInt32"], apart := false, narrowed := true }
def FnAddedByCompareUint32UptoSaid : Prop := fnAddedByCompareUint32UptoRow.holds Try.pinned (OpenSpec.upto fnAddedByCompareUint32Spec)

/-- 'laws.FnAddedUint32', WHERE WHAT IT READS IS OF BULK AT MOST 1048576: true; the input reads as it did. -/
def fnAddedUint32UptoRow : OpenClaim := { program := "ytdobfbkldiadmaa", sum := "74922a3e963fdedfa10021b3d7f1c4125af99849e98ff1a1c0d3020c5973a8c7", func := "loop.example/lib-atomicvalues/laws.FnAddedUint32", spec := "fnAddedUint32", inPlace := ["sync/atomic.StoreUint32", "sync/atomic.AddUint32", "sync/atomic.AndUint32", "sync/atomic.OrUint32", "sync/atomic.SwapUint32", "sync/atomic.CompareAndSwapUint32", "sync/atomic.LoadUint32", "sync/atomic.StoreInt32", "sync/atomic.AddInt32", "sync/atomic.AndInt32", "sync/atomic.OrInt32", "sync/atomic.SwapInt32", "sync/atomic.CompareAndSwapInt32", "sync/atomic.LoadInt32"], apart := false, narrowed := true }
def FnAddedUint32UptoSaid : Prop := fnAddedUint32UptoRow.holds Try.pinned (OpenSpec.upto fnAddedUint32Spec)

/-- 'laws.FnEmptyUint32', WHERE WHAT IT READS IS OF BULK AT MOST 1048576: true; the input reads as it did. -/
def fnEmptyUint32UptoRow : OpenClaim := { program := "ytdobfbkldiadmaa", sum := "74922a3e963fdedfa10021b3d7f1c4125af99849e98ff1a1c0d3020c5973a8c7", func := "loop.example/lib-atomicvalues/laws.FnEmptyUint32", spec := "fnEmptyUint32", inPlace := ["sync/atomic.StoreUint32", "sync/atomic.AddUint32", "sync/atomic.AndUint32", "sync/atomic.OrUint32", "sync/atomic.SwapUint32", "sync/atomic.CompareAndSwapUint32", "sync/atomic.LoadUint32", "sync/atomic.StoreInt32", "sync/atomic.AddInt32", "sync/atomic.AndInt32", "sync/atomic.OrInt32", "sync/atomic.SwapInt32", "sync/atomic.CompareAndSwapInt32", "sync/atomic.LoadInt32"], apart := false, narrowed := true }
def FnEmptyUint32UptoSaid : Prop := fnEmptyUint32UptoRow.holds Try.pinned (OpenSpec.upto fnEmptyUint32Spec)

/-- 'laws.FnExchangedUint32', WHERE WHAT IT READS IS OF BULK AT MOST 1048576: true; the input reads as it did. -/
def fnExchangedUint32UptoRow : OpenClaim := { program := "ytdobfbkldiadmaa", sum := "74922a3e963fdedfa10021b3d7f1c4125af99849e98ff1a1c0d3020c5973a8c7", func := "loop.example/lib-atomicvalues/laws.FnExchangedUint32", spec := "fnExchangedUint32", inPlace := ["sync/atomic.StoreUint32", "sync/atomic.AddUint32", "sync/atomic.AndUint32", "sync/atomic.OrUint32", "sync/atomic.SwapUint32", "sync/atomic.CompareAndSwapUint32", "sync/atomic.LoadUint32", "sync/atomic.StoreInt32", "sync/atomic.AddInt32", "sync/atomic.AndInt32", "sync/atomic.OrInt32", "sync/atomic.SwapInt32", "sync/atomic.CompareAndSwapInt32", "sync/atomic.LoadInt32"], apart := false, narrowed := true }
def FnExchangedUint32UptoSaid : Prop := fnExchangedUint32UptoRow.holds Try.pinned (OpenSpec.upto fnExchangedUint32Spec)

/-- 'laws.FnMaskedUint32', WHERE WHAT IT READS IS OF BULK AT MOST 1048576: true; the input reads as it did. -/
def fnMaskedUint32UptoRow : OpenClaim := { program := "ytdobfbkldiadmaa", sum := "74922a3e963fdedfa10021b3d7f1c4125af99849e98ff1a1c0d3020c5973a8c7", func := "loop.example/lib-atomicvalues/laws.FnMaskedUint32", spec := "fnMaskedUint32", inPlace := ["sync/atomic.StoreUint32", "sync/atomic.AddUint32", "sync/atomic.AndUint32", "sync/atomic.OrUint32", "sync/atomic.SwapUint32", "sync/atomic.CompareAndSwapUint32", "sync/atomic.LoadUint32", "sync/atomic.StoreInt32", "sync/atomic.AddInt32", "sync/atomic.AndInt32", "sync/atomic.OrInt32", "sync/atomic.SwapInt32", "sync/atomic.CompareAndSwapInt32", "sync/atomic.LoadInt32"], apart := false, narrowed := true }
def FnMaskedUint32UptoSaid : Prop := fnMaskedUint32UptoRow.holds Try.pinned (OpenSpec.upto fnMaskedUint32Spec)

/-- 'laws.FnPartedUint32', WHERE WHAT IT READS IS OF BULK AT MOST 1048576: true; the input reads as it did. -/
def fnPartedUint32UptoRow : OpenClaim := { program := "ytdobfbkldiadmaa", sum := "74922a3e963fdedfa10021b3d7f1c4125af99849e98ff1a1c0d3020c5973a8c7", func := "loop.example/lib-atomicvalues/laws.FnPartedUint32", spec := "fnPartedUint32", inPlace := ["sync/atomic.StoreUint32", "sync/atomic.AddUint32", "sync/atomic.AndUint32", "sync/atomic.OrUint32", "sync/atomic.SwapUint32", "sync/atomic.CompareAndSwapUint32", "sync/atomic.LoadUint32", "sync/atomic.StoreInt32", "sync/atomic.AddInt32", "sync/atomic.AndInt32", "sync/atomic.OrInt32", "sync/atomic.SwapInt32", "sync/atomic.CompareAndSwapInt32", "sync/atomic.LoadInt32"], apart := false, narrowed := true }
def FnPartedUint32UptoSaid : Prop := fnPartedUint32UptoRow.holds Try.pinned (OpenSpec.upto fnPartedUint32Spec)

/-- 'laws.FnRoadsUint32', WHERE WHAT IT READS IS OF BULK AT MOST 1048576: true; the input reads as it did. -/
def fnRoadsUint32UptoRow : OpenClaim := { program := "ytdobfbkldiadmaa", sum := "74922a3e963fdedfa10021b3d7f1c4125af99849e98ff1a1c0d3020c5973a8c7", func := "loop.example/lib-atomicvalues/laws.FnRoadsUint32", spec := "fnRoadsUint32", inPlace := ["sync/atomic.StoreUint32", "sync/atomic.AddUint32", "sync/atomic.AndUint32", "sync/atomic.OrUint32", "sync/atomic.SwapUint32", "sync/atomic.CompareAndSwapUint32", "sync/atomic.LoadUint32", "sync/atomic.StoreInt32", "sync/atomic.AddInt32", "sync/atomic.AndInt32", "sync/atomic.OrInt32", "sync/atomic.SwapInt32", "sync/atomic.CompareAndSwapInt32", "sync/atomic.LoadInt32"], apart := false, narrowed := true }
def FnRoadsUint32UptoSaid : Prop := fnRoadsUint32UptoRow.holds Try.pinned (OpenSpec.upto fnRoadsUint32Spec)

end Rows
end Go.Proofs.Ytdobfbkldiadmaa
