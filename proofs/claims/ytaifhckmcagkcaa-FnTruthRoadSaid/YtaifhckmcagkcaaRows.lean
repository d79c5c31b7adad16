/-
  No cell of these rows narrows 'for every input' (looked for: loops, veiled, ifaces, maps, wideKeys, modest, calm, conditions, laid).
  DERIVED. THE GIVEN ROWS OF THIS SEAT. 5 by the template 'for every input the law returns true; each argument reads behind the call as it read before'; 0 by the template 'total and deterministic' (their statements: YtaifhckmcagkcaaTotals.lean).
  GIVEN WITH THE SEED: the statements are not yours to turn. If you find one false, say at which input.
  Laid BY PROGRAM, IN A SANDBOX (cutbox-rows.mjs): the forced cells as the released guide's own fill.sh prints them over the translation 1869301f737fe2c0… (all of the seat's roots in one cut). By AI agents, Wed Nov 11 2026. No macro, syntax, notation, axiom, sorry.
-/
import Derived.Test.YtaifhckmcagkcaaChecked
import GoSem.Claim
import GoSem.ClaimJoined
import GoSem.ClaimMapViews
import Derived.JoinedTies
import Derived.KernelRfl
namespace Go.Proofs.Ytaifhckmcagkcaa
/- THE CELL 'sum', in the pinned program and in every row, IS THE sha256 OF THE DUMP (.gsa) THAT YtaifhckmcagkcaaProg.lean LOADS. Nothing in Lean hashes anything: it is a label: what it is worth is what the hold of that sum in a sandbox is worth. -/
noncomputable def Try.pinned : Pinned := { name := "ytaifhckmcagkcaa", sum := "1869301f737fe2c05e310d9edd8ff0222fc8a21123f8c94f751283f9f18f3e07", checked := Try.checked }
namespace Rows
def none {H : Type} : Left H := { results := [], args := [] }

/-- 'laws.FnExactRunBool': WHATEVER THE INPUT: true; the input reads as it did. -/
def fnExactRunBoolSpec : ChangeSpec := { name := "fnExactRunBool", fn := fun _ => fun
  | [d] => { results := [.lit (.bool true)], args := [d] }
  | _ => none }
def fnExactRunBoolRow : OpenClaim := { program := "ytaifhckmcagkcaa", sum := "1869301f737fe2c05e310d9edd8ff0222fc8a21123f8c94f751283f9f18f3e07", func := "loop.example/lib-atomicvalues/laws.FnExactRunBool", spec := "fnExactRunBool", inPlace := ["sync/atomic.StoreUint32", "sync/atomic.SwapUint32", "sync/atomic.CompareAndSwapUint32", "sync/atomic.LoadUint32"], apart := false }
def FnExactRunBoolSaid : Prop := fnExactRunBoolRow.holds Try.pinned (OpenSpec.ofChange fnExactRunBoolSpec)

/-- ITS FALSE NEIGHBOUR: 'it returns false'. Refute it at one input. -/
def fnExactRunBoolWrong : ChangeSpec := { name := "fnExactRunBool", fn := fun _ => fun
  | [d] => { results := [.lit (.bool false)], args := [d] }
  | _ => none }
def FnExactRunBoolWrongFalsely : Prop := fnExactRunBoolRow.holds Try.pinned (OpenSpec.ofChange fnExactRunBoolWrong)

/-- 'laws.FnTruthCompared': WHATEVER THE INPUT: true; the input reads as it did. -/
def fnTruthComparedSpec : ChangeSpec := { name := "fnTruthCompared", fn := fun _ => fun
  | [d] => { results := [.lit (.bool true)], args := [d] }
  | _ => none }
def fnTruthComparedRow : OpenClaim := { program := "ytaifhckmcagkcaa", sum := "1869301f737fe2c05e310d9edd8ff0222fc8a21123f8c94f751283f9f18f3e07", func := "loop.example/lib-atomicvalues/laws.FnTruthCompared", spec := "fnTruthCompared", inPlace := ["sync/atomic.StoreUint32", "sync/atomic.SwapUint32", "sync/atomic.CompareAndSwapUint32", "sync/atomic.LoadUint32"], apart := false }
def FnTruthComparedSaid : Prop := fnTruthComparedRow.holds Try.pinned (OpenSpec.ofChange fnTruthComparedSpec)

/-- ITS FALSE NEIGHBOUR: 'it returns false'. Refute it at one input. -/
def fnTruthComparedWrong : ChangeSpec := { name := "fnTruthCompared", fn := fun _ => fun
  | [d] => { results := [.lit (.bool false)], args := [d] }
  | _ => none }
def FnTruthComparedWrongFalsely : Prop := fnTruthComparedRow.holds Try.pinned (OpenSpec.ofChange fnTruthComparedWrong)

/-- 'laws.FnTruthEmpty': WHATEVER THE INPUT: true; the input reads as it did. -/
def fnTruthEmptySpec : ChangeSpec := { name := "fnTruthEmpty", fn := fun _ => fun
  | [d] => { results := [.lit (.bool true)], args := [d] }
  | _ => none }
def fnTruthEmptyRow : OpenClaim := { program := "ytaifhckmcagkcaa", sum := "1869301f737fe2c05e310d9edd8ff0222fc8a21123f8c94f751283f9f18f3e07", func := "loop.example/lib-atomicvalues/laws.FnTruthEmpty", spec := "fnTruthEmpty", inPlace := ["sync/atomic.StoreUint32", "sync/atomic.SwapUint32", "sync/atomic.CompareAndSwapUint32", "sync/atomic.LoadUint32"], apart := false }
def FnTruthEmptySaid : Prop := fnTruthEmptyRow.holds Try.pinned (OpenSpec.ofChange fnTruthEmptySpec)

/-- ITS FALSE NEIGHBOUR: 'it returns false'. Refute it at one input. -/
def fnTruthEmptyWrong : ChangeSpec := { name := "fnTruthEmpty", fn := fun _ => fun
  | [d] => { results := [.lit (.bool false)], args := [d] }
  | _ => none }
def FnTruthEmptyWrongFalsely : Prop := fnTruthEmptyRow.holds Try.pinned (OpenSpec.ofChange fnTruthEmptyWrong)

/-- 'laws.FnTruthParts': WHATEVER THE INPUT: true; the input reads as it did. -/
def fnTruthPartsSpec : ChangeSpec := { name := "fnTruthParts", fn := fun _ => fun
  | [d] => { results := [.lit (.bool true)], args := [d] }
  | _ => none }
def fnTruthPartsRow : OpenClaim := { program := "ytaifhckmcagkcaa", sum := "1869301f737fe2c05e310d9edd8ff0222fc8a21123f8c94f751283f9f18f3e07", func := "loop.example/lib-atomicvalues/laws.FnTruthParts", spec := "fnTruthParts", inPlace := ["sync/atomic.StoreUint32", "sync/atomic.SwapUint32", "sync/atomic.CompareAndSwapUint32", "sync/atomic.LoadUint32"], apart := false }
def FnTruthPartsSaid : Prop := fnTruthPartsRow.holds Try.pinned (OpenSpec.ofChange fnTruthPartsSpec)

/-- ITS FALSE NEIGHBOUR: 'it returns false'. Refute it at one input. -/
def fnTruthPartsWrong : ChangeSpec := { name := "fnTruthParts", fn := fun _ => fun
  | [d] => { results := [.lit (.bool false)], args := [d] }
  | _ => none }
def FnTruthPartsWrongFalsely : Prop := fnTruthPartsRow.holds Try.pinned (OpenSpec.ofChange fnTruthPartsWrong)

/-- 'laws.FnTruthRoad': WHATEVER THE INPUT: true; the input reads as it did. -/
def fnTruthRoadSpec : ChangeSpec := { name := "fnTruthRoad", fn := fun _ => fun
  | [d] => { results := [.lit (.bool true)], args := [d] }
  | _ => none }
def fnTruthRoadRow : OpenClaim := { program := "ytaifhckmcagkcaa", sum := "1869301f737fe2c05e310d9edd8ff0222fc8a21123f8c94f751283f9f18f3e07", func := "loop.example/lib-atomicvalues/laws.FnTruthRoad", spec := "fnTruthRoad", inPlace := ["sync/atomic.StoreUint32", "sync/atomic.SwapUint32", "sync/atomic.CompareAndSwapUint32", "sync/atomic.LoadUint32", "sync/atomic.StoreInt32", "sync/atomic.AddInt32", "sync/atomic.AndInt32", "sync/atomic.OrInt32", "sync/atomic.SwapInt32", "sync/atomic.CompareAndSwapInt32", "sync/atomic.LoadInt32"], apart := false }
def FnTruthRoadSaid : Prop := fnTruthRoadRow.holds Try.pinned (OpenSpec.ofChange fnTruthRoadSpec)

/-- ITS FALSE NEIGHBOUR: 'it returns false'. Refute it at one input. -/
def fnTruthRoadWrong : ChangeSpec := { name := "fnTruthRoad", fn := fun _ => fun
  | [d] => { results := [.lit (.bool false)], args := [d] }
  | _ => none }
def FnTruthRoadWrongFalsely : Prop := fnTruthRoadRow.holds Try.pinned (OpenSpec.ofChange fnTruthRoadWrong)

/- THE SECOND FORM. 'bulk': how many values and letters a reading holds, each counted each time it is reached (what is shared counts as often as it is met; a slice's spare places count too). A statement '..UptoSaid' is the law's where the arguments, and the package variables that the reading takes, are together of bulk at most 1048576: NARROWER than '..Said'. Prove '..Said' where nothing that the law and all that it calls make is longer than what came in: it says more and counts as full. Else prove '..UptoSaid'. A law counts once. -/
mutual
def uptoBulk {H : Type} : DataW H → Nat
  | .lit (.string bytes) => bytes.length + 1
  | .lit _ => 1
  | .nil => 1
  | .ptr d => uptoBulk d + 1
  | .slice elems spare => uptoBulkAll elems + uptoBulkAll spare + 1
  | .agg parts => uptoBulkAll parts + 1
  | .iface _ d => uptoBulk d + 1
  | .map entries => uptoBulkEntries entries + 1
  | .held _ => 1
def uptoBulkAll {H : Type} : List (DataW H) → Nat
  | [] => 0
  | d :: r => uptoBulk d + uptoBulkAll r
def uptoBulkEntries {H : Type} : List (Lit × DataW H) → Nat
  | [] => 0
  | x :: r => uptoBulkEntry x + uptoBulkEntries r
def uptoBulkEntry {H : Type} : Lit × DataW H → Nat
  | (.string bytes, d) => bytes.length + uptoBulk d + 1
  | (_, d) => uptoBulk d + 1
 end
def uptoSmall : (H : Type) → List (DataW H) → Bool := fun _ ds => decide (uptoBulkAll ds ≤ 1048576)
def OpenSpec.upto (s : _root_.Go.ChangeSpec) : _root_.Go.OpenSpec := { _root_.Go.OpenSpec.ofChange s with cond := some uptoSmall }

/-- 'laws.FnExactRunBool', WHERE WHAT IT READS IS OF BULK AT MOST 1048576: true; the input reads as it did. -/
def fnExactRunBoolUptoRow : OpenClaim := { program := "ytaifhckmcagkcaa", sum := "1869301f737fe2c05e310d9edd8ff0222fc8a21123f8c94f751283f9f18f3e07", func := "loop.example/lib-atomicvalues/laws.FnExactRunBool", spec := "fnExactRunBool", inPlace := ["sync/atomic.StoreUint32", "sync/atomic.SwapUint32", "sync/atomic.CompareAndSwapUint32", "sync/atomic.LoadUint32"], apart := false, narrowed := true }
def FnExactRunBoolUptoSaid : Prop := fnExactRunBoolUptoRow.holds Try.pinned (OpenSpec.upto fnExactRunBoolSpec)

/-- 'laws.FnTruthCompared', WHERE WHAT IT READS IS OF BULK AT MOST 1048576: true; the input reads as it did. -/
def fnTruthComparedUptoRow : OpenClaim := { program := "ytaifhckmcagkcaa", sum := "1869301f737fe2c05e310d9edd8ff0222fc8a21123f8c94f751283f9f18f3e07", func := "loop.example/lib-atomicvalues/laws.FnTruthCompared", spec := "fnTruthCompared", inPlace := ["sync/atomic.StoreUint32", "sync/atomic.SwapUint32", "sync/atomic.CompareAndSwapUint32", "sync/atomic.LoadUint32"], apart := false, narrowed := true }
def FnTruthComparedUptoSaid : Prop := fnTruthComparedUptoRow.holds Try.pinned (OpenSpec.upto fnTruthComparedSpec)

/-- 'laws.FnTruthEmpty', WHERE WHAT IT READS IS OF BULK AT MOST 1048576: true; the input reads as it did. -/
def fnTruthEmptyUptoRow : OpenClaim := { program := "ytaifhckmcagkcaa", sum := "1869301f737fe2c05e310d9edd8ff0222fc8a21123f8c94f751283f9f18f3e07", func := "loop.example/lib-atomicvalues/laws.FnTruthEmpty", spec := "fnTruthEmpty", inPlace := ["sync/atomic.StoreUint32", "sync/atomic.SwapUint32", "sync/atomic.CompareAndSwapUint32", "sync/atomic.LoadUint32"], apart := false, narrowed := true }
def FnTruthEmptyUptoSaid : Prop := fnTruthEmptyUptoRow.holds Try.pinned (OpenSpec.upto fnTruthEmptySpec)

/-- 'laws.FnTruthParts', WHERE WHAT IT READS IS OF BULK AT MOST 1048576: true; the input reads as it did. -/
def fnTruthPartsUptoRow : OpenClaim := { program := "ytaifhckmcagkcaa", sum := "1869301f737fe2c05e310d9edd8ff0222fc8a21123f8c94f751283f9f18f3e07", func := "loop.example/lib-atomicvalues/laws.FnTruthParts", spec := "fnTruthParts", inPlace := ["sync/atomic.StoreUint32", "sync/atomic.SwapUint32", "sync/atomic.CompareAndSwapUint32", "sync/atomic.LoadUint32"], apart := false, narrowed := true }
def FnTruthPartsUptoSaid : Prop := fnTruthPartsUptoRow.holds Try.pinned (OpenSpec.upto fnTruthPartsSpec)

/-- 'laws.FnTruthRoad', WHERE WHAT IT READS IS OF BULK AT MOST 1048576: true; the input reads as it did. -/
def fnTruthRoadUptoRow : OpenClaim := { program := "ytaifhckmcagkcaa", sum := "1869301f737fe2c05e310d9edd8ff0222fc8a21123f8c94f751283f9f18f3e07", func := "loop.example/lib-atomicvalues/laws.FnTruthRoad", spec := "fnTruthRoad", inPlace := ["sync/atomic.StoreUint32", "sync/atomic.SwapUint32", "sync/atomic.CompareAndSwapUint32", "sync/atomic.LoadUint32", "sync/atomic.StoreInt32", "sync/atomic.AddInt32", "sync/atomic.AndInt32", "sync/atomic.OrInt32", "sync/atomic.SwapInt32", "sync/atomic.CompareAndSwapInt32", "sync/atomic.LoadInt32"], apart := false, narrowed := true }
def FnTruthRoadUptoSaid : Prop := fnTruthRoadUptoRow.holds Try.pinned (OpenSpec.upto fnTruthRoadSpec)

end Rows
end Go.Proofs.Ytaifhckmcagkcaa
