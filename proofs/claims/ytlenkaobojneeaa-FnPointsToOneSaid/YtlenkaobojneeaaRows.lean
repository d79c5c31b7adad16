/-
  No cell of these rows narrows 'for every input' (looked for: loops, veiled, ifaces, maps, wideKeys, modest, calm, conditions, laid).
  DERIVED. THE GIVEN ROWS OF THIS SEAT. 5 by the template 'for every input the law returns true; each argument reads behind the call as it read before'; 0 by the template 'total and deterministic' (their statements: YtlenkaobojneeaaTotals.lean).
  GIVEN WITH THE SEED: the statements are not yours to turn. If you find one false, say at which input.
  Laid BY PROGRAM, IN A SANDBOX (cutbox-rows.mjs): the forced cells as the released guide's own fill.sh prints them over the translation ae834a36755f83da… (all of the seat's roots in one cut). By AI agents, Wed Nov 11 2026. No macro, syntax, notation, axiom, sorry.
-/
import Derived.Test.YtlenkaobojneeaaChecked
import GoSem.Claim
import GoSem.ClaimJoined
import GoSem.ClaimMapViews
import Derived.JoinedTies
import Derived.KernelRfl
namespace Go.Proofs.Ytlenkaobojneeaa
/- THE CELL 'sum', in the pinned program and in every row, IS THE sha256 OF THE DUMP (.gsa) THAT YtlenkaobojneeaaProg.lean LOADS. Nothing in Lean hashes anything: it is a label: what it is worth is what the hold of that sum in a sandbox is worth. -/
noncomputable def Try.pinned : Pinned := { name := "ytlenkaobojneeaa", sum := "ae834a36755f83da427c083ea644b8a65014f60ab35ece25fa79656dda914487", checked := Try.checked }
namespace Rows
def none {H : Type} : Left H := { results := [], args := [] }

/-- 'laws.FnExactRunPointer': WHATEVER THE INPUT: true; the input reads as it did. -/
def fnExactRunPointerSpec : ChangeSpec := { name := "fnExactRunPointer", fn := fun _ => fun
  | [d] => { results := [.lit (.bool true)], args := [d] }
  | _ => none }
def fnExactRunPointerRow : OpenClaim := { program := "ytlenkaobojneeaa", sum := "ae834a36755f83da427c083ea644b8a65014f60ab35ece25fa79656dda914487", func := "loop.example/lib-atomicvalues/laws.FnExactRunPointer", spec := "fnExactRunPointer", inPlace := ["sync/atomic.StorePointer", "sync/atomic.SwapPointer", "sync/atomic.CompareAndSwapPointer", "sync/atomic.LoadPointer"], apart := false }
def FnExactRunPointerSaid : Prop := fnExactRunPointerRow.holds Try.pinned (OpenSpec.ofChange fnExactRunPointerSpec)

/-- ITS FALSE NEIGHBOUR: 'it returns false'. Refute it at one input. -/
def fnExactRunPointerWrong : ChangeSpec := { name := "fnExactRunPointer", fn := fun _ => fun
  | [d] => { results := [.lit (.bool false)], args := [d] }
  | _ => none }
def FnExactRunPointerWrongFalsely : Prop := fnExactRunPointerRow.holds Try.pinned (OpenSpec.ofChange fnExactRunPointerWrong)

/-- 'laws.FnPointerParts': WHATEVER THE INPUT: true; the input reads as it did. -/
def fnPointerPartsSpec : ChangeSpec := { name := "fnPointerParts", fn := fun _ => fun
  | [d] => { results := [.lit (.bool true)], args := [d] }
  | _ => none }
def fnPointerPartsRow : OpenClaim := { program := "ytlenkaobojneeaa", sum := "ae834a36755f83da427c083ea644b8a65014f60ab35ece25fa79656dda914487", func := "loop.example/lib-atomicvalues/laws.FnPointerParts", spec := "fnPointerParts", inPlace := ["sync/atomic.StorePointer", "sync/atomic.SwapPointer", "sync/atomic.CompareAndSwapPointer", "sync/atomic.LoadPointer"], apart := false }
def FnPointerPartsSaid : Prop := fnPointerPartsRow.holds Try.pinned (OpenSpec.ofChange fnPointerPartsSpec)

/-- ITS FALSE NEIGHBOUR: 'it returns false'. Refute it at one input. -/
def fnPointerPartsWrong : ChangeSpec := { name := "fnPointerParts", fn := fun _ => fun
  | [d] => { results := [.lit (.bool false)], args := [d] }
  | _ => none }
def FnPointerPartsWrongFalsely : Prop := fnPointerPartsRow.holds Try.pinned (OpenSpec.ofChange fnPointerPartsWrong)

/-- 'laws.FnPointsNowhere': WHATEVER THE INPUT: true; the input reads as it did. -/
def fnPointsNowhereSpec : ChangeSpec := { name := "fnPointsNowhere", fn := fun _ => fun
  | [d] => { results := [.lit (.bool true)], args := [d] }
  | _ => none }
def fnPointsNowhereRow : OpenClaim := { program := "ytlenkaobojneeaa", sum := "ae834a36755f83da427c083ea644b8a65014f60ab35ece25fa79656dda914487", func := "loop.example/lib-atomicvalues/laws.FnPointsNowhere", spec := "fnPointsNowhere", inPlace := ["sync/atomic.StorePointer", "sync/atomic.SwapPointer", "sync/atomic.CompareAndSwapPointer", "sync/atomic.LoadPointer"], apart := false }
def FnPointsNowhereSaid : Prop := fnPointsNowhereRow.holds Try.pinned (OpenSpec.ofChange fnPointsNowhereSpec)

/-- ITS FALSE NEIGHBOUR: 'it returns false'. Refute it at one input. -/
def fnPointsNowhereWrong : ChangeSpec := { name := "fnPointsNowhere", fn := fun _ => fun
  | [d] => { results := [.lit (.bool false)], args := [d] }
  | _ => none }
def FnPointsNowhereWrongFalsely : Prop := fnPointsNowhereRow.holds Try.pinned (OpenSpec.ofChange fnPointsNowhereWrong)

/-- 'laws.FnPointsToOne': WHATEVER THE INPUT: true; the input reads as it did. -/
def fnPointsToOneSpec : ChangeSpec := { name := "fnPointsToOne", fn := fun _ => fun
  | [d] => { results := [.lit (.bool true)], args := [d] }
  | _ => none }
def fnPointsToOneRow : OpenClaim := { program := "ytlenkaobojneeaa", sum := "ae834a36755f83da427c083ea644b8a65014f60ab35ece25fa79656dda914487", func := "loop.example/lib-atomicvalues/laws.FnPointsToOne", spec := "fnPointsToOne", inPlace := ["sync/atomic.StorePointer", "sync/atomic.SwapPointer", "sync/atomic.CompareAndSwapPointer", "sync/atomic.LoadPointer"], apart := false }
def FnPointsToOneSaid : Prop := fnPointsToOneRow.holds Try.pinned (OpenSpec.ofChange fnPointsToOneSpec)

/-- ITS FALSE NEIGHBOUR: 'it returns false'. Refute it at one input. -/
def fnPointsToOneWrong : ChangeSpec := { name := "fnPointsToOne", fn := fun _ => fun
  | [d] => { results := [.lit (.bool false)], args := [d] }
  | _ => none }
def FnPointsToOneWrongFalsely : Prop := fnPointsToOneRow.holds Try.pinned (OpenSpec.ofChange fnPointsToOneWrong)

/-- 'laws.FnPointerRoad': WHATEVER THE INPUT: true; the input reads as it did. -/
def fnPointerRoadSpec : ChangeSpec := { name := "fnPointerRoad", fn := fun _ => fun
  | [d] => { results := [.lit (.bool true)], args := [d] }
  | _ => none }
def fnPointerRoadRow : OpenClaim := { program := "ytlenkaobojneeaa", sum := "ae834a36755f83da427c083ea644b8a65014f60ab35ece25fa79656dda914487", func := "loop.example/lib-atomicvalues/laws.FnPointerRoad", spec := "fnPointerRoad", inPlace := ["sync/atomic.StorePointer", "sync/atomic.SwapPointer", "sync/atomic.CompareAndSwapPointer", "sync/atomic.LoadPointer", "sync/atomic.StoreInt64", "sync/atomic.AddInt64", "sync/atomic.AndInt64", "sync/atomic.OrInt64", "sync/atomic.SwapInt64", "sync/atomic.CompareAndSwapInt64", "sync/atomic.LoadInt64"], apart := false }
def FnPointerRoadSaid : Prop := fnPointerRoadRow.holds Try.pinned (OpenSpec.ofChange fnPointerRoadSpec)

/-- ITS FALSE NEIGHBOUR: 'it returns false'. Refute it at one input. -/
def fnPointerRoadWrong : ChangeSpec := { name := "fnPointerRoad", fn := fun _ => fun
  | [d] => { results := [.lit (.bool false)], args := [d] }
  | _ => none }
def FnPointerRoadWrongFalsely : Prop := fnPointerRoadRow.holds Try.pinned (OpenSpec.ofChange fnPointerRoadWrong)

/- THE SECOND FORM. 'bulk': how many values and letters a reading holds, each counted each time it is reached (what is shared counts as often as it is met; a slice's spare places count too). A statement '..UptoSaid' is the law's where the arguments, and the package variables that the reading takes, are together of bulk at most 1048576: NARROWER than '..Said'. Prove '..Said' where nothing that the law and all that it calls make is longer than what came in: it says more and counts as full. Else prove '..UptoSaid'. A law counts once. -/
mutual
def uptoBulk {H : Type} : DataW H → Nat
  | .lit (.string bytes) => bytes.length + 1
  | .lit _ => 1
  | .nil => 1
  | .ptr d => uptoBulk d + 1
  | .slice elems spare => uptoBulkAll elems + uptoBulkAll spare + 1
  | .agg parts => uptoBulkAll parts + 1
  | .iface _ d => uptoBulk d + 1
  | .map entries => uptoBulkEntries entries + 1
  | .held _ => 1
def uptoBulkAll {H : Type} : List (DataW H) → Nat
  | [] => 0
  | d :: r => uptoBulk d + uptoBulkAll r
def uptoBulkEntries {H : Type} : List (Lit × DataW H) → Nat
  | [] => 0
  | x :: r => uptoBulkEntry x + uptoBulkEntries r
def uptoBulkEntry {H : Type} : Lit × DataW H → Nat
  | (.string bytes, d) => bytes.length + uptoBulk d + 1
  | (_, d) => uptoBulk d + 1
 end
def uptoSmall : (H : Type) → List (DataW H) → Bool := fun _ ds => decide (uptoBulkAll ds ≤ 1048576)
def OpenSpec.upto (s : _root_.Go.ChangeSpec) : _root_.Go.OpenSpec := { _root_.Go.OpenSpec.ofChange s with cond := some uptoSmall }

/-- 'laws.FnExactRunPointer', WHERE WHAT IT READS IS OF BULK AT MOST 1048576: true; the input reads as it did. -/
def fnExactRunPointerUptoRow : OpenClaim := { program := "ytlenkaobojneeaa", sum := "ae834a36755f83da427c083ea644b8a65014f60ab35ece25fa79656dda914487", func := "loop.example/lib-atomicvalues/laws.FnExactRunPointer", spec := "fnExactRunPointer", inPlace := ["sync/atomic.StorePointer", "sync/atomic.SwapPointer", "sync/atomic.CompareAndSwapPointer", "sync/atomic.LoadPointer"], apart := false, narrowed := true }
def FnExactRunPointerUptoSaid : Prop := fnExactRunPointerUptoRow.holds Try.pinned (OpenSpec.upto fnExactRunPointerSpec)

/-- 'laws.FnPointerParts', WHERE WHAT IT READS IS OF BULK AT MOST 1048576: true; the input reads as it did. -/
def fnPointerPartsUptoRow : OpenClaim := { program := "ytlenkaobojneeaa", sum := "ae834a36755f83da427c083ea644b8a65014f60ab35ece25fa79656dda914487", func := "loop.example/lib-atomicvalues/laws.FnPointerParts", spec := "fnPointerParts", inPlace := ["sync/atomic.StorePointer", "sync/atomic.SwapPointer", "sync/atomic.CompareAndSwapPointer", "sync/atomic.LoadPointer"], apart := false, narrowed := true }
def FnPointerPartsUptoSaid : Prop := fnPointerPartsUptoRow.holds Try.pinned (OpenSpec.upto fnPointerPartsSpec)

/-- 'laws.FnPointsNowhere', WHERE WHAT IT READS IS OF BULK AT MOST 1048576: true; the input reads as it did. -/
def fnPointsNowhereUptoRow : OpenClaim := { program := "ytlenkaobojneeaa", sum := "ae834a36755f83da427c083ea644b8a65014f60ab35ece25fa79656dda914487", func := "loop.example/lib-atomicvalues/laws.FnPointsNowhere", spec := "fnPointsNowhere", inPlace := ["sync/atomic.StorePointer", "sync/atomic.SwapPointer", "sync/atomic.CompareAndSwapPointer", "sync/atomic.LoadPointer"], apart := false, narrowed := true }
def FnPointsNowhereUptoSaid : Prop := fnPointsNowhereUptoRow.holds Try.pinned (OpenSpec.upto fnPointsNowhereSpec)

/-- 'laws.FnPointsToOne', WHERE WHAT IT READS IS OF BULK AT MOST 1048576: true; the input reads as it did. -/
def fnPointsToOneUptoRow : OpenClaim := { program := "ytlenkaobojneeaa", sum := "ae834a36755f83da427c083ea644b8a65014f60ab35ece25fa79656dda914487", func := "loop.example/lib-atomicvalues/laws.FnPointsToOne", spec := "fnPointsToOne", inPlace := ["sync/atomic.StorePointer", "sync/atomic.SwapPointer", "sync/atomic.CompareAndSwapPointer", "sync/atomic.LoadPointer"], apart := false, narrowed := true }
def FnPointsToOneUptoSaid : Prop := fnPointsToOneUptoRow.holds Try.pinned (OpenSpec.upto fnPointsToOneSpec)

/-- 'laws.FnPointerRoad', WHERE WHAT IT READS IS OF BULK AT MOST 1048576: true; the input reads as it did. -/
def fnPointerRoadUptoRow : OpenClaim := { program := "ytlenkaobojneeaa", sum := "ae834a36755f83da427c083ea644b8a65014f60ab35ece25fa79656dda914487", func := "loop.example/lib-atomicvalues/laws.FnPointerRoad", spec := "fnPointerRoad", inPlace := ["sync/atomic.StorePointer", "sync/atomic.SwapPointer", "sync/atomic.CompareAndSwapPointer", "sync/atomic.LoadPointer", "sync/atomic.StoreInt64", "sync/atomic.AddInt64", "sync/atomic.AndInt64", "sync/atomic.OrInt64", "sync/atomic.SwapInt64", "sync/atomic.CompareAndSwapInt64", "sync/atomic.LoadInt64"], apart := false, narrowed := true }
def FnPointerRoadUptoSaid : Prop := fnPointerRoadUptoRow.holds Try.pinned (OpenSpec.upto fnPointerRoadSpec)

end Rows
end Go.Proofs.Ytlenkaobojneeaa
