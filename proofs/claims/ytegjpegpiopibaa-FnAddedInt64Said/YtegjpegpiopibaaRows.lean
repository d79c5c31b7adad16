/-
  No cell of these rows narrows 'for every input' (looked for: loops, veiled, ifaces, maps, wideKeys, modest, calm, conditions, laid).
  DERIVED. THE GIVEN ROWS OF THIS SEAT. 12 by the template 'for every input the law returns true; each argument reads behind the call as it read before'; 0 by the template 'total and deterministic' (their statements: YtegjpegpiopibaaTotals.lean).
  GIVEN WITH THE SEED: the statements are not yours to turn. If you find one false, say at which input.
  Laid BY PROGRAM, IN A SANDBOX (cutbox-rows.mjs): the forced cells as the released guide's own fill.sh prints them over the translation 3fc24fa9a8ccec7c… (all of the seat's roots in one cut). By AI agents, Wed Nov 11 2026. No macro, syntax, notation, axiom, sorry.
-/
import Derived.Test.YtegjpegpiopibaaChecked
import GoSem.Claim
import GoSem.ClaimJoined
import GoSem.ClaimMapViews
import Derived.JoinedTies
import Derived.KernelRfl
namespace Go.Proofs.Ytegjpegpiopibaa
/- THE CELL 'sum', in the pinned program and in every row, IS THE sha256 OF THE DUMP (.gsa) THAT YtegjpegpiopibaaProg.lean LOADS. Nothing in Lean hashes anything: it is a label: what it is worth is what the hold of that sum in a sandbox is worth. -/
noncomputable def Try.pinned : Pinned := { name := "ytegjpegpiopibaa", sum := "3fc24fa9a8ccec7c2f355772708d3702f9d180de3cfcdcc42d4e02cd9a630fde", checked := Try.checked }
namespace Rows
def none {H : Type} : Left H := { results := [], args := [] }

/-- 'laws.FnExactCallsInt64': WHATEVER THE INPUT: true; the input reads as it did. -/
def fnExactCallsInt64Spec : ChangeSpec := { name := "fnExactCallsInt64", fn := fun _ => fun
  | [d] => { results := [.lit (.bool true)], args := [d] }
  | _ => none }
def fnExactCallsInt64Row : OpenClaim := { program := "ytegjpegpiopibaa", sum := "3fc24fa9a8ccec7c2f355772708d3702f9d180de3cfcdcc42d4e02cd9a630fde", func := "loop.example/lib-atomicvalues/laws.FnExactCallsInt64", spec := "fnExactCallsInt64", inPlace := ["sync/atomic.StoreInt64", "sync/atomic.AddInt64", "sync/atomic.AndInt64", "sync/atomic.OrInt64", "sync/atomic.SwapInt64", "sync/atomic.CompareAndSwapInt64", "sync/atomic.LoadInt64"], apart := false }
def FnExactCallsInt64Said : Prop := fnExactCallsInt64Row.holds Try.pinned (OpenSpec.ofChange fnExactCallsInt64Spec)

/-- ITS FALSE NEIGHBOUR: 'it returns false'. Refute it at one input. -/
def fnExactCallsInt64Wrong : ChangeSpec := { name := "fnExactCallsInt64", fn := fun _ => fun
  | [d] => { results := [.lit (.bool false)], args := [d] }
  | _ => none }
def FnExactCallsInt64WrongFalsely : Prop := fnExactCallsInt64Row.holds Try.pinned (OpenSpec.ofChange fnExactCallsInt64Wrong)

/-- 'laws.FnComparedInt64': WHATEVER THE INPUT: true; the input reads as it did. -/
def fnComparedInt64Spec : ChangeSpec := { name := "fnComparedInt64", fn := fun _ => fun
  | [d] => { results := [.lit (.bool true)], args := [d] }
  | _ => none }
def fnComparedInt64Row : OpenClaim := { program := "ytegjpegpiopibaa", sum := "3fc24fa9a8ccec7c2f355772708d3702f9d180de3cfcdcc42d4e02cd9a630fde", func := "loop.example/lib-atomicvalues/laws.FnComparedInt64", spec := "fnComparedInt64", inPlace := ["sync/atomic.StoreInt64", "sync/atomic.AddInt64", "sync/atomic.AndInt64", "sync/atomic.OrInt64", "sync/atomic.SwapInt64", "sync/atomic.CompareAndSwapInt64", "sync/atomic.LoadInt64"], apart := false }
def FnComparedInt64Said : Prop := fnComparedInt64Row.holds Try.pinned (OpenSpec.ofChange fnComparedInt64Spec)

/-- ITS FALSE NEIGHBOUR: 'it returns false'. Refute it at one input. -/
def fnComparedInt64Wrong : ChangeSpec := { name := "fnComparedInt64", fn := fun _ => fun
  | [d] => { results := [.lit (.bool false)], args := [d] }
  | _ => none }
def FnComparedInt64WrongFalsely : Prop := fnComparedInt64Row.holds Try.pinned (OpenSpec.ofChange fnComparedInt64Wrong)

/-- 'laws.FnExactRunInt64': WHATEVER THE INPUT: true; the input reads as it did. -/
def fnExactRunInt64Spec : ChangeSpec := { name := "fnExactRunInt64", fn := fun _ => fun
  | [d] => { results := [.lit (.bool true)], args := [d] }
  | _ => none }
def fnExactRunInt64Row : OpenClaim := { program := "ytegjpegpiopibaa", sum := "3fc24fa9a8ccec7c2f355772708d3702f9d180de3cfcdcc42d4e02cd9a630fde", func := "loop.example/lib-atomicvalues/laws.FnExactRunInt64", spec := "fnExactRunInt64", inPlace := ["sync/atomic.StoreInt64", "sync/atomic.AddInt64", "sync/atomic.AndInt64", "sync/atomic.OrInt64", "sync/atomic.SwapInt64", "sync/atomic.CompareAndSwapInt64", "sync/atomic.LoadInt64"], apart := false }
def FnExactRunInt64Said : Prop := fnExactRunInt64Row.holds Try.pinned (OpenSpec.ofChange fnExactRunInt64Spec)

/-- ITS FALSE NEIGHBOUR: 'it returns false'. Refute it at one input. -/
def fnExactRunInt64Wrong : ChangeSpec := { name := "fnExactRunInt64", fn := fun _ => fun
  | [d] => { results := [.lit (.bool false)], args := [d] }
  | _ => none }
def FnExactRunInt64WrongFalsely : Prop := fnExactRunInt64Row.holds Try.pinned (OpenSpec.ofChange fnExactRunInt64Wrong)

/-- 'laws.FnPartsInt64': WHATEVER THE INPUT: true; the input reads as it did. -/
def fnPartsInt64Spec : ChangeSpec := { name := "fnPartsInt64", fn := fun _ => fun
  | [d] => { results := [.lit (.bool true)], args := [d] }
  | _ => none }
def fnPartsInt64Row : OpenClaim := { program := "ytegjpegpiopibaa", sum := "3fc24fa9a8ccec7c2f355772708d3702f9d180de3cfcdcc42d4e02cd9a630fde", func := "loop.example/lib-atomicvalues/laws.FnPartsInt64", spec := "fnPartsInt64", inPlace := ["sync/atomic.StoreInt64", "sync/atomic.AddInt64", "sync/atomic.AndInt64", "sync/atomic.OrInt64", "sync/atomic.SwapInt64", "sync/atomic.CompareAndSwapInt64", "sync/atomic.LoadInt64"], apart := false }
def FnPartsInt64Said : Prop := fnPartsInt64Row.holds Try.pinned (OpenSpec.ofChange fnPartsInt64Spec)

/-- ITS FALSE NEIGHBOUR: 'it returns false'. Refute it at one input. -/
def fnPartsInt64Wrong : ChangeSpec := { name := "fnPartsInt64", fn := fun _ => fun
  | [d] => { results := [.lit (.bool false)], args := [d] }
  | _ => none }
def FnPartsInt64WrongFalsely : Prop := fnPartsInt64Row.holds Try.pinned (OpenSpec.ofChange fnPartsInt64Wrong)

/-- 'laws.FnStoredInt64': WHATEVER THE INPUT: true; the input reads as it did. -/
def fnStoredInt64Spec : ChangeSpec := { name := "fnStoredInt64", fn := fun _ => fun
  | [d] => { results := [.lit (.bool true)], args := [d] }
  | _ => none }
def fnStoredInt64Row : OpenClaim := { program := "ytegjpegpiopibaa", sum := "3fc24fa9a8ccec7c2f355772708d3702f9d180de3cfcdcc42d4e02cd9a630fde", func := "loop.example/lib-atomicvalues/laws.FnStoredInt64", spec := "fnStoredInt64", inPlace := ["sync/atomic.StoreInt64", "sync/atomic.AddInt64", "sync/atomic.AndInt64", "sync/atomic.OrInt64", "sync/atomic.SwapInt64", "sync/atomic.CompareAndSwapInt64", "sync/atomic.LoadInt64"], apart := false }
def FnStoredInt64Said : Prop := fnStoredInt64Row.holds Try.pinned (OpenSpec.ofChange fnStoredInt64Spec)

/-- ITS FALSE NEIGHBOUR: 'it returns false'. Refute it at one input. -/
def fnStoredInt64Wrong : ChangeSpec := { name := "fnStoredInt64", fn := fun _ => fun
  | [d] => { results := [.lit (.bool false)], args := [d] }
  | _ => none }
def FnStoredInt64WrongFalsely : Prop := fnStoredInt64Row.holds Try.pinned (OpenSpec.ofChange fnStoredInt64Wrong)

/-- 'laws.FnAddedByCompareInt64': WHATEVER THE INPUT: true; the input reads as it did. -/
def fnAddedByCompareInt64Spec : ChangeSpec := { name := "fnAddedByCompareInt64", fn := fun _ => fun
  | [d] => { results := [.lit (.bool true)], args := [d] }
  | _ => none }
def fnAddedByCompareInt64Row : OpenClaim := { program := "ytegjpegpiopibaa", sum := "3fc24fa9a8ccec7c2f355772708d3702f9d180de3cfcdcc42d4e02cd9a630fde", func := "loop.example/lib-atomicvalues/laws.FnAddedByCompareInt64", spec := "fnAddedByCompareInt64", inPlace := ["sync/atomic.StoreInt64", "sync/atomic.AddInt64", "sync/atomic.AndInt64", "sync/atomic.OrInt64", "sync/atomic.SwapInt64", "sync/atomic.CompareAndSwapInt64", "sync/atomic.LoadInt64", "sync/atomic.StoreInt32", "sync/atomic.AddInt32", "sync/atomic.AndInt32", "sync/atomic.OrInt32", "sync/atomic.SwapInt32", "sync/atomic.CompareAndSwapInt32", "sync/atomic.LoadInt32"], apart := false }
def FnAddedByCompareInt64Said : Prop := fnAddedByCompareInt64Row.holds Try.pinned (OpenSpec.ofChange fnAddedByCompareInt64Spec)

/-- ITS FALSE NEIGHBOUR: 'it returns false'. Refute it at one input. -/
def fnAddedByCompareInt64Wrong : ChangeSpec := { name := "fnAddedByCompareInt64", fn := fun _ => fun
  | [d] => { results := [.lit (.bool false)], args := [d] }
  | _ => none }
def FnAddedByCompareInt64WrongFalsely : Prop := fnAddedByCompareInt64Row.holds Try.pinned (OpenSpec.ofChange fnAddedByCompareInt64Wrong)

/-- 'laws.FnAddedInt64': WHATEVER THE INPUT: true; the input reads as it did. -/
def fnAddedInt64Spec : ChangeSpec := { name := "fnAddedInt64", fn := fun _ => fun
  | [d] => { results := [.lit (.bool true)], args := [d] }
  | _ => none }
def fnAddedInt64Row : OpenClaim := { program := "ytegjpegpiopibaa", sum := "3fc24fa9a8ccec7c2f355772708d3702f9d180de3cfcdcc42d4e02cd9a630fde", func := "loop.example/lib-atomicvalues/laws.FnAddedInt64", spec := "fnAddedInt64", inPlace := ["sync/atomic.StoreInt64", "sync/atomic.AddInt64", "sync/atomic.AndInt64", "sync/atomic.OrInt64", "sync/atomic.SwapInt64", "sync/atomic.CompareAndSwapInt64", "sync/atomic.LoadInt64", "sync/atomic.StoreInt32", "sync/atomic.AddInt32", "sync/atomic.AndInt32", "sync/atomic.OrInt32", "sync/atomic.SwapInt32", "sync/atomic.CompareAndSwapInt32", "sync/atomic.LoadInt32"], apart := false }
def FnAddedInt64Said : Prop := fnAddedInt64Row.holds Try.pinned (OpenSpec.ofChange fnAddedInt64Spec)

/-- ITS FALSE NEIGHBOUR: 'it returns false'. Refute it at one input. -/
def fnAddedInt64Wrong : ChangeSpec := { name := "fnAddedInt64", fn := fun _ => fun
  | [d] => { results := [.lit (.bool false)], args := [d] }
  | _ => none }
def FnAddedInt64WrongFalsely : Prop := fnAddedInt64Row.holds Try.pinned (OpenSpec.ofChange fnAddedInt64Wrong)

/-- 'laws.FnEmptyInt64': WHATEVER THE INPUT: true; the input reads as it did. -/
def fnEmptyInt64Spec : ChangeSpec := { name := "fnEmptyInt64", fn := fun _ => fun
  | [d] => { results := [.lit (.bool true)], args := [d] }
  | _ => none }
def fnEmptyInt64Row : OpenClaim := { program := "ytegjpegpiopibaa", sum := "3fc24fa9a8ccec7c2f355772708d3702f9d180de3cfcdcc42d4e02cd9a630fde", func := "loop.example/lib-atomicvalues/laws.FnEmptyInt64", spec := "fnEmptyInt64", inPlace := ["sync/atomic.StoreInt64", "sync/atomic.AddInt64", "sync/atomic.AndInt64", "sync/atomic.OrInt64", "sync/atomic.SwapInt64", "sync/atomic.CompareAndSwapInt64", "sync/atomic.LoadInt64", "sync/atomic.StoreInt32", "sync/atomic.AddInt32", "sync/atomic.AndInt32", "sync/atomic.OrInt32", "sync/atomic.SwapInt32", "sync/atomic.CompareAndSwapInt32", "sync/atomic.LoadInt32"], apart := false }
def FnEmptyInt64Said : Prop := fnEmptyInt64Row.holds Try.pinned (OpenSpec.ofChange fnEmptyInt64Spec)

/-- ITS FALSE NEIGHBOUR: 'it returns false'. Refute it at one input. -/
def fnEmptyInt64Wrong : ChangeSpec := { name := "fnEmptyInt64", fn := fun _ => fun
  | [d] => { results := [.lit (.bool false)], args := [d] }
  | _ => none }
def FnEmptyInt64WrongFalsely : Prop := fnEmptyInt64Row.holds Try.pinned (OpenSpec.ofChange fnEmptyInt64Wrong)

/-- 'laws.FnExchangedInt64': WHATEVER THE INPUT: true; the input reads as it did. -/
def fnExchangedInt64Spec : ChangeSpec := { name := "fnExchangedInt64", fn := fun _ => fun
  | [d] => { results := [.lit (.bool true)], args := [d] }
  | _ => none }
def fnExchangedInt64Row : OpenClaim := { program := "ytegjpegpiopibaa", sum := "3fc24fa9a8ccec7c2f355772708d3702f9d180de3cfcdcc42d4e02cd9a630fde", func := "loop.example/lib-atomicvalues/laws.FnExchangedInt64", spec := "fnExchangedInt64", inPlace := ["sync/atomic.StoreInt64", "sync/atomic.AddInt64", "sync/atomic.AndInt64", "sync/atomic.OrInt64", "sync/atomic.SwapInt64", "sync/atomic.CompareAndSwapInt64", "sync/atomic.LoadInt64", "sync/atomic.StoreInt32", "sync/atomic.AddInt32", "sync/atomic.AndInt32", "sync/atomic.OrInt32", "sync/atomic.SwapInt32", "sync/atomic.CompareAndSwapInt32", "sync/atomic.LoadInt32"], apart := false }
def FnExchangedInt64Said : Prop := fnExchangedInt64Row.holds Try.pinned (OpenSpec.ofChange fnExchangedInt64Spec)

/-- ITS FALSE NEIGHBOUR: 'it returns false'. Refute it at one input. -/
def fnExchangedInt64Wrong : ChangeSpec := { name := "fnExchangedInt64", fn := fun _ => fun
  | [d] => { results := [.lit (.bool false)], args := [d] }
  | _ => none }
def FnExchangedInt64WrongFalsely : Prop := fnExchangedInt64Row.holds Try.pinned (OpenSpec.ofChange fnExchangedInt64Wrong)

/-- 'laws.FnMaskedInt64': WHATEVER THE INPUT: true; the input reads as it did. -/
def fnMaskedInt64Spec : ChangeSpec := { name := "fnMaskedInt64", fn := fun _ => fun
  | [d] => { results := [.lit (.bool true)], args := [d] }
  | _ => none }
def fnMaskedInt64Row : OpenClaim := { program := "ytegjpegpiopibaa", sum := "3fc24fa9a8ccec7c2f355772708d3702f9d180de3cfcdcc42d4e02cd9a630fde", func := "loop.example/lib-atomicvalues/laws.FnMaskedInt64", spec := "fnMaskedInt64", inPlace := ["sync/atomic.StoreInt64", "sync/atomic.AddInt64", "sync/atomic.AndInt64", "sync/atomic.OrInt64", "sync/atomic.SwapInt64", "sync/atomic.CompareAndSwapInt64", "sync/atomic.LoadInt64", "sync/atomic.StoreInt32", "sync/atomic.AddInt32", "sync/atomic.AndInt32", "sync/atomic.OrInt32", "sync/atomic.SwapInt32", "sync/atomic.CompareAndSwapInt32", "sync/atomic.LoadInt32"], apart := false }
def FnMaskedInt64Said : Prop := fnMaskedInt64Row.holds Try.pinned (OpenSpec.ofChange fnMaskedInt64Spec)

/-- ITS FALSE NEIGHBOUR: 'it returns false'. Refute it at one input. -/
def fnMaskedInt64Wrong : ChangeSpec := { name := "fnMaskedInt64", fn := fun _ => fun
  | [d] => { results := [.lit (.bool false)], args := [d] }
  | _ => none }
def FnMaskedInt64WrongFalsely : Prop := fnMaskedInt64Row.holds Try.pinned (OpenSpec.ofChange fnMaskedInt64Wrong)

/-- 'laws.FnPartedInt64': WHATEVER THE INPUT: true; the input reads as it did. -/
def fnPartedInt64Spec : ChangeSpec := { name := "fnPartedInt64", fn := fun _ => fun
  | [d] => { results := [.lit (.bool true)], args := [d] }
  | _ => none }
def fnPartedInt64Row : OpenClaim := { program := "ytegjpegpiopibaa", sum := "3fc24fa9a8ccec7c2f355772708d3702f9d180de3cfcdcc42d4e02cd9a630fde", func := "loop.example/lib-atomicvalues/laws.FnPartedInt64", spec := "fnPartedInt64", inPlace := ["sync/atomic.StoreInt64", "sync/atomic.AddInt64", "sync/atomic.AndInt64", "sync/atomic.OrInt64", "sync/atomic.SwapInt64", "sync/atomic.CompareAndSwapInt64", "sync/atomic.LoadInt64", "sync/atomic.StoreInt32", "sync/atomic.AddInt32", "sync/atomic.AndInt32", "sync/atomic.OrInt32", "sync/atomic.SwapInt32", "sync/atomic.CompareAndSwapInt32", "sync/atomic.LoadInt32"], apart := false }
def FnPartedInt64Said : Prop := fnPartedInt64Row.holds Try.pinned (OpenSpec.ofChange fnPartedInt64Spec)

/-- ITS FALSE NEIGHBOUR: 'it returns false'. Refute it at one input. -/
def fnPartedInt64Wrong : ChangeSpec := { name := "fnPartedInt64", fn := fun _ => fun
  | [d] => { results := [.lit (.bool false)], args := [d] }
  | _ => none }
def FnPartedInt64WrongFalsely : Prop := fnPartedInt64Row.holds Try.pinned (OpenSpec.ofChange fnPartedInt64Wrong)

/-- 'laws.FnRoadsInt64': WHATEVER THE INPUT: true; the input reads as it did. -/
def fnRoadsInt64Spec : ChangeSpec := { name := "fnRoadsInt64", fn := fun _ => fun
  | [d] => { results := [.lit (.bool true)], args := [d] }
  | _ => none }
def fnRoadsInt64Row : OpenClaim := { program := "ytegjpegpiopibaa", sum := "3fc24fa9a8ccec7c2f355772708d3702f9d180de3cfcdcc42d4e02cd9a630fde", func := "loop.example/lib-atomicvalues/laws.FnRoadsInt64", spec := "fnRoadsInt64", inPlace := ["sync/atomic.StoreInt64", "sync/atomic.AddInt64", "sync/atomic.AndInt64", "sync/atomic.OrInt64", "sync/atomic.SwapInt64", "sync/atomic.CompareAndSwapInt64", "sync/atomic.LoadInt64", "sync/atomic.StoreInt32", "sync/atomic.AddInt32", "sync/atomic.AndInt32", "sync/atomic.OrInt32", "sync/atomic.SwapInt32", "sync/atomic.CompareAndSwapInt32", "sync/atomic.LoadInt32"], apart := false }
def FnRoadsInt64Said : Prop := fnRoadsInt64Row.holds Try.pinned (OpenSpec.ofChange fnRoadsInt64Spec)

/-- ITS FALSE NEIGHBOUR: 'it returns false'. Refute it at one input. -/
def fnRoadsInt64Wrong : ChangeSpec := { name := "fnRoadsInt64", fn := fun _ => fun
  | [d] => { results := [.lit (.bool false)], args := [d] }
  | _ => none }
def FnRoadsInt64WrongFalsely : Prop := fnRoadsInt64Row.holds Try.pinned (OpenSpec.ofChange fnRoadsInt64Wrong)

/- THE SECOND FORM. 'bulk': how many values and letters a reading holds, each counted each time it is reached (what is shared counts as often as it is met; a slice's spare places count too). A statement '..UptoSaid' is the law's where the arguments, and the package variables that the reading takes, are together of bulk at most 1048576: NARROWER than '..Said'. Prove '..Said' where nothing that the law and all that it calls make is longer than what came in: it says more and counts as full. Else prove '..UptoSaid'. A law counts once. -/
mutual
def uptoBulk {H : Type} : DataW H → Nat
  | .lit (.string bytes) => bytes.length + 1
  | .lit _ => 1
  | .nil => 1
  | .ptr d => uptoBulk d + 1
  | .slice elems spare => uptoBulkAll elems + uptoBulkAll spare + 1
  | .agg parts => uptoBulkAll parts + 1
  | .iface _ d => uptoBulk d + 1
  | .map entries => uptoBulkEntries entries + 1
  | .held _ => 1
def uptoBulkAll {H : Type} : List (DataW H) → Nat
  | [] => 0
  | d :: r => uptoBulk d + uptoBulkAll r
def uptoBulkEntries {H : Type} : List (Lit × DataW H) → Nat
  | [] => 0
  | x :: r => uptoBulkEntry x + uptoBulkEntries r
def uptoBulkEntry {H : Type} : Lit × DataW H → Nat
  | (.string bytes, d) => bytes.length + uptoBulk d + 1
  | (_, d) => uptoBulk d + 1
 end
def uptoSmall : (H : Type) → List (DataW H) → Bool := fun _ ds => decide (uptoBulkAll ds ≤ 1048576)
def OpenSpec.upto (s : _root_.Go.ChangeSpec) : _root_.Go.OpenSpec := { _root_.Go.OpenSpec.ofChange s with cond := some uptoSmall }

/-- 'laws.FnExactCallsInt64', WHERE WHAT IT READS IS OF BULK AT MOST 1048576: true; the input reads as it did. -/
def fnExactCallsInt64UptoRow : OpenClaim := { program := "ytegjpegpiopibaa", sum := "3fc24fa9a8ccec7c2f355772708d3702f9d180de3cfcdcc42d4e02cd9a630fde", func := "loop.example/lib-atomicvalues/laws.FnExactCallsInt64", spec := "fnExactCallsInt64", inPlace := ["sync/atomic.StoreInt64", "sync/atomic.AddInt64", "sync/atomic.AndInt64", "sync/atomic.OrInt64", "sync/atomic.SwapInt64", "sync/atomic.CompareAndSwapInt64", "sync/atomic.LoadInt64"], apart := false, narrowed := true }
def FnExactCallsInt64UptoSaid : Prop := fnExactCallsInt64UptoRow.holds Try.pinned (OpenSpec.upto fnExactCallsInt64Spec)

/-- 'laws.FnComparedInt64', WHERE WHAT IT READS IS OF BULK AT MOST 1048576: true; the input reads as it did. -/
def fnComparedInt64UptoRow : OpenClaim := { program := "ytegjpegpiopibaa", sum := "3fc24fa9a8ccec7c2f355772708d3702f9d180de3cfcdcc42d4e02cd9a630fde", func := "loop.example/lib-atomicvalues/laws.FnComparedInt64", spec := "fnComparedInt64", inPlace := ["sync/atomic.StoreInt64", "sync/atomic.AddInt64", "sync/atomic.AndInt64", "sync/atomic.OrInt64", "sync/atomic.SwapInt64", "sync/atomic.CompareAndSwapInt64", "sync/atomic.LoadInt64"], apart := false, narrowed := true }
def FnComparedInt64UptoSaid : Prop := fnComparedInt64UptoRow.holds Try.pinned (OpenSpec.upto fnComparedInt64Spec)

/-- 'laws.FnExactRunInt64', WHERE WHAT IT READS IS OF BULK AT MOST 1048576: true; the input reads as it did. -/
def fnExactRunInt64UptoRow : OpenClaim := { program := "ytegjpegpiopibaa", sum := "3fc24fa9a8ccec7c2f355772708d3702f9d180de3cfcdcc42d4e02cd9a630fde", func := "loop.example/lib-atomicvalues/laws.FnExactRunInt64", spec := "fnExactRunInt64", inPlace := ["sync/atomic.StoreInt64", "sync/atomic.AddInt64", "sync/atomic.AndInt64", "sync/atomic.OrInt64", "sync/atomic.SwapInt64", "sync/atomic.CompareAndSwapInt64", "sync/atomic.LoadInt64"], apart := false, narrowed := true }
def FnExactRunInt64UptoSaid : Prop := fnExactRunInt64UptoRow.holds Try.pinned (OpenSpec.upto fnExactRunInt64Spec)

/-- 'laws.FnPartsInt64', WHERE WHAT IT READS IS OF BULK AT MOST 1048576: true; the input reads as it did. -/
def fnPartsInt64UptoRow : OpenClaim := { program := "ytegjpegpiopibaa", sum := "3fc24fa9a8ccec7c2f355772708d3702f9d180de3cfcdcc42d4e02cd9a630fde", func := "loop.example/lib-atomicvalues/laws.FnPartsInt64", spec := "fnPartsInt64", inPlace := ["sync/atomic.StoreInt64", "sync/atomic.AddInt64", "sync/atomic.AndInt64", "sync/atomic.OrInt64", "sync/atomic.SwapInt64", "sync/atomic.CompareAndSwapInt64", "sync/atomic.LoadInt64"], apart := false, narrowed := true }
def FnPartsInt64UptoSaid : Prop := fnPartsInt64UptoRow.holds Try.pinned (OpenSpec.upto fnPartsInt64Spec)

/-- 'laws.FnStoredInt64', WHERE WHAT IT READS IS OF BULK AT MOST 1048576: true; the input reads as it did. -/
def fnStoredInt64UptoRow : OpenClaim := { program := "ytegjpegpiopibaa", sum := "3fc24fa9a8ccec7c2f355772708d3702f9d180de3cfcdcc42d4e02cd9a630fde", func := "loop.example/lib-atomicvalues/laws.FnStoredInt64", spec := "fnStoredInt64", inPlace := ["sync/atomic.StoreInt64", "sync/atomic.AddInt64", "sync/atomic.AndInt64", "sync/atomic.OrInt64", "sync/atomic.SwapInt64", "sync/atomic.CompareAndSwapInt64", "sync/atomic.LoadInt64"], apart := false, narrowed := true }
def FnStoredInt64UptoSaid : Prop := fnStoredInt64UptoRow.holds Try.pinned (OpenSpec.upto fnStoredInt64Spec)

/-- 'laws.FnAddedByCompareInt64', WHERE WHAT IT READS IS OF BULK AT MOST 1048576: true; the input reads as it did. -/
def fnAddedByCompareInt64UptoRow : OpenClaim := { program := "ytegjpegpiopibaa", sum := "3fc24fa9a8ccec7c2f355772708d3702f9d180de3cfcdcc42d4e02cd9a630fde", func := "loop.example/lib-atomicvalues/laws.FnAddedByCompareInt64", spec := "fnAddedByCompareInt64", inPlace := ["sync/atomic.StoreInt64", "sync/atomic.AddInt64", "sync/atomic.AndInt64", "sync/atomic.OrInt64", "sync/atomic.SwapInt64", "sync/atomic.CompareAndSwapInt64", "sync/atomic.LoadInt64", "sync/atomic.StoreInt32", "sync/atomic.AddInt32", "sync/atomic.AndInt32", "sync/atomic.OrInt32", "sync/atomic.SwapInt32", "sync/atomic.CompareAndSwapInt32", "sync/atomic.LoadInt32"], apart := false, narrowed := true }
def FnAddedByCompareInt64UptoSaid : Prop := fnAddedByCompareInt64UptoRow.holds Try.pinned (OpenSpec.upto fnAddedByCompareInt64Spec)

/-- 'laws.FnAddedInt64', WHERE WHAT IT READS IS OF BULK AT MOST 1048576: true; the input reads as it did. -/
def fnAddedInt64UptoRow : OpenClaim := { program := "ytegjpegpiopibaa", sum := "3fc24fa9a8ccec7c2f355772708d3702f9d180de3cfcdcc42d4e02cd9a630fde", func := "loop.example/lib-atomicvalues/laws.FnAddedInt64", spec := "fnAddedInt64", inPlace := ["sync/atomic.StoreInt64", "sync/atomic.AddInt64", "sync/atomic.AndInt64", "sync/atomic.OrInt64", "sync/atomic.SwapInt64", "sync/atomic.CompareAndSwapInt64", "sync/atomic.LoadInt64", "sync/atomic.StoreInt32", "sync/atomic.AddInt32", "sync/atomic.AndInt32", "sync/atomic.OrInt32", "sync/atomic.SwapInt32", "sync/atomic.CompareAndSwapInt32", "sync/atomic.LoadInt32"], apart := false, narrowed := true }
def FnAddedInt64UptoSaid : Prop := fnAddedInt64UptoRow.holds Try.pinned (OpenSpec.upto fnAddedInt64Spec)

/-- 'laws.FnEmptyInt64', WHERE WHAT IT READS IS OF BULK AT MOST 1048576: true; the input reads as it did. -/
def fnEmptyInt64UptoRow : OpenClaim := { program := "ytegjpegpiopibaa", sum := "3fc24fa9a8ccec7c2f355772708d3702f9d180de3cfcdcc42d4e02cd9a630fde", func := "loop.example/lib-atomicvalues/laws.FnEmptyInt64", spec := "fnEmptyInt64", inPlace := ["sync/atomic.StoreInt64", "sync/atomic.AddInt64", "sync/atomic.AndInt64", "sync/atomic.OrInt64", "sync/atomic.SwapInt64", "sync/atomic.CompareAndSwapInt64", "sync/atomic.LoadInt64", "sync/atomic.StoreInt32", "sync/atomic.AddInt32", "sync/atomic.AndInt32", "sync/atomic.OrInt32", "sync/atomic.SwapInt32", "sync/atomic.CompareAndSwapInt32", "sync/atomic.LoadInt32"], apart := false, narrowed := true }
def FnEmptyInt64UptoSaid : Prop := fnEmptyInt64UptoRow.holds Try.pinned (OpenSpec.upto fnEmptyInt64Spec)

/-- 'laws.FnExchangedInt64', WHERE WHAT IT READS IS OF BULK AT MOST 1048576: true; the input reads as it did. -/
def fnExchangedInt64UptoRow : OpenClaim := { program := "ytegjpegpiopibaa", sum := "3fc24fa9a8ccec7c2f355772708d3702f9d180de3cfcdcc42d4e02cd9a630fde", func := "loop.example/lib-atomicvalues/laws.FnExchangedInt64", spec := "fnExchangedInt64", inPlace := ["sync/atomic.StoreInt64", "sync/atomic.AddInt64", "sync/atomic.AndInt64", "sync/atomic.OrInt64", "sync/atomic.SwapInt64", "sync/atomic.CompareAndSwapInt64", "sync/atomic.LoadInt64", "sync/atomic.StoreInt32", "sync/atomic.AddInt32", "sync/atomic.AndInt32", "sync/atomic.OrInt32", "sync/atomic.SwapInt32", "sync/atomic.CompareAndSwapInt32", "sync/atomic.LoadInt32"], apart := false, narrowed := true }
def FnExchangedInt64UptoSaid : Prop := fnExchangedInt64UptoRow.holds Try.pinned (OpenSpec.upto fnExchangedInt64Spec)

/-- 'laws.FnMaskedInt64', WHERE WHAT IT READS IS OF BULK AT MOST 1048576: true; the input reads as it did. -/
def fnMaskedInt64UptoRow : OpenClaim := { program := "ytegjpegpiopibaa", sum := "3fc24fa9a8ccec7c2f355772708d3702f9d180de3cfcdcc42d4e02cd9a630fde", func := "loop.example/lib-atomicvalues/laws.FnMaskedInt64", spec := "fnMaskedInt64", inPlace := ["sync/atomic.StoreInt64", "sync/atomic.AddInt64", "sync/atomic.AndInt64", "sync/atomic.OrInt64", "sync/atomic.SwapInt64", "sync/atomic.CompareAndSwapInt64", "sync/atomic.LoadInt64", "sync/atomic.StoreInt32", "sync/atomic.AddInt32", "sync/atomic.AndInt32", "sync/atomic.OrInt32", "sync/atomic.SwapInt32", "sync/atomic.CompareAndSwapInt32", "sync/atomic.LoadInt32"], apart := false, narrowed := true }
def FnMaskedInt64UptoSaid : Prop := fnMaskedInt64UptoRow.holds Try.pinned (OpenSpec.upto fnMaskedInt64Spec)

/-- 'laws.FnPartedInt64', WHERE WHAT IT READS IS OF BULK AT MOST 1048576: true; the input reads as it did. -/
def fnPartedInt64UptoRow : OpenClaim := { program := "ytegjpegpiopibaa", sum := "3fc24fa9a8ccec7c2f355772708d3702f9d180de3cfcdcc42d4e02cd9a630fde", func := "loop.example/lib-atomicvalues/laws.FnPartedInt64", spec := "fnPartedInt64", inPlace := ["sync/atomic.StoreInt64", "sync/atomic.AddInt64", "sync/atomic.AndInt64", "sync/atomic.OrInt64", "sync/atomic.SwapInt64", "sync/atomic.CompareAndSwapInt64", "sync/atomic.LoadInt64", "sync/atomic.StoreInt32", "sync/atomic.AddInt32", "sync/atomic.AndInt32", "sync/atomic.OrInt32", "sync/atomic.SwapInt32", "sync/atomic.CompareAndSwapInt32", "sync/atomic.LoadInt32"], apart := false, narrowed := true }
def FnPartedInt64UptoSaid : Prop := fnPartedInt64UptoRow.holds Try.pinned (OpenSpec.upto fnPartedInt64Spec)

/-- 'laws.FnRoadsInt64', WHERE WHAT IT READS IS OF BULK AT MOST 1048576: true; the input reads as it did. -/
def fnRoadsInt64UptoRow : OpenClaim := { program := "ytegjpegpiopibaa", sum := "3fc24fa9a8ccec7c2f355772708d3702f9d180de3cfcdcc42d4e02cd9a630fde", func := "loop.example/lib-atomicvalues/laws.FnRoadsInt64", spec := "fnRoadsInt64", inPlace := ["sync/atomic.StoreInt64", "sync/atomic.AddInt64", "sync/atomic.AndInt64", "sync/atomic.OrInt64", "sync/atomic.SwapInt64", "sync/atomic.CompareAndSwapInt64", "sync/atomic.LoadInt64", "sync/atomic.StoreInt32", "sync/atomic.AddInt32", "sync/atomic.AndInt32", "sync/atomic.OrInt32", "sync/atomic.SwapInt32", "sync/atomic.CompareAndSwapInt32", "sync/atomic.LoadInt32"], apart := false, narrowed := true }
def FnRoadsInt64UptoSaid : Prop := fnRoadsInt64UptoRow.holds Try.pinned (OpenSpec.upto fnRoadsInt64Spec)

end Rows
end Go.Proofs.Ytegjpegpiopibaa
