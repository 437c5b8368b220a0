/-
  No cell of these rows narrows 'for every input' (looked for: loops, veiled, ifaces, maps, wideKeys, modest, calm, conditions, laid).
  DERIVED. THE GIVEN ROWS OF THIS SEAT. 6 by the template 'for every input the law returns true; each argument reads behind the call as it read before'; 0 by the template 'total and deterministic' (their statements: YtbfcnimebdoagaaTotals.lean).
  GIVEN WITH THE SEED: the statements are not yours to turn. If you find one false, say at which input.
  Laid BY PROGRAM, IN A SANDBOX (cutbox-rows.mjs): the forced cells as the released guide's own fill.sh prints them over the translation 44dee7402663f49b… (all of the seat's roots in one cut). By AI agents, Wed Nov 11 2026. No macro, syntax, notation, axiom, sorry.
-/
import Derived.Test.YtbfcnimebdoagaaChecked
import GoSem.Claim
import GoSem.ClaimJoined
import GoSem.ClaimMapViews
import Derived.JoinedTies
import Derived.KernelRfl
namespace Go.Proofs.Ytbfcnimebdoagaa
/- THE CELL 'sum', in the pinned program and in every row, IS THE sha256 OF THE DUMP (.gsa) THAT YtbfcnimebdoagaaProg.lean LOADS. Nothing in Lean hashes anything: it is a label: what it is worth is what the hold of that sum in a sandbox is worth. -/
noncomputable def Try.pinned : Pinned := { name := "ytbfcnimebdoagaa", sum := "44dee7402663f49babf7fcbcd81dcdab42ed427e5379bdaa7f526c052dbb7e56", checked := Try.checked }
namespace Rows
def none {H : Type} : Left H := { results := [], args := [] }

/-- 'laws.FnFHFirst': WHATEVER THE INPUT: true; the input reads as it did. -/
def fnFHFirstSpec : ChangeSpec := { name := "fnFHFirst", fn := fun _ => fun
  | [d1, d2, d3] => { results := [.lit (.bool true)], args := [d1, d2, d3] }
  | _ => none }
def fnFHFirstRow : OpenClaim := { program := "ytbfcnimebdoagaa", sum := "44dee7402663f49babf7fcbcd81dcdab42ed427e5379bdaa7f526c052dbb7e56", func := "given.example/pub-spokeshave/laws.FnFHFirst", spec := "fnFHFirst", recurses := true, apart := false }
def FnFHFirstSaid : Prop := fnFHFirstRow.holds Try.pinned (OpenSpec.ofChange fnFHFirstSpec)

/-- ITS FALSE NEIGHBOUR: 'it returns false'. Refute it at one input. -/
def fnFHFirstWrong : ChangeSpec := { name := "fnFHFirst", fn := fun _ => fun
  | [d1, d2, d3] => { results := [.lit (.bool false)], args := [d1, d2, d3] }
  | _ => none }
def FnFHFirstWrongFalsely : Prop := fnFHFirstRow.holds Try.pinned (OpenSpec.ofChange fnFHFirstWrong)

/-- 'laws.FnFHMerge': WHATEVER THE INPUT: true; the input reads as it did. -/
def fnFHMergeSpec : ChangeSpec := { name := "fnFHMerge", fn := fun _ => fun
  | [d1, d2] => { results := [.lit (.bool true)], args := [d1, d2] }
  | _ => none }
def fnFHMergeRow : OpenClaim := { program := "ytbfcnimebdoagaa", sum := "44dee7402663f49babf7fcbcd81dcdab42ed427e5379bdaa7f526c052dbb7e56", func := "given.example/pub-spokeshave/laws.FnFHMerge", spec := "fnFHMerge", recurses := true, apart := false }
def FnFHMergeSaid : Prop := fnFHMergeRow.holds Try.pinned (OpenSpec.ofChange fnFHMergeSpec)

/-- ITS FALSE NEIGHBOUR: 'it returns false'. Refute it at one input. -/
def fnFHMergeWrong : ChangeSpec := { name := "fnFHMerge", fn := fun _ => fun
  | [d1, d2] => { results := [.lit (.bool false)], args := [d1, d2] }
  | _ => none }
def FnFHMergeWrongFalsely : Prop := fnFHMergeRow.holds Try.pinned (OpenSpec.ofChange fnFHMergeWrong)

/-- 'laws.FnFHTurned': WHATEVER THE INPUT: true; the input reads as it did. -/
def fnFHTurnedSpec : ChangeSpec := { name := "fnFHTurned", fn := fun _ => fun
  | [d] => { results := [.lit (.bool true)], args := [d] }
  | _ => none }
def fnFHTurnedRow : OpenClaim := { program := "ytbfcnimebdoagaa", sum := "44dee7402663f49babf7fcbcd81dcdab42ed427e5379bdaa7f526c052dbb7e56", func := "given.example/pub-spokeshave/laws.FnFHTurned", spec := "fnFHTurned", recurses := true, apart := false }
def FnFHTurnedSaid : Prop := fnFHTurnedRow.holds Try.pinned (OpenSpec.ofChange fnFHTurnedSpec)

/-- ITS FALSE NEIGHBOUR: 'it returns false'. Refute it at one input. -/
def fnFHTurnedWrong : ChangeSpec := { name := "fnFHTurned", fn := fun _ => fun
  | [d] => { results := [.lit (.bool false)], args := [d] }
  | _ => none }
def FnFHTurnedWrongFalsely : Prop := fnFHTurnedRow.holds Try.pinned (OpenSpec.ofChange fnFHTurnedWrong)

/-- 'laws.FnMGSides': WHATEVER THE INPUT: true; the input reads as it did. -/
def fnMGSidesSpec : ChangeSpec := { name := "fnMGSides", fn := fun _ => fun
  | [d1, d2] => { results := [.lit (.bool true)], args := [d1, d2] }
  | _ => none }
def fnMGSidesRow : OpenClaim := { program := "ytbfcnimebdoagaa", sum := "44dee7402663f49babf7fcbcd81dcdab42ed427e5379bdaa7f526c052dbb7e56", func := "given.example/pub-spokeshave/laws.FnMGSides", spec := "fnMGSides", inPlace := ["math.Float64bits", "math.Float64frombits"], unfollowed := true, recurses := true, apart := false }
def FnMGSidesSaid : Prop := fnMGSidesRow.holds Try.pinned (OpenSpec.ofChange fnMGSidesSpec)

/-- ITS FALSE NEIGHBOUR: 'it returns false'. Refute it at one input. -/
def fnMGSidesWrong : ChangeSpec := { name := "fnMGSides", fn := fun _ => fun
  | [d1, d2] => { results := [.lit (.bool false)], args := [d1, d2] }
  | _ => none }
def FnMGSidesWrongFalsely : Prop := fnMGSidesRow.holds Try.pinned (OpenSpec.ofChange fnMGSidesWrong)

/-- 'laws.FnMGShift': WHATEVER THE INPUT: true; the input reads as it did. -/
def fnMGShiftSpec : ChangeSpec := { name := "fnMGShift", fn := fun _ => fun
  | [d1, d2, d3] => { results := [.lit (.bool true)], args := [d1, d2, d3] }
  | _ => none }
def fnMGShiftRow : OpenClaim := { program := "ytbfcnimebdoagaa", sum := "44dee7402663f49babf7fcbcd81dcdab42ed427e5379bdaa7f526c052dbb7e56", func := "given.example/pub-spokeshave/laws.FnMGShift", spec := "fnMGShift", inPlace := ["math.Float64bits", "math.Float64frombits"], unfollowed := true, recurses := true, apart := false }
def FnMGShiftSaid : Prop := fnMGShiftRow.holds Try.pinned (OpenSpec.ofChange fnMGShiftSpec)

/-- ITS FALSE NEIGHBOUR: 'it returns false'. Refute it at one input. -/
def fnMGShiftWrong : ChangeSpec := { name := "fnMGShift", fn := fun _ => fun
  | [d1, d2, d3] => { results := [.lit (.bool false)], args := [d1, d2, d3] }
  | _ => none }
def FnMGShiftWrongFalsely : Prop := fnMGShiftRow.holds Try.pinned (OpenSpec.ofChange fnMGShiftWrong)

/-- 'laws.FnXHeaps': WHATEVER THE INPUT: true; the input reads as it did. -/
def fnXHeapsSpec : ChangeSpec := { name := "fnXHeaps", fn := fun _ => fun
  | [d1, d2] => { results := [.lit (.bool true)], args := [d1, d2] }
  | _ => none }
def fnXHeapsRow : OpenClaim := { program := "ytbfcnimebdoagaa", sum := "44dee7402663f49babf7fcbcd81dcdab42ed427e5379bdaa7f526c052dbb7e56", func := "given.example/pub-spokeshave/laws.FnXHeaps", spec := "fnXHeaps", inPlace := ["math.Float64bits", "math.Float64frombits"], unfollowed := true, recurses := true, apart := false }
def FnXHeapsSaid : Prop := fnXHeapsRow.holds Try.pinned (OpenSpec.ofChange fnXHeapsSpec)

/-- ITS FALSE NEIGHBOUR: 'it returns false'. Refute it at one input. -/
def fnXHeapsWrong : ChangeSpec := { name := "fnXHeaps", fn := fun _ => fun
  | [d1, d2] => { results := [.lit (.bool false)], args := [d1, d2] }
  | _ => none }
def FnXHeapsWrongFalsely : Prop := fnXHeapsRow.holds Try.pinned (OpenSpec.ofChange fnXHeapsWrong)

/- THE SECOND FORM. 'bulk': how many values and letters a reading holds, each counted each time it is reached (what is shared counts as often as it is met; a slice's spare places count too). A statement '..UptoSaid' is the law's where the arguments, and the package variables that the reading takes, are together of bulk at most 1048576: NARROWER than '..Said'. Prove '..Said' where nothing that the law and all that it calls make is longer than what came in: it says more and counts as full. Else prove '..UptoSaid'. A law counts once. -/
mutual
def uptoBulk {H : Type} : DataW H → Nat
  | .lit (.string bytes) => bytes.length + 1
  | .lit _ => 1
  | .nil => 1
  | .ptr d => uptoBulk d + 1
  | .slice elems spare => uptoBulkAll elems + uptoBulkAll spare + 1
  | .agg parts => uptoBulkAll parts + 1
  | .iface _ d => uptoBulk d + 1
  | .map entries => uptoBulkEntries entries + 1
  | .held _ => 1
def uptoBulkAll {H : Type} : List (DataW H) → Nat
  | [] => 0
  | d :: r => uptoBulk d + uptoBulkAll r
def uptoBulkEntries {H : Type} : List (Lit × DataW H) → Nat
  | [] => 0
  | x :: r => uptoBulkEntry x + uptoBulkEntries r
def uptoBulkEntry {H : Type} : Lit × DataW H → Nat
  | (.string bytes, d) => bytes.length + uptoBulk d + 1
  | (_, d) => uptoBulk d + 1
 end
def uptoSmall : (H : Type) → List (DataW H) → Bool := fun _ ds => decide (uptoBulkAll ds ≤ 1048576)
def OpenSpec.upto (s : _root_.Go.ChangeSpec) : _root_.Go.OpenSpec := { _root_.Go.OpenSpec.ofChange s with cond := some uptoSmall }

/-- 'laws.FnFHFirst', WHERE WHAT IT READS IS OF BULK AT MOST 1048576: true; the input reads as it did. -/
def fnFHFirstUptoRow : OpenClaim := { program := "ytbfcnimebdoagaa", sum := "44dee7402663f49babf7fcbcd81dcdab42ed427e5379bdaa7f526c052dbb7e56", func := "given.example/pub-spokeshave/laws.FnFHFirst", spec := "fnFHFirst", recurses := true, apart := false, narrowed := true }
def FnFHFirstUptoSaid : Prop := fnFHFirstUptoRow.holds Try.pinned (OpenSpec.upto fnFHFirstSpec)

/-- 'laws.FnFHMerge', WHERE WHAT IT READS IS OF BULK AT MOST 1048576: true; the input reads as it did. -/
def fnFHMergeUptoRow : OpenClaim := { program := "ytbfcnimebdoagaa", sum := "44dee7402663f49babf7fcbcd81dcdab42ed427e5379bdaa7f526c052dbb7e56", func := "given.example/pub-spokeshave/laws.FnFHMerge", spec := "fnFHMerge", recurses := true, apart := false, narrowed := true }
def FnFHMergeUptoSaid : Prop := fnFHMergeUptoRow.holds Try.pinned (OpenSpec.upto fnFHMergeSpec)

/-- 'laws.FnFHTurned', WHERE WHAT IT READS IS OF BULK AT MOST 1048576: true; the input reads as it did. -/
def fnFHTurnedUptoRow : OpenClaim := { program := "ytbfcnimebdoagaa", sum := "44dee7402663f49babf7fcbcd81dcdab42ed427e5379bdaa7f526c052dbb7e56", func := "given.example/pub-spokeshave/laws.FnFHTurned", spec := "fnFHTurned", recurses := true, apart := false, narrowed := true }
def FnFHTurnedUptoSaid : Prop := fnFHTurnedUptoRow.holds Try.pinned (OpenSpec.upto fnFHTurnedSpec)

/-- 'laws.FnMGSides', WHERE WHAT IT READS IS OF BULK AT MOST 1048576: true; the input reads as it did. -/
def fnMGSidesUptoRow : OpenClaim := { program := "ytbfcnimebdoagaa", sum := "44dee7402663f49babf7fcbcd81dcdab42ed427e5379bdaa7f526c052dbb7e56", func := "given.example/pub-spokeshave/laws.FnMGSides", spec := "fnMGSides", inPlace := ["math.Float64bits", "math.Float64frombits"], unfollowed := true, recurses := true, apart := false, narrowed := true }
def FnMGSidesUptoSaid : Prop := fnMGSidesUptoRow.holds Try.pinned (OpenSpec.upto fnMGSidesSpec)

/-- 'laws.FnMGShift', WHERE WHAT IT READS IS OF BULK AT MOST 1048576: true; the input reads as it did. -/
def fnMGShiftUptoRow : OpenClaim := { program := "ytbfcnimebdoagaa", sum := "44dee7402663f49babf7fcbcd81dcdab42ed427e5379bdaa7f526c052dbb7e56", func := "given.example/pub-spokeshave/laws.FnMGShift", spec := "fnMGShift", inPlace := ["math.Float64bits", "math.Float64frombits"], unfollowed := true, recurses := true, apart := false, narrowed := true }
def FnMGShiftUptoSaid : Prop := fnMGShiftUptoRow.holds Try.pinned (OpenSpec.upto fnMGShiftSpec)

/-- 'laws.FnXHeaps', WHERE WHAT IT READS IS OF BULK AT MOST 1048576: true; the input reads as it did. -/
def fnXHeapsUptoRow : OpenClaim := { program := "ytbfcnimebdoagaa", sum := "44dee7402663f49babf7fcbcd81dcdab42ed427e5379bdaa7f526c052dbb7e56", func := "given.example/pub-spokeshave/laws.FnXHeaps", spec := "fnXHeaps", inPlace := ["math.Float64bits", "math.Float64frombits"], unfollowed := true, recurses := true, apart := false, narrowed := true }
def FnXHeapsUptoSaid : Prop := fnXHeapsUptoRow.holds Try.pinned (OpenSpec.upto fnXHeapsSpec)

end Rows
end Go.Proofs.Ytbfcnimebdoagaa
