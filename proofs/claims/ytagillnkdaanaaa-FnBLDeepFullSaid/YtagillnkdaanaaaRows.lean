/-
  No cell of these rows narrows 'for every input' (looked for: loops, veiled, ifaces, maps, wideKeys, modest, calm, conditions, laid).
  DERIVED. THE GIVEN ROWS OF THIS SEAT. 3 by the template 'for every input the law returns true; each argument reads behind the call as it read before'; 0 by the template 'total and deterministic' (their statements: YtagillnkdaanaaaTotals.lean).
  GIVEN WITH THE SEED: the statements are not yours to turn. If you find one false, say at which input.
  Laid BY PROGRAM, IN A SANDBOX (cutbox-rows.mjs): the forced cells as the released guide's own fill.sh prints them over the translation 05434be59393331d… (all of the seat's roots in one cut). By AI agents, Wed Nov 11 2026. No macro, syntax, notation, axiom, sorry.
-/
import Derived.Test.YtagillnkdaanaaaChecked
import GoSem.Claim
import GoSem.ClaimJoined
import GoSem.ClaimMapViews
import Derived.JoinedTies
import Derived.KernelRfl
namespace Go.Proofs.Ytagillnkdaanaaa
/- THE CELL 'sum', in the pinned program and in every row, IS THE sha256 OF THE DUMP (.gsa) THAT YtagillnkdaanaaaProg.lean LOADS. Nothing in Lean hashes anything: it is a label: what it is worth is what the hold of that sum in a sandbox is worth. -/
noncomputable def Try.pinned : Pinned := { name := "ytagillnkdaanaaa", sum := "05434be59393331dca0bf816daa27391b95cd1af0d7ff6ff5c8937f226563f81", checked := Try.checked }
namespace Rows
def none {H : Type} : Left H := { results := [], args := [] }

/-- 'laws.FnBLDeepMore': WHATEVER THE INPUT: true; the input reads as it did. -/
def fnBLDeepMoreSpec : ChangeSpec := { name := "fnBLDeepMore", fn := fun _ => fun
  | [d1, d2, d3, d4, d5, d6] => { results := [.lit (.bool true)], args := [d1, d2, d3, d4, d5, d6] }
  | _ => none }
def fnBLDeepMoreRow : OpenClaim := { program := "ytagillnkdaanaaa", sum := "05434be59393331dca0bf816daa27391b95cd1af0d7ff6ff5c8937f226563f81", func := "given.example/pub-spokeshave/laws.FnBLDeepMore", spec := "fnBLDeepMore", named := ["encoding/binary.LittleEndian"], apart := false }
def FnBLDeepMoreSaid : Prop := fnBLDeepMoreRow.holds Try.pinned (OpenSpec.ofChange fnBLDeepMoreSpec)

/-- ITS FALSE NEIGHBOUR: 'it returns false'. Refute it at one input. -/
def fnBLDeepMoreWrong : ChangeSpec := { name := "fnBLDeepMore", fn := fun _ => fun
  | [d1, d2, d3, d4, d5, d6] => { results := [.lit (.bool false)], args := [d1, d2, d3, d4, d5, d6] }
  | _ => none }
def FnBLDeepMoreWrongFalsely : Prop := fnBLDeepMoreRow.holds Try.pinned (OpenSpec.ofChange fnBLDeepMoreWrong)

/-- 'laws.FnBLDeepCleared': WHATEVER THE INPUT: true; the input reads as it did. -/
def fnBLDeepClearedSpec : ChangeSpec := { name := "fnBLDeepCleared", fn := fun _ => fun
  | [d1, d2, d3, d4] => { results := [.lit (.bool true)], args := [d1, d2, d3, d4] }
  | _ => none }
def fnBLDeepClearedRow : OpenClaim := { program := "ytagillnkdaanaaa", sum := "05434be59393331dca0bf816daa27391b95cd1af0d7ff6ff5c8937f226563f81", func := "given.example/pub-spokeshave/laws.FnBLDeepCleared", spec := "fnBLDeepCleared", unfollowed := true, recurses := true, named := ["encoding/binary.LittleEndian"], apart := false }
def FnBLDeepClearedSaid : Prop := fnBLDeepClearedRow.holds Try.pinned (OpenSpec.ofChange fnBLDeepClearedSpec)

/-- ITS FALSE NEIGHBOUR: 'it returns false'. Refute it at one input. -/
def fnBLDeepClearedWrong : ChangeSpec := { name := "fnBLDeepCleared", fn := fun _ => fun
  | [d1, d2, d3, d4] => { results := [.lit (.bool false)], args := [d1, d2, d3, d4] }
  | _ => none }
def FnBLDeepClearedWrongFalsely : Prop := fnBLDeepClearedRow.holds Try.pinned (OpenSpec.ofChange fnBLDeepClearedWrong)

/-- 'laws.FnBLDeepFull': WHATEVER THE INPUT: true; the input reads as it did. -/
def fnBLDeepFullSpec : ChangeSpec := { name := "fnBLDeepFull", fn := fun _ => fun
  | [d1, d2, d3, d4] => { results := [.lit (.bool true)], args := [d1, d2, d3, d4] }
  | _ => none }
def fnBLDeepFullRow : OpenClaim := { program := "ytagillnkdaanaaa", sum := "05434be59393331dca0bf816daa27391b95cd1af0d7ff6ff5c8937f226563f81", func := "given.example/pub-spokeshave/laws.FnBLDeepFull", spec := "fnBLDeepFull", named := ["encoding/binary.LittleEndian"], apart := false }
def FnBLDeepFullSaid : Prop := fnBLDeepFullRow.holds Try.pinned (OpenSpec.ofChange fnBLDeepFullSpec)

/-- ITS FALSE NEIGHBOUR: 'it returns false'. Refute it at one input. -/
def fnBLDeepFullWrong : ChangeSpec := { name := "fnBLDeepFull", fn := fun _ => fun
  | [d1, d2, d3, d4] => { results := [.lit (.bool false)], args := [d1, d2, d3, d4] }
  | _ => none }
def FnBLDeepFullWrongFalsely : Prop := fnBLDeepFullRow.holds Try.pinned (OpenSpec.ofChange fnBLDeepFullWrong)

/- THE SECOND FORM. 'bulk': how many values and letters a reading holds, each counted each time it is reached (what is shared counts as often as it is met; a slice's spare places count too). A statement '..UptoSaid' is the law's where the arguments, and the package variables that the reading takes, are together of bulk at most 1048576: NARROWER than '..Said'. Prove '..Said' where nothing that the law and all that it calls make is longer than what came in: it says more and counts as full. Else prove '..UptoSaid'. A law counts once. -/
mutual
def uptoBulk {H : Type} : DataW H → Nat
  | .lit (.string bytes) => bytes.length + 1
  | .lit _ => 1
  | .nil => 1
  | .ptr d => uptoBulk d + 1
  | .slice elems spare => uptoBulkAll elems + uptoBulkAll spare + 1
  | .agg parts => uptoBulkAll parts + 1
  | .iface _ d => uptoBulk d + 1
  | .map entries => uptoBulkEntries entries + 1
  | .held _ => 1
def uptoBulkAll {H : Type} : List (DataW H) → Nat
  | [] => 0
  | d :: r => uptoBulk d + uptoBulkAll r
def uptoBulkEntries {H : Type} : List (Lit × DataW H) → Nat
  | [] => 0
  | x :: r => uptoBulkEntry x + uptoBulkEntries r
def uptoBulkEntry {H : Type} : Lit × DataW H → Nat
  | (.string bytes, d) => bytes.length + uptoBulk d + 1
  | (_, d) => uptoBulk d + 1
 end
def uptoSmall : (H : Type) → List (DataW H) → Bool := fun _ ds => decide (uptoBulkAll ds ≤ 1048576)
def OpenSpec.upto (s : _root_.Go.ChangeSpec) : _root_.Go.OpenSpec := { _root_.Go.OpenSpec.ofChange s with cond := some uptoSmall }

/-- 'laws.FnBLDeepMore', WHERE WHAT IT READS IS OF BULK AT MOST 1048576: true; the input reads as it did. -/
def fnBLDeepMoreUptoRow : OpenClaim := { program := "ytagillnkdaanaaa", sum := "05434be59393331dca0bf816daa27391b95cd1af0d7ff6ff5c8937f226563f81", func := "given.example/pub-spokeshave/laws.FnBLDeepMore", spec := "fnBLDeepMore", named := ["encoding/binary.LittleEndian"], apart := false, narrowed := true }
def FnBLDeepMoreUptoSaid : Prop := fnBLDeepMoreUptoRow.holds Try.pinned (OpenSpec.upto fnBLDeepMoreSpec)

/-- 'laws.FnBLDeepCleared', WHERE WHAT IT READS IS OF BULK AT MOST 1048576: true; the input reads as it did. -/
def fnBLDeepClearedUptoRow : OpenClaim := { program := "ytagillnkdaanaaa", sum := "05434be59393331dca0bf816daa27391b95cd1af0d7ff6ff5c8937f226563f81", func := "given.example/pub-spokeshave/laws.FnBLDeepCleared", spec := "fnBLDeepCleared", unfollowed := true, recurses := true, named := ["encoding/binary.LittleEndian"], apart := false, narrowed := true }
def FnBLDeepClearedUptoSaid : Prop := fnBLDeepClearedUptoRow.holds Try.pinned (OpenSpec.upto fnBLDeepClearedSpec)

/-- 'laws.FnBLDeepFull', WHERE WHAT IT READS IS OF BULK AT MOST 1048576: true; the input reads as it did. -/
def fnBLDeepFullUptoRow : OpenClaim := { program := "ytagillnkdaanaaa", sum := "05434be59393331dca0bf816daa27391b95cd1af0d7ff6ff5c8937f226563f81", func := "given.example/pub-spokeshave/laws.FnBLDeepFull", spec := "fnBLDeepFull", named := ["encoding/binary.LittleEndian"], apart := false, narrowed := true }
def FnBLDeepFullUptoSaid : Prop := fnBLDeepFullUptoRow.holds Try.pinned (OpenSpec.upto fnBLDeepFullSpec)

end Rows
end Go.Proofs.Ytagillnkdaanaaa
