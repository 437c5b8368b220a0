/-
  No cell of these rows narrows 'for every input' (looked for: loops, veiled, ifaces, maps, wideKeys, modest, calm, conditions, laid).
  DERIVED. THE GIVEN ROWS OF THIS SEAT. 10 by the template 'for every input the law returns true; each argument reads behind the call as it read before'; 0 by the template 'total and deterministic' (their statements: YtgnhmgnpmbmjcaaTotals.lean).
  GIVEN WITH THE SEED: the statements are not yours to turn. If you find one false, say at which input.
  Laid BY PROGRAM, IN A SANDBOX (cutbox-rows.mjs): the forced cells as the released guide's own fill.sh prints them over the translation 0833b6dc1242a858… (all of the seat's roots in one cut). By AI agents, Wed Nov 11 2026. No macro, syntax, notation, axiom, sorry.
-/
import Derived.Test.YtgnhmgnpmbmjcaaChecked
import GoSem.Claim
import GoSem.ClaimJoined
import GoSem.ClaimMapViews
import Derived.JoinedTies
import Derived.KernelRfl
namespace Go.Proofs.Ytgnhmgnpmbmjcaa
/- THE CELL 'sum', in the pinned program and in every row, IS THE sha256 OF THE DUMP (.gsa) THAT YtgnhmgnpmbmjcaaProg.lean LOADS. Nothing in Lean hashes anything: it is a label: what it is worth is what the hold of that sum in a sandbox is worth. -/
noncomputable def Try.pinned : Pinned := { name := "ytgnhmgnpmbmjcaa", sum := "0833b6dc1242a8584b11f57f0cc33a4f7d2f2e03775fc9bd37312acc1eb0fac2", checked := Try.checked }
namespace Rows
def none {H : Type} : Left H := { results := [], args := [] }

/-- 'laws.FnBSDeepOrder': WHATEVER THE INPUT: true; the input reads as it did. -/
def fnBSDeepOrderSpec : ChangeSpec := { name := "fnBSDeepOrder", fn := fun _ => fun
  | [d1, d2, d3] => { results := [.lit (.bool true)], args := [d1, d2, d3] }
  | _ => none }
def fnBSDeepOrderRow : OpenClaim := { program := "ytgnhmgnpmbmjcaa", sum := "0833b6dc1242a8584b11f57f0cc33a4f7d2f2e03775fc9bd37312acc1eb0fac2", func := "given.example/pub-spokeshave/laws.FnBSDeepOrder", spec := "fnBSDeepOrder", unfollowed := true, recurses := true, apart := false }
def FnBSDeepOrderSaid : Prop := fnBSDeepOrderRow.holds Try.pinned (OpenSpec.ofChange fnBSDeepOrderSpec)

/-- ITS FALSE NEIGHBOUR: 'it returns false'. Refute it at one input. -/
def fnBSDeepOrderWrong : ChangeSpec := { name := "fnBSDeepOrder", fn := fun _ => fun
  | [d1, d2, d3] => { results := [.lit (.bool false)], args := [d1, d2, d3] }
  | _ => none }
def FnBSDeepOrderWrongFalsely : Prop := fnBSDeepOrderRow.holds Try.pinned (OpenSpec.ofChange fnBSDeepOrderWrong)

/-- 'laws.FnBSDeepGroups': WHATEVER THE INPUT: true; the input reads as it did. -/
def fnBSDeepGroupsSpec : ChangeSpec := { name := "fnBSDeepGroups", fn := fun _ => fun
  | [d1, d2, d3] => { results := [.lit (.bool true)], args := [d1, d2, d3] }
  | _ => none }
def fnBSDeepGroupsRow : OpenClaim := { program := "ytgnhmgnpmbmjcaa", sum := "0833b6dc1242a8584b11f57f0cc33a4f7d2f2e03775fc9bd37312acc1eb0fac2", func := "given.example/pub-spokeshave/laws.FnBSDeepGroups", spec := "fnBSDeepGroups", unfollowed := true, recurses := true, apart := false }
def FnBSDeepGroupsSaid : Prop := fnBSDeepGroupsRow.holds Try.pinned (OpenSpec.ofChange fnBSDeepGroupsSpec)

/-- ITS FALSE NEIGHBOUR: 'it returns false'. Refute it at one input. -/
def fnBSDeepGroupsWrong : ChangeSpec := { name := "fnBSDeepGroups", fn := fun _ => fun
  | [d1, d2, d3] => { results := [.lit (.bool false)], args := [d1, d2, d3] }
  | _ => none }
def FnBSDeepGroupsWrongFalsely : Prop := fnBSDeepGroupsRow.holds Try.pinned (OpenSpec.ofChange fnBSDeepGroupsWrong)

/-- 'laws.FnBSDeepThree': WHATEVER THE INPUT: true; the input reads as it did. -/
def fnBSDeepThreeSpec : ChangeSpec := { name := "fnBSDeepThree", fn := fun _ => fun
  | [d1, d2, d3, d4] => { results := [.lit (.bool true)], args := [d1, d2, d3, d4] }
  | _ => none }
def fnBSDeepThreeRow : OpenClaim := { program := "ytgnhmgnpmbmjcaa", sum := "0833b6dc1242a8584b11f57f0cc33a4f7d2f2e03775fc9bd37312acc1eb0fac2", func := "given.example/pub-spokeshave/laws.FnBSDeepThree", spec := "fnBSDeepThree", unfollowed := true, recurses := true, apart := false }
def FnBSDeepThreeSaid : Prop := fnBSDeepThreeRow.holds Try.pinned (OpenSpec.ofChange fnBSDeepThreeSpec)

/-- ITS FALSE NEIGHBOUR: 'it returns false'. Refute it at one input. -/
def fnBSDeepThreeWrong : ChangeSpec := { name := "fnBSDeepThree", fn := fun _ => fun
  | [d1, d2, d3, d4] => { results := [.lit (.bool false)], args := [d1, d2, d3, d4] }
  | _ => none }
def FnBSDeepThreeWrongFalsely : Prop := fnBSDeepThreeRow.holds Try.pinned (OpenSpec.ofChange fnBSDeepThreeWrong)

/-- 'laws.FnBSDeepOne': WHATEVER THE INPUT: true; the input reads as it did. -/
def fnBSDeepOneSpec : ChangeSpec := { name := "fnBSDeepOne", fn := fun _ => fun
  | [d1, d2] => { results := [.lit (.bool true)], args := [d1, d2] }
  | _ => none }
def fnBSDeepOneRow : OpenClaim := { program := "ytgnhmgnpmbmjcaa", sum := "0833b6dc1242a8584b11f57f0cc33a4f7d2f2e03775fc9bd37312acc1eb0fac2", func := "given.example/pub-spokeshave/laws.FnBSDeepOne", spec := "fnBSDeepOne", unfollowed := true, recurses := true, apart := false }
def FnBSDeepOneSaid : Prop := fnBSDeepOneRow.holds Try.pinned (OpenSpec.ofChange fnBSDeepOneSpec)

/-- ITS FALSE NEIGHBOUR: 'it returns false'. Refute it at one input. -/
def fnBSDeepOneWrong : ChangeSpec := { name := "fnBSDeepOne", fn := fun _ => fun
  | [d1, d2] => { results := [.lit (.bool false)], args := [d1, d2] }
  | _ => none }
def FnBSDeepOneWrongFalsely : Prop := fnBSDeepOneRow.holds Try.pinned (OpenSpec.ofChange fnBSDeepOneWrong)

/-- 'laws.FnBSDeepWord': WHATEVER THE INPUT: true; the input reads as it did. -/
def fnBSDeepWordSpec : ChangeSpec := { name := "fnBSDeepWord", fn := fun _ => fun
  | [d1, d2] => { results := [.lit (.bool true)], args := [d1, d2] }
  | _ => none }
def fnBSDeepWordRow : OpenClaim := { program := "ytgnhmgnpmbmjcaa", sum := "0833b6dc1242a8584b11f57f0cc33a4f7d2f2e03775fc9bd37312acc1eb0fac2", func := "given.example/pub-spokeshave/laws.FnBSDeepWord", spec := "fnBSDeepWord", unfollowed := true, recurses := true, apart := false }
def FnBSDeepWordSaid : Prop := fnBSDeepWordRow.holds Try.pinned (OpenSpec.ofChange fnBSDeepWordSpec)

/-- ITS FALSE NEIGHBOUR: 'it returns false'. Refute it at one input. -/
def fnBSDeepWordWrong : ChangeSpec := { name := "fnBSDeepWord", fn := fun _ => fun
  | [d1, d2] => { results := [.lit (.bool false)], args := [d1, d2] }
  | _ => none }
def FnBSDeepWordWrongFalsely : Prop := fnBSDeepWordRow.holds Try.pinned (OpenSpec.ofChange fnBSDeepWordWrong)

/-- 'laws.FnBSDeepDelete': WHATEVER THE INPUT: true; the input reads as it did. -/
def fnBSDeepDeleteSpec : ChangeSpec := { name := "fnBSDeepDelete", fn := fun _ => fun
  | [d1, d2, d3] => { results := [.lit (.bool true)], args := [d1, d2, d3] }
  | _ => none }
def fnBSDeepDeleteRow : OpenClaim := { program := "ytgnhmgnpmbmjcaa", sum := "0833b6dc1242a8584b11f57f0cc33a4f7d2f2e03775fc9bd37312acc1eb0fac2", func := "given.example/pub-spokeshave/laws.FnBSDeepDelete", spec := "fnBSDeepDelete", unfollowed := true, recurses := true, apart := false }
def FnBSDeepDeleteSaid : Prop := fnBSDeepDeleteRow.holds Try.pinned (OpenSpec.ofChange fnBSDeepDeleteSpec)

/-- ITS FALSE NEIGHBOUR: 'it returns false'. Refute it at one input. -/
def fnBSDeepDeleteWrong : ChangeSpec := { name := "fnBSDeepDelete", fn := fun _ => fun
  | [d1, d2, d3] => { results := [.lit (.bool false)], args := [d1, d2, d3] }
  | _ => none }
def FnBSDeepDeleteWrongFalsely : Prop := fnBSDeepDeleteRow.holds Try.pinned (OpenSpec.ofChange fnBSDeepDeleteWrong)

/-- 'laws.FnBSDeepShifts': WHATEVER THE INPUT: true; the input reads as it did. -/
def fnBSDeepShiftsSpec : ChangeSpec := { name := "fnBSDeepShifts", fn := fun _ => fun
  | [d1, d2, d3, d4] => { results := [.lit (.bool true)], args := [d1, d2, d3, d4] }
  | _ => none }
def fnBSDeepShiftsRow : OpenClaim := { program := "ytgnhmgnpmbmjcaa", sum := "0833b6dc1242a8584b11f57f0cc33a4f7d2f2e03775fc9bd37312acc1eb0fac2", func := "given.example/pub-spokeshave/laws.FnBSDeepShifts", spec := "fnBSDeepShifts", unfollowed := true, recurses := true, apart := false }
def FnBSDeepShiftsSaid : Prop := fnBSDeepShiftsRow.holds Try.pinned (OpenSpec.ofChange fnBSDeepShiftsSpec)

/-- ITS FALSE NEIGHBOUR: 'it returns false'. Refute it at one input. -/
def fnBSDeepShiftsWrong : ChangeSpec := { name := "fnBSDeepShifts", fn := fun _ => fun
  | [d1, d2, d3, d4] => { results := [.lit (.bool false)], args := [d1, d2, d3, d4] }
  | _ => none }
def FnBSDeepShiftsWrongFalsely : Prop := fnBSDeepShiftsRow.holds Try.pinned (OpenSpec.ofChange fnBSDeepShiftsWrong)

/-- 'laws.FnBSDeepBack': WHATEVER THE INPUT: true; the input reads as it did. -/
def fnBSDeepBackSpec : ChangeSpec := { name := "fnBSDeepBack", fn := fun _ => fun
  | [d1, d2] => { results := [.lit (.bool true)], args := [d1, d2] }
  | _ => none }
def fnBSDeepBackRow : OpenClaim := { program := "ytgnhmgnpmbmjcaa", sum := "0833b6dc1242a8584b11f57f0cc33a4f7d2f2e03775fc9bd37312acc1eb0fac2", func := "given.example/pub-spokeshave/laws.FnBSDeepBack", spec := "fnBSDeepBack", unfollowed := true, recurses := true, apart := false }
def FnBSDeepBackSaid : Prop := fnBSDeepBackRow.holds Try.pinned (OpenSpec.ofChange fnBSDeepBackSpec)

/-- ITS FALSE NEIGHBOUR: 'it returns false'. Refute it at one input. -/
def fnBSDeepBackWrong : ChangeSpec := { name := "fnBSDeepBack", fn := fun _ => fun
  | [d1, d2] => { results := [.lit (.bool false)], args := [d1, d2] }
  | _ => none }
def FnBSDeepBackWrongFalsely : Prop := fnBSDeepBackRow.holds Try.pinned (OpenSpec.ofChange fnBSDeepBackWrong)

/-- 'laws.FnBSDeepEqual': WHATEVER THE INPUT: true; the input reads as it did. -/
def fnBSDeepEqualSpec : ChangeSpec := { name := "fnBSDeepEqual", fn := fun _ => fun
  | [d1, d2, d3] => { results := [.lit (.bool true)], args := [d1, d2, d3] }
  | _ => none }
def fnBSDeepEqualRow : OpenClaim := { program := "ytgnhmgnpmbmjcaa", sum := "0833b6dc1242a8584b11f57f0cc33a4f7d2f2e03775fc9bd37312acc1eb0fac2", func := "given.example/pub-spokeshave/laws.FnBSDeepEqual", spec := "fnBSDeepEqual", unfollowed := true, recurses := true, apart := false }
def FnBSDeepEqualSaid : Prop := fnBSDeepEqualRow.holds Try.pinned (OpenSpec.ofChange fnBSDeepEqualSpec)

/-- ITS FALSE NEIGHBOUR: 'it returns false'. Refute it at one input. -/
def fnBSDeepEqualWrong : ChangeSpec := { name := "fnBSDeepEqual", fn := fun _ => fun
  | [d1, d2, d3] => { results := [.lit (.bool false)], args := [d1, d2, d3] }
  | _ => none }
def FnBSDeepEqualWrongFalsely : Prop := fnBSDeepEqualRow.holds Try.pinned (OpenSpec.ofChange fnBSDeepEqualWrong)

/-- 'laws.FnBSDeepApart': WHATEVER THE INPUT: true; the input reads as it did. -/
def fnBSDeepApartSpec : ChangeSpec := { name := "fnBSDeepApart", fn := fun _ => fun
  | [d1, d2, d3, d4] => { results := [.lit (.bool true)], args := [d1, d2, d3, d4] }
  | _ => none }
def fnBSDeepApartRow : OpenClaim := { program := "ytgnhmgnpmbmjcaa", sum := "0833b6dc1242a8584b11f57f0cc33a4f7d2f2e03775fc9bd37312acc1eb0fac2", func := "given.example/pub-spokeshave/laws.FnBSDeepApart", spec := "fnBSDeepApart", unfollowed := true, recurses := true, apart := false }
def FnBSDeepApartSaid : Prop := fnBSDeepApartRow.holds Try.pinned (OpenSpec.ofChange fnBSDeepApartSpec)

/-- ITS FALSE NEIGHBOUR: 'it returns false'. Refute it at one input. -/
def fnBSDeepApartWrong : ChangeSpec := { name := "fnBSDeepApart", fn := fun _ => fun
  | [d1, d2, d3, d4] => { results := [.lit (.bool false)], args := [d1, d2, d3, d4] }
  | _ => none }
def FnBSDeepApartWrongFalsely : Prop := fnBSDeepApartRow.holds Try.pinned (OpenSpec.ofChange fnBSDeepApartWrong)

/- THE SECOND FORM. 'bulk': how many values and letters a reading holds, each counted each time it is reached (what is shared counts as often as it is met; a slice's spare places count too). A statement '..UptoSaid' is the law's where the arguments, and the package variables that the reading takes, are together of bulk at most 1048576: NARROWER than '..Said'. Prove '..Said' where nothing that the law and all that it calls make is longer than what came in: it says more and counts as full. Else prove '..UptoSaid'. A law counts once. -/
mutual
def uptoBulk {H : Type} : DataW H → Nat
  | .lit (.string bytes) => bytes.length + 1
  | .lit _ => 1
  | .nil => 1
  | .ptr d => uptoBulk d + 1
  | .slice elems spare => uptoBulkAll elems + uptoBulkAll spare + 1
  | .agg parts => uptoBulkAll parts + 1
  | .iface _ d => uptoBulk d + 1
  | .map entries => uptoBulkEntries entries + 1
  | .held _ => 1
def uptoBulkAll {H : Type} : List (DataW H) → Nat
  | [] => 0
  | d :: r => uptoBulk d + uptoBulkAll r
def uptoBulkEntries {H : Type} : List (Lit × DataW H) → Nat
  | [] => 0
  | x :: r => uptoBulkEntry x + uptoBulkEntries r
def uptoBulkEntry {H : Type} : Lit × DataW H → Nat
  | (.string bytes, d) => bytes.length + uptoBulk d + 1
  | (_, d) => uptoBulk d + 1
 end
def uptoSmall : (H : Type) → List (DataW H) → Bool := fun _ ds => decide (uptoBulkAll ds ≤ 1048576)
def OpenSpec.upto (s : _root_.Go.ChangeSpec) : _root_.Go.OpenSpec := { _root_.Go.OpenSpec.ofChange s with cond := some uptoSmall }

/-- 'laws.FnBSDeepOrder', WHERE WHAT IT READS IS OF BULK AT MOST 1048576: true; the input reads as it did. -/
def fnBSDeepOrderUptoRow : OpenClaim := { program := "ytgnhmgnpmbmjcaa", sum := "0833b6dc1242a8584b11f57f0cc33a4f7d2f2e03775fc9bd37312acc1eb0fac2", func := "given.example/pub-spokeshave/laws.FnBSDeepOrder", spec := "fnBSDeepOrder", unfollowed := true, recurses := true, apart := false, narrowed := true }
def FnBSDeepOrderUptoSaid : Prop := fnBSDeepOrderUptoRow.holds Try.pinned (OpenSpec.upto fnBSDeepOrderSpec)

/-- 'laws.FnBSDeepGroups', WHERE WHAT IT READS IS OF BULK AT MOST 1048576: true; the input reads as it did. -/
def fnBSDeepGroupsUptoRow : OpenClaim := { program := "ytgnhmgnpmbmjcaa", sum := "0833b6dc1242a8584b11f57f0cc33a4f7d2f2e03775fc9bd37312acc1eb0fac2", func := "given.example/pub-spokeshave/laws.FnBSDeepGroups", spec := "fnBSDeepGroups", unfollowed := true, recurses := true, apart := false, narrowed := true }
def FnBSDeepGroupsUptoSaid : Prop := fnBSDeepGroupsUptoRow.holds Try.pinned (OpenSpec.upto fnBSDeepGroupsSpec)

/-- 'laws.FnBSDeepThree', WHERE WHAT IT READS IS OF BULK AT MOST 1048576: true; the input reads as it did. -/
def fnBSDeepThreeUptoRow : OpenClaim := { program := "ytgnhmgnpmbmjcaa", sum := "0833b6dc1242a8584b11f57f0cc33a4f7d2f2e03775fc9bd37312acc1eb0fac2", func := "given.example/pub-spokeshave/laws.FnBSDeepThree", spec := "fnBSDeepThree", unfollowed := true, recurses := true, apart := false, narrowed := true }
def FnBSDeepThreeUptoSaid : Prop := fnBSDeepThreeUptoRow.holds Try.pinned (OpenSpec.upto fnBSDeepThreeSpec)

/-- 'laws.FnBSDeepOne', WHERE WHAT IT READS IS OF BULK AT MOST 1048576: true; the input reads as it did. -/
def fnBSDeepOneUptoRow : OpenClaim := { program := "ytgnhmgnpmbmjcaa", sum := "0833b6dc1242a8584b11f57f0cc33a4f7d2f2e03775fc9bd37312acc1eb0fac2", func := "given.example/pub-spokeshave/laws.FnBSDeepOne", spec := "fnBSDeepOne", unfollowed := true, recurses := true, apart := false, narrowed := true }
def FnBSDeepOneUptoSaid : Prop := fnBSDeepOneUptoRow.holds Try.pinned (OpenSpec.upto fnBSDeepOneSpec)

/-- 'laws.FnBSDeepWord', WHERE WHAT IT READS IS OF BULK AT MOST 1048576: true; the input reads as it did. -/
def fnBSDeepWordUptoRow : OpenClaim := { program := "ytgnhmgnpmbmjcaa", sum := "0833b6dc1242a8584b11f57f0cc33a4f7d2f2e03775fc9bd37312acc1eb0fac2", func := "given.example/pub-spokeshave/laws.FnBSDeepWord", spec := "fnBSDeepWord", unfollowed := true, recurses := true, apart := false, narrowed := true }
def FnBSDeepWordUptoSaid : Prop := fnBSDeepWordUptoRow.holds Try.pinned (OpenSpec.upto fnBSDeepWordSpec)

/-- 'laws.FnBSDeepDelete', WHERE WHAT IT READS IS OF BULK AT MOST 1048576: true; the input reads as it did. -/
def fnBSDeepDeleteUptoRow : OpenClaim := { program := "ytgnhmgnpmbmjcaa", sum := "0833b6dc1242a8584b11f57f0cc33a4f7d2f2e03775fc9bd37312acc1eb0fac2", func := "given.example/pub-spokeshave/laws.FnBSDeepDelete", spec := "fnBSDeepDelete", unfollowed := true, recurses := true, apart := false, narrowed := true }
def FnBSDeepDeleteUptoSaid : Prop := fnBSDeepDeleteUptoRow.holds Try.pinned (OpenSpec.upto fnBSDeepDeleteSpec)

/-- 'laws.FnBSDeepShifts', WHERE WHAT IT READS IS OF BULK AT MOST 1048576: true; the input reads as it did. -/
def fnBSDeepShiftsUptoRow : OpenClaim := { program := "ytgnhmgnpmbmjcaa", sum := "0833b6dc1242a8584b11f57f0cc33a4f7d2f2e03775fc9bd37312acc1eb0fac2", func := "given.example/pub-spokeshave/laws.FnBSDeepShifts", spec := "fnBSDeepShifts", unfollowed := true, recurses := true, apart := false, narrowed := true }
def FnBSDeepShiftsUptoSaid : Prop := fnBSDeepShiftsUptoRow.holds Try.pinned (OpenSpec.upto fnBSDeepShiftsSpec)

/-- 'laws.FnBSDeepBack', WHERE WHAT IT READS IS OF BULK AT MOST 1048576: true; the input reads as it did. -/
def fnBSDeepBackUptoRow : OpenClaim := { program := "ytgnhmgnpmbmjcaa", sum := "0833b6dc1242a8584b11f57f0cc33a4f7d2f2e03775fc9bd37312acc1eb0fac2", func := "given.example/pub-spokeshave/laws.FnBSDeepBack", spec := "fnBSDeepBack", unfollowed := true, recurses := true, apart := false, narrowed := true }
def FnBSDeepBackUptoSaid : Prop := fnBSDeepBackUptoRow.holds Try.pinned (OpenSpec.upto fnBSDeepBackSpec)

/-- 'laws.FnBSDeepEqual', WHERE WHAT IT READS IS OF BULK AT MOST 1048576: true; the input reads as it did. -/
def fnBSDeepEqualUptoRow : OpenClaim := { program := "ytgnhmgnpmbmjcaa", sum := "0833b6dc1242a8584b11f57f0cc33a4f7d2f2e03775fc9bd37312acc1eb0fac2", func := "given.example/pub-spokeshave/laws.FnBSDeepEqual", spec := "fnBSDeepEqual", unfollowed := true, recurses := true, apart := false, narrowed := true }
def FnBSDeepEqualUptoSaid : Prop := fnBSDeepEqualUptoRow.holds Try.pinned (OpenSpec.upto fnBSDeepEqualSpec)

/-- 'laws.FnBSDeepApart', WHERE WHAT IT READS IS OF BULK AT MOST 1048576: true; the input reads as it did. -/
def fnBSDeepApartUptoRow : OpenClaim := { program := "ytgnhmgnpmbmjcaa", sum := "0833b6dc1242a8584b11f57f0cc33a4f7d2f2e03775fc9bd37312acc1eb0fac2", func := "given.example/pub-spokeshave/laws.FnBSDeepApart", spec := "fnBSDeepApart", unfollowed := true, recurses := true, apart := false, narrowed := true }
def FnBSDeepApartUptoSaid : Prop := fnBSDeepApartUptoRow.holds Try.pinned (OpenSpec.upto fnBSDeepApartSpec)

end Rows
end Go.Proofs.Ytgnhmgnpmbmjcaa
