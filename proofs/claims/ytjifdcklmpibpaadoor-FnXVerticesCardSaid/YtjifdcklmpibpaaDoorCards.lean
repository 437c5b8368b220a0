/-
  DERIVED. GIVEN WITH THE SEED: THE CARDS: each row of YtjifdcklmpibpaaDoorRows.lean that lists a variable, with what it lists TIED to the program's text (the seventh form; the later family's looks); each row that meets fmt, with fmt's text TOLD by the authors' own Lean function (tested against real Go, not proved from fmt's source: count such statements apart). THE CARD IS WHAT COUNTS. Prove the row's statement (the work); the ties are given (YtjifdcklmpibpaaDoorTie.lean); close each card by the builder's one call (the guide's Derived/Test/ToyasCard.lean, 'card_holds'). Laid BY PROGRAM, IN A SANDBOX (cutbox-door.mjs). By AI agents, Wed Nov 11 2026. No macro, syntax, notation, axiom, sorry.
-/
import Derived.Test.YtjifdcklmpibpaaDoorRows
import GoSem.ClaimSeven
namespace Go.Proofs.YtjifdcklmpibpaaDoor
namespace Rows

/-- THE TIED CARD OF 'laws.FnGRMore'. -/
def fnGRMoreCard : Claim7 := { stood := { row := fnGRMoreRow, standIns := [], harness := (true, "d6b381d4647543526d1494af46eeaa95908fb74a53e2d0a619e13a48df6719f0"), looks := true }, kinds := [], alts := [], laidByText := true, laidKinds := [.sentinel, .sentinel, .sentinel], laidTests := true, laidLooks := .later }
def FnGRMoreCardSaid : Prop := Claim7.holds Tryd.pinned (.plain (OpenSpec.ofChange fnGRMoreSpec)) fnGRMoreCard

/-- THE TIED CARD OF 'laws.FnXVertices'. -/
def fnXVerticesCard : Claim7 := { stood := { row := fnXVerticesRow, standIns := [], harness := (true, "d6b381d4647543526d1494af46eeaa95908fb74a53e2d0a619e13a48df6719f0"), looks := true }, kinds := [], alts := [], laidByText := true, laidKinds := [.sentinel, .sentinel, .sentinel], laidTests := true, laidLooks := .later }
def FnXVerticesCardSaid : Prop := Claim7.holds Tryd.pinned (.plain (OpenSpec.ofChange fnXVerticesSpec)) fnXVerticesCard

/-- THE TIED CARD OF 'laws.FnGRNamed'. -/
def fnGRNamedCard : Claim7 := { stood := { row := fnGRNamedRow, standIns := [], harness := (true, "d6b381d4647543526d1494af46eeaa95908fb74a53e2d0a619e13a48df6719f0"), looks := true }, kinds := [], alts := [], laidByText := true, laidKinds := [.sentinel, .sentinel, .sentinel], laidTests := true, laidLooks := .later }
def FnGRNamedCardSaid : Prop := Claim7.holds Tryd.pinned (.plain (OpenSpec.ofChange fnGRNamedSpec)) fnGRNamedCard

/-- THE SECOND FORM's CARD OF 'laws.FnGRMore'. -/
def fnGRMoreUptoCard : Claim7 := { stood := { row := fnGRMoreUptoRow, standIns := [], harness := (true, "d6b381d4647543526d1494af46eeaa95908fb74a53e2d0a619e13a48df6719f0"), looks := true }, kinds := [], alts := [], laidByText := true, laidKinds := [.sentinel, .sentinel, .sentinel], laidTests := true, laidLooks := .later }
def FnGRMoreUptoCardSaid : Prop := Claim7.holds Tryd.pinned (.plain (OpenSpec.upto fnGRMoreSpec)) fnGRMoreUptoCard

/-- THE SECOND FORM's CARD OF 'laws.FnXVertices'. -/
def fnXVerticesUptoCard : Claim7 := { stood := { row := fnXVerticesUptoRow, standIns := [], harness := (true, "d6b381d4647543526d1494af46eeaa95908fb74a53e2d0a619e13a48df6719f0"), looks := true }, kinds := [], alts := [], laidByText := true, laidKinds := [.sentinel, .sentinel, .sentinel], laidTests := true, laidLooks := .later }
def FnXVerticesUptoCardSaid : Prop := Claim7.holds Tryd.pinned (.plain (OpenSpec.upto fnXVerticesSpec)) fnXVerticesUptoCard

/-- THE SECOND FORM's CARD OF 'laws.FnGRNamed'. -/
def fnGRNamedUptoCard : Claim7 := { stood := { row := fnGRNamedUptoRow, standIns := [], harness := (true, "d6b381d4647543526d1494af46eeaa95908fb74a53e2d0a619e13a48df6719f0"), looks := true }, kinds := [], alts := [], laidByText := true, laidKinds := [.sentinel, .sentinel, .sentinel], laidTests := true, laidLooks := .later }
def FnGRNamedUptoCardSaid : Prop := Claim7.holds Tryd.pinned (.plain (OpenSpec.upto fnGRNamedSpec)) fnGRNamedUptoCard
end Rows
end Go.Proofs.YtjifdcklmpibpaaDoor
