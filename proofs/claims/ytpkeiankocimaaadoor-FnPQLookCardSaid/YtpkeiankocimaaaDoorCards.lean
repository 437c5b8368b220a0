/-
  DERIVED. GIVEN WITH THE SEED: THE CARDS: each row of YtpkeiankocimaaaDoorRows.lean that lists a variable, with what it lists TIED to the program's text (the seventh form; the later family's looks); each row that meets fmt, with fmt's text TOLD by the authors' own Lean function (tested against real Go, not proved from fmt's source: count such statements apart). THE CARD IS WHAT COUNTS. Prove the row's statement (the work); the ties are given (YtpkeiankocimaaaDoorTie.lean); close each card by the builder's one call (the guide's Derived/Test/ToyasCard.lean, 'card_holds'). Laid BY PROGRAM, IN A SANDBOX (cutbox-door.mjs). By AI agents, Wed Nov 11 2026. No macro, syntax, notation, axiom, sorry.
-/
import Derived.Test.YtpkeiankocimaaaDoorRows
import GoSem.ClaimSeven
namespace Go.Proofs.YtpkeiankocimaaaDoor
namespace Rows

/-- THE TIED CARD OF 'laws.FnPQLook'. -/
def fnPQLookCard : Claim7 := { stood := { row := fnPQLookRow, standIns := [], harness := (true, "142819676f63405ec46e43a36c3ef371c521c251cde396b00bdf34e1ca52e8ca"), looks := true }, kinds := [], alts := [], laidByText := true, laidKinds := [.sentinel, .sentinel, .sentinel], laidTests := true, laidLooks := .later }
def FnPQLookCardSaid : Prop := Claim7.holds Tryd.pinned (.plain (OpenSpec.ofChange fnPQLookSpec)) fnPQLookCard

/-- THE TIED CARD OF 'laws.FnPQParts'. -/
def fnPQPartsCard : Claim7 := { stood := { row := fnPQPartsRow, standIns := [], harness := (true, "142819676f63405ec46e43a36c3ef371c521c251cde396b00bdf34e1ca52e8ca"), looks := true }, kinds := [], alts := [], laidByText := true, laidKinds := [.sentinel, .sentinel, .sentinel], laidTests := true, laidLooks := .later }
def FnPQPartsCardSaid : Prop := Claim7.holds Tryd.pinned (.plain (OpenSpec.ofChange fnPQPartsSpec)) fnPQPartsCard

/-- THE TIED CARD OF 'laws.FnPQUnlike'. -/
def fnPQUnlikeCard : Claim7 := { stood := { row := fnPQUnlikeRow, standIns := [], harness := (true, "142819676f63405ec46e43a36c3ef371c521c251cde396b00bdf34e1ca52e8ca"), looks := true }, kinds := [], alts := [], laidByText := true, laidKinds := [.sentinel, .sentinel, .sentinel], laidTests := true, laidLooks := .later }
def FnPQUnlikeCardSaid : Prop := Claim7.holds Tryd.pinned (.plain (OpenSpec.ofChange fnPQUnlikeSpec)) fnPQUnlikeCard

/-- THE SECOND FORM's CARD OF 'laws.FnPQLook'. -/
def fnPQLookUptoCard : Claim7 := { stood := { row := fnPQLookUptoRow, standIns := [], harness := (true, "142819676f63405ec46e43a36c3ef371c521c251cde396b00bdf34e1ca52e8ca"), looks := true }, kinds := [], alts := [], laidByText := true, laidKinds := [.sentinel, .sentinel, .sentinel], laidTests := true, laidLooks := .later }
def FnPQLookUptoCardSaid : Prop := Claim7.holds Tryd.pinned (.plain (OpenSpec.upto fnPQLookSpec)) fnPQLookUptoCard

/-- THE SECOND FORM's CARD OF 'laws.FnPQParts'. -/
def fnPQPartsUptoCard : Claim7 := { stood := { row := fnPQPartsUptoRow, standIns := [], harness := (true, "142819676f63405ec46e43a36c3ef371c521c251cde396b00bdf34e1ca52e8ca"), looks := true }, kinds := [], alts := [], laidByText := true, laidKinds := [.sentinel, .sentinel, .sentinel], laidTests := true, laidLooks := .later }
def FnPQPartsUptoCardSaid : Prop := Claim7.holds Tryd.pinned (.plain (OpenSpec.upto fnPQPartsSpec)) fnPQPartsUptoCard

/-- THE SECOND FORM's CARD OF 'laws.FnPQUnlike'. -/
def fnPQUnlikeUptoCard : Claim7 := { stood := { row := fnPQUnlikeUptoRow, standIns := [], harness := (true, "142819676f63405ec46e43a36c3ef371c521c251cde396b00bdf34e1ca52e8ca"), looks := true }, kinds := [], alts := [], laidByText := true, laidKinds := [.sentinel, .sentinel, .sentinel], laidTests := true, laidLooks := .later }
def FnPQUnlikeUptoCardSaid : Prop := Claim7.holds Tryd.pinned (.plain (OpenSpec.upto fnPQUnlikeSpec)) fnPQUnlikeUptoCard
end Rows
end Go.Proofs.YtpkeiankocimaaaDoor
