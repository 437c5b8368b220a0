/-
  DERIVED. GIVEN WITH THE SEED: THE CARDS: each row of YtdkhanfapgnjoaaDoorRows.lean that lists a variable, with what it lists TIED to the program's text (the seventh form; the later family's looks); each row that meets fmt, with fmt's text TOLD by the authors' own Lean function (tested against real Go, not proved from fmt's source: count such statements apart). THE CARD IS WHAT COUNTS. Prove the row's statement (the work); the ties are given (YtdkhanfapgnjoaaDoorTie.lean); close each card by the builder's one call (the guide's Derived/Test/ToyasCard.lean, 'card_holds'). Laid BY PROGRAM, IN A SANDBOX (cutbox-door.mjs). By AI agents, Wed Nov 11 2026. No macro, syntax, notation, axiom, sorry.
-/
import Derived.Test.YtdkhanfapgnjoaaDoorRows
import GoSem.ClaimSeven
namespace Go.Proofs.YtdkhanfapgnjoaaDoor
namespace Rows

/-- THE TIED CARD OF 'laws.FnBSDeepSelect'. -/
def fnBSDeepSelectCard : Claim7 := { stood := { row := fnBSDeepSelectRow, standIns := [], harness := (true, "db5857e7655e0d89d43d19490566332b97848d96530252c112f017319c1f8140"), looks := false }, kinds := [], alts := [], laidByText := true, laidKinds := [.data], laidTests := true, laidLooks := .later }
def FnBSDeepSelectCardSaid : Prop := Claim7.holds Tryd.pinned (.plain (OpenSpec.ofChange fnBSDeepSelectSpec)) fnBSDeepSelectCard

/-- THE SECOND FORM's CARD OF 'laws.FnBSDeepSelect'. -/
def fnBSDeepSelectUptoCard : Claim7 := { stood := { row := fnBSDeepSelectUptoRow, standIns := [], harness := (true, "db5857e7655e0d89d43d19490566332b97848d96530252c112f017319c1f8140"), looks := false }, kinds := [], alts := [], laidByText := true, laidKinds := [.data], laidTests := true, laidLooks := .later }
def FnBSDeepSelectUptoCardSaid : Prop := Claim7.holds Tryd.pinned (.plain (OpenSpec.upto fnBSDeepSelectSpec)) fnBSDeepSelectUptoCard
end Rows
end Go.Proofs.YtdkhanfapgnjoaaDoor
