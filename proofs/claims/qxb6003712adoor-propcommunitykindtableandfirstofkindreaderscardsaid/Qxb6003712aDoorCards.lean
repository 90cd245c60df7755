/-
  DERIVED. GIVEN WITH THE SEED: THE CARDS: each row of Qxb6003712aDoorRows.lean that lists a variable, with what it lists TIED to the program's text (the seventh form; the later family's looks); each row that meets fmt, with fmt's text TOLD by the authors' own Lean function (tested against real Go, not proved from fmt's source: count such statements apart). THE CARD IS WHAT COUNTS. Prove the row's statement (the work); the ties are given (Qxb6003712aDoorTie.lean); close each card by the builder's one call (the guide's Derived/Test/ToyasCard.lean, 'card_holds'). Laid BY PROGRAM, IN A SANDBOX (cutbox-door.mjs). By AI agents, Wed Nov 11 2026. No macro, syntax, notation, axiom, sorry.
-/
import Derived.Test.Qxb6003712aDoorRows
import GoSem.ClaimSeven
namespace Go.Proofs.Qxb6003712aDoor
namespace Rows

/-- THE TIED CARD OF 'zzlaws_wire_c3.PropCommunityKindTableAndFirstOfKindReaders'. -/
def propCommunityKindTableAndFirstOfKindReadersCard : Claim7 := { stood := { row := propCommunityKindTableAndFirstOfKindReadersRow, standIns := [], harness := (true, "80238241b04a7a330086592f28161222628086a724e4e25dd456ae82702f6a08"), looks := false }, kinds := [], alts := [], laidByText := true, laidKinds := [.data], laidTests := true, laidLooks := .later }
def PropCommunityKindTableAndFirstOfKindReadersCardSaid : Prop := Claim7.holds Tryd.pinned (.plain (OpenSpec.ofChange propCommunityKindTableAndFirstOfKindReadersSpec)) propCommunityKindTableAndFirstOfKindReadersCard

/-- THE TIED CARD OF 'zzlaws_wire_c3.PropVNILabelsAndSplitHorizonByEncapsulation'. -/
def propVNILabelsAndSplitHorizonByEncapsulationCard : Claim7 := { stood := { row := propVNILabelsAndSplitHorizonByEncapsulationRow, standIns := [], harness := (true, "80238241b04a7a330086592f28161222628086a724e4e25dd456ae82702f6a08"), looks := false }, kinds := [], alts := [], laidByText := true, laidKinds := [.data], laidTests := true, laidLooks := .later }
def PropVNILabelsAndSplitHorizonByEncapsulationCardSaid : Prop := Claim7.holds Tryd.pinned (.plain (OpenSpec.ofChange propVNILabelsAndSplitHorizonByEncapsulationSpec)) propVNILabelsAndSplitHorizonByEncapsulationCard
end Rows
end Go.Proofs.Qxb6003712aDoor
