/-
  NARROWER THAN 'FOR EVERY INPUT', by the rows' own cells (each row's printed sentence says how): PropCommunityKindTableAndFirstOfKindReaders: laid · PropVNILabelsAndSplitHorizonByEncapsulation: laid.
  DERIVED. THE GIVEN ROWS OF THIS SEAT. 2 by the template 'for every input the law returns true; each argument reads behind the call as it read before'; 0 by the template 'total and deterministic' (their statements: Qxb6003712aDoorTotals.lean).
  GIVEN WITH THE SEED: the statements are not yours to turn. If you find one false, say at which input.
  Laid BY PROGRAM, IN A SANDBOX (cutbox-rows.mjs): the forced cells as the released guide's own fill.sh prints them over the translation 62b88d70712cb172… (all of the seat's roots in one cut). By AI agents, Wed Nov 11 2026. No macro, syntax, notation, axiom, sorry.
-/
import Derived.Test.Qxb6003712aDoorChecked
import GoSem.Claim
import GoSem.ClaimJoined
import GoSem.ClaimMapViews
import Derived.JoinedTies
import Derived.KernelRfl
namespace Go.Proofs.Qxb6003712aDoor
/- THE CELL 'sum', in the pinned program and in every row, IS THE sha256 OF THE DUMP (.gsa) THAT Qxb6003712aDoorProg.lean LOADS. Nothing in Lean hashes anything: it is a label: what it is worth is what the hold of that sum in a sandbox is worth. -/
noncomputable def Tryd.pinned : Pinned := { name := "qxb6003712adoor", sum := "62b88d70712cb1729370d5ba091add70cfa28a90adcdb54620a4cc23818d545b", checked := Tryd.checked }
namespace Rows
def none {H : Type} : Left H := { results := [], args := [] }

/- WHAT THE LISTED PACKAGE-LEVEL VARIABLES READ AS WHEN THE CALL BEGINS. Each datum BY PROGRAM (the guide's laid-datum.mjs) off the statement by which the dump's own 'gosem.cut.vars' lays the variable. In a bare row this is a premise. The card (Qxb6003712aDoorCards.lean) ties it to the program's text. -/
def laid_example_com_weftwire_weftwire_wire_evpnKinds {H : Type} : DataW H := .agg [.lit (.int .u8 4), .lit (.int .u8 5), .lit (.int .u8 6), .lit (.int .u8 7), .lit (.int .u8 8)]

/-- 'zzlaws_wire_c3.PropCommunityKindTableAndFirstOfKindReaders': WHATEVER THE INPUT: true; the input reads as it did. -/
def propCommunityKindTableAndFirstOfKindReadersSpec : ChangeSpec := { name := "propCommunityKindTableAndFirstOfKindReaders", vars := ["example.com/weftwire/weftwire/wire.evpnKinds"], fn := fun _ => fun
  | [d1, d2, d3, g1] => { results := [.lit (.bool true)], args := [d1, d2, d3], vars := [g1] }
  | _ => none }
def propCommunityKindTableAndFirstOfKindReadersRow : OpenClaim := { program := "qxb6003712adoor", sum := "62b88d70712cb1729370d5ba091add70cfa28a90adcdb54620a4cc23818d545b", func := "example.com/weftwire/weftwire/zzlaws_wire_c3.PropCommunityKindTableAndFirstOfKindReaders", spec := "propCommunityKindTableAndFirstOfKindReaders", named := ["example.com/weftwire/weftwire/wire.evpnKinds", "encoding/binary.BigEndian"], apart := false, laid := [("example.com/weftwire/weftwire/wire.evpnKinds", laid_example_com_weftwire_weftwire_wire_evpnKinds)] }
def PropCommunityKindTableAndFirstOfKindReadersSaid : Prop := propCommunityKindTableAndFirstOfKindReadersRow.holds Tryd.pinned (OpenSpec.ofChange propCommunityKindTableAndFirstOfKindReadersSpec)

/-- ITS FALSE NEIGHBOUR: 'it returns false'. Refute it at one input. -/
def propCommunityKindTableAndFirstOfKindReadersWrong : ChangeSpec := { name := "propCommunityKindTableAndFirstOfKindReaders", vars := ["example.com/weftwire/weftwire/wire.evpnKinds"], fn := fun _ => fun
  | [d1, d2, d3, g1] => { results := [.lit (.bool false)], args := [d1, d2, d3], vars := [g1] }
  | _ => none }
def PropCommunityKindTableAndFirstOfKindReadersWrongFalsely : Prop := propCommunityKindTableAndFirstOfKindReadersRow.holds Tryd.pinned (OpenSpec.ofChange propCommunityKindTableAndFirstOfKindReadersWrong)

/-- 'zzlaws_wire_c3.PropVNILabelsAndSplitHorizonByEncapsulation': WHATEVER THE INPUT: true; the input reads as it did. -/
def propVNILabelsAndSplitHorizonByEncapsulationSpec : ChangeSpec := { name := "propVNILabelsAndSplitHorizonByEncapsulation", vars := ["example.com/weftwire/weftwire/wire.evpnKinds"], fn := fun _ => fun
  | [d, g1] => { results := [.lit (.bool true)], args := [d], vars := [g1] }
  | _ => none }
def propVNILabelsAndSplitHorizonByEncapsulationRow : OpenClaim := { program := "qxb6003712adoor", sum := "62b88d70712cb1729370d5ba091add70cfa28a90adcdb54620a4cc23818d545b", func := "example.com/weftwire/weftwire/zzlaws_wire_c3.PropVNILabelsAndSplitHorizonByEncapsulation", spec := "propVNILabelsAndSplitHorizonByEncapsulation", unfollowed := true, recurses := true, named := ["encoding/binary.BigEndian", "example.com/weftwire/weftwire/wire.evpnKinds"], apart := false, laid := [("example.com/weftwire/weftwire/wire.evpnKinds", laid_example_com_weftwire_weftwire_wire_evpnKinds)] }
def PropVNILabelsAndSplitHorizonByEncapsulationSaid : Prop := propVNILabelsAndSplitHorizonByEncapsulationRow.holds Tryd.pinned (OpenSpec.ofChange propVNILabelsAndSplitHorizonByEncapsulationSpec)

/-- ITS FALSE NEIGHBOUR: 'it returns false'. Refute it at one input. -/
def propVNILabelsAndSplitHorizonByEncapsulationWrong : ChangeSpec := { name := "propVNILabelsAndSplitHorizonByEncapsulation", vars := ["example.com/weftwire/weftwire/wire.evpnKinds"], fn := fun _ => fun
  | [d, g1] => { results := [.lit (.bool false)], args := [d], vars := [g1] }
  | _ => none }
def PropVNILabelsAndSplitHorizonByEncapsulationWrongFalsely : Prop := propVNILabelsAndSplitHorizonByEncapsulationRow.holds Tryd.pinned (OpenSpec.ofChange propVNILabelsAndSplitHorizonByEncapsulationWrong)

end Rows
end Go.Proofs.Qxb6003712aDoor
