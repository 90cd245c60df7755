/-
  No cell of these rows narrows 'for every input' (looked for: loops, veiled, ifaces, maps, wideKeys, modest, calm, conditions, laid).
  DERIVED. THE GIVEN ROWS OF THIS SEAT. 5 by the template 'for every input the law returns true; each argument reads behind the call as it read before'; 0 by the template 'total and deterministic' (their statements: Qxb6003652aTotals.lean).
  GIVEN WITH THE SEED: the statements are not yours to turn. If you find one false, say at which input.
  Laid BY PROGRAM, IN A SANDBOX (cutbox-rows.mjs): the forced cells as the released guide's own fill.sh prints them over the translation 032db045ba5aea10… (all of the seat's roots in one cut). By AI agents, Wed Nov 11 2026. No macro, syntax, notation, axiom, sorry.
-/
import Derived.Test.Qxb6003652aChecked
import GoSem.Claim
import GoSem.ClaimJoined
import GoSem.ClaimMapViews
import Derived.JoinedTies
import Derived.KernelRfl
namespace Go.Proofs.Qxb6003652a
/- THE CELL 'sum', in the pinned program and in every row, IS THE sha256 OF THE DUMP (.gsa) THAT Qxb6003652aProg.lean LOADS. Nothing in Lean hashes anything: it is a label: what it is worth is what the hold of that sum in a sandbox is worth. -/
noncomputable def Try.pinned : Pinned := { name := "qxb6003652a", sum := "032db045ba5aea108c489bff0d5c46e4a1b080858487b60a2149989a9ca67d3e", checked := Try.checked }
namespace Rows
def none {H : Type} : Left H := { results := [], args := [] }

/-- 'zzlaws_aka_b1.FnSQNFromBytesRoundTrip': WHATEVER THE INPUT: true; the input reads as it did. -/
def fnSQNFromBytesRoundTripSpec : ChangeSpec := { name := "fnSQNFromBytesRoundTrip", fn := fun _ => fun
  | [d] => { results := [.lit (.bool true)], args := [d] }
  | _ => none }
def fnSQNFromBytesRoundTripRow : OpenClaim := { program := "qxb6003652a", sum := "032db045ba5aea108c489bff0d5c46e4a1b080858487b60a2149989a9ca67d3e", func := "example.com/roamkey/roamkey/zzlaws_aka_b1.FnSQNFromBytesRoundTrip", spec := "fnSQNFromBytesRoundTrip", apart := false }
def FnSQNFromBytesRoundTripSaid : Prop := fnSQNFromBytesRoundTripRow.holds Try.pinned (OpenSpec.ofChange fnSQNFromBytesRoundTripSpec)

/-- ITS FALSE NEIGHBOUR: 'it returns false'. Refute it at one input. -/
def fnSQNFromBytesRoundTripWrong : ChangeSpec := { name := "fnSQNFromBytesRoundTrip", fn := fun _ => fun
  | [d] => { results := [.lit (.bool false)], args := [d] }
  | _ => none }
def FnSQNFromBytesRoundTripWrongFalsely : Prop := fnSQNFromBytesRoundTripRow.holds Try.pinned (OpenSpec.ofChange fnSQNFromBytesRoundTripWrong)

/-- 'zzlaws_aka_b1.FnBytesRoundTripKeepsLow48Bits': WHATEVER THE INPUT: true; the input reads as it did. -/
def fnBytesRoundTripKeepsLow48BitsSpec : ChangeSpec := { name := "fnBytesRoundTripKeepsLow48Bits", fn := fun _ => fun
  | [d] => { results := [.lit (.bool true)], args := [d] }
  | _ => none }
def fnBytesRoundTripKeepsLow48BitsRow : OpenClaim := { program := "qxb6003652a", sum := "032db045ba5aea108c489bff0d5c46e4a1b080858487b60a2149989a9ca67d3e", func := "example.com/roamkey/roamkey/zzlaws_aka_b1.FnBytesRoundTripKeepsLow48Bits", spec := "fnBytesRoundTripKeepsLow48Bits", apart := false }
def FnBytesRoundTripKeepsLow48BitsSaid : Prop := fnBytesRoundTripKeepsLow48BitsRow.holds Try.pinned (OpenSpec.ofChange fnBytesRoundTripKeepsLow48BitsSpec)

/-- ITS FALSE NEIGHBOUR: 'it returns false'. Refute it at one input. -/
def fnBytesRoundTripKeepsLow48BitsWrong : ChangeSpec := { name := "fnBytesRoundTripKeepsLow48Bits", fn := fun _ => fun
  | [d] => { results := [.lit (.bool false)], args := [d] }
  | _ => none }
def FnBytesRoundTripKeepsLow48BitsWrongFalsely : Prop := fnBytesRoundTripKeepsLow48BitsRow.holds Try.pinned (OpenSpec.ofChange fnBytesRoundTripKeepsLow48BitsWrong)

/-- 'zzlaws_aka_b1.FnBytesKeepsOrder': WHATEVER THE INPUT: true; the input reads as it did. -/
def fnBytesKeepsOrderSpec : ChangeSpec := { name := "fnBytesKeepsOrder", fn := fun _ => fun
  | [d1, d2] => { results := [.lit (.bool true)], args := [d1, d2] }
  | _ => none }
def fnBytesKeepsOrderRow : OpenClaim := { program := "qxb6003652a", sum := "032db045ba5aea108c489bff0d5c46e4a1b080858487b60a2149989a9ca67d3e", func := "example.com/roamkey/roamkey/zzlaws_aka_b1.FnBytesKeepsOrder", spec := "fnBytesKeepsOrder", apart := false }
def FnBytesKeepsOrderSaid : Prop := fnBytesKeepsOrderRow.holds Try.pinned (OpenSpec.ofChange fnBytesKeepsOrderSpec)

/-- ITS FALSE NEIGHBOUR: 'it returns false'. Refute it at one input. -/
def fnBytesKeepsOrderWrong : ChangeSpec := { name := "fnBytesKeepsOrder", fn := fun _ => fun
  | [d1, d2] => { results := [.lit (.bool false)], args := [d1, d2] }
  | _ => none }
def FnBytesKeepsOrderWrongFalsely : Prop := fnBytesKeepsOrderRow.holds Try.pinned (OpenSpec.ofChange fnBytesKeepsOrderWrong)

/-- 'zzlaws_aka_b1.FnNextAdvancesOneBlock': WHATEVER THE INPUT: true; the input reads as it did. -/
def fnNextAdvancesOneBlockSpec : ChangeSpec := { name := "fnNextAdvancesOneBlock", fn := fun _ => fun
  | [d1, d2, d3] => { results := [.lit (.bool true)], args := [d1, d2, d3] }
  | _ => none }
def fnNextAdvancesOneBlockRow : OpenClaim := { program := "qxb6003652a", sum := "032db045ba5aea108c489bff0d5c46e4a1b080858487b60a2149989a9ca67d3e", func := "example.com/roamkey/roamkey/zzlaws_aka_b1.FnNextAdvancesOneBlock", spec := "fnNextAdvancesOneBlock", apart := false }
def FnNextAdvancesOneBlockSaid : Prop := fnNextAdvancesOneBlockRow.holds Try.pinned (OpenSpec.ofChange fnNextAdvancesOneBlockSpec)

/-- ITS FALSE NEIGHBOUR: 'it returns false'. Refute it at one input. -/
def fnNextAdvancesOneBlockWrong : ChangeSpec := { name := "fnNextAdvancesOneBlock", fn := fun _ => fun
  | [d1, d2, d3] => { results := [.lit (.bool false)], args := [d1, d2, d3] }
  | _ => none }
def FnNextAdvancesOneBlockWrongFalsely : Prop := fnNextAdvancesOneBlockRow.holds Try.pinned (OpenSpec.ofChange fnNextAdvancesOneBlockWrong)

/-- 'zzlaws_aka_b1.FnNextTwiceForgetsFirstIndex': WHATEVER THE INPUT: true; the input reads as it did. -/
def fnNextTwiceForgetsFirstIndexSpec : ChangeSpec := { name := "fnNextTwiceForgetsFirstIndex", fn := fun _ => fun
  | [d1, d2, d3, d4] => { results := [.lit (.bool true)], args := [d1, d2, d3, d4] }
  | _ => none }
def fnNextTwiceForgetsFirstIndexRow : OpenClaim := { program := "qxb6003652a", sum := "032db045ba5aea108c489bff0d5c46e4a1b080858487b60a2149989a9ca67d3e", func := "example.com/roamkey/roamkey/zzlaws_aka_b1.FnNextTwiceForgetsFirstIndex", spec := "fnNextTwiceForgetsFirstIndex", apart := false }
def FnNextTwiceForgetsFirstIndexSaid : Prop := fnNextTwiceForgetsFirstIndexRow.holds Try.pinned (OpenSpec.ofChange fnNextTwiceForgetsFirstIndexSpec)

/-- ITS FALSE NEIGHBOUR: 'it returns false'. Refute it at one input. -/
def fnNextTwiceForgetsFirstIndexWrong : ChangeSpec := { name := "fnNextTwiceForgetsFirstIndex", fn := fun _ => fun
  | [d1, d2, d3, d4] => { results := [.lit (.bool false)], args := [d1, d2, d3, d4] }
  | _ => none }
def FnNextTwiceForgetsFirstIndexWrongFalsely : Prop := fnNextTwiceForgetsFirstIndexRow.holds Try.pinned (OpenSpec.ofChange fnNextTwiceForgetsFirstIndexWrong)

end Rows
end Go.Proofs.Qxb6003652a
