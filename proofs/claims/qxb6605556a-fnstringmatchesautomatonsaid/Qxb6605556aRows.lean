/-
  No cell of these rows narrows 'for every input' (looked for: loops, veiled, ifaces, maps, wideKeys, modest, calm, conditions, laid).
  DERIVED. THE GIVEN ROWS OF THIS SEAT. 3 by the template 'for every input the law returns true; each argument reads behind the call as it read before'; 0 by the template 'total and deterministic' (their statements: Qxb6605556aTotals.lean).
  GIVEN WITH THE SEED: the statements are not yours to turn. If you find one false, say at which input.
  Laid BY PROGRAM, IN A SANDBOX (cutbox-rows.mjs): the forced cells as the released guide's own fill.sh prints them over the translation 11be813c70b0ac72… (all of the seat's roots in one cut). By AI agents, Wed Nov 11 2026. No macro, syntax, notation, axiom, sorry.
-/
import Derived.Test.Qxb6605556aChecked
import GoSem.Claim
import GoSem.ClaimJoined
import GoSem.ClaimMapViews
import Derived.JoinedTies
import Derived.KernelRfl
namespace Go.Proofs.Qxb6605556a
/- THE CELL 'sum', in the pinned program and in every row, IS THE sha256 OF THE DUMP (.gsa) THAT Qxb6605556aProg.lean LOADS. Nothing in Lean hashes anything: it is a label: what it is worth is what the hold of that sum in a sandbox is worth. -/
noncomputable def Try.pinned : Pinned := { name := "qxb6605556a", sum := "11be813c70b0ac7218e235df2ec49583393d073a50e718e665d20749d3ca1f40", checked := Try.checked }
namespace Rows
def none {H : Type} : Left H := { results := [], args := [] }

/-- 'zzlaws_internal_blockfile_b1.FnNumberEndMatchesAutomaton': WHATEVER THE INPUT: true; the input reads as it did. -/
def fnNumberEndMatchesAutomatonSpec : ChangeSpec := { name := "fnNumberEndMatchesAutomaton", fn := fun _ => fun
  | [d1, d2, d3] => { results := [.lit (.bool true)], args := [d1, d2, d3] }
  | _ => none }
def fnNumberEndMatchesAutomatonRow : OpenClaim := { program := "qxb6605556a", sum := "11be813c70b0ac7218e235df2ec49583393d073a50e718e665d20749d3ca1f40", func := "example.com/commutant/commutant/zzlaws_internal_blockfile_b1.FnNumberEndMatchesAutomaton", spec := "fnNumberEndMatchesAutomaton", apart := false }
def FnNumberEndMatchesAutomatonSaid : Prop := fnNumberEndMatchesAutomatonRow.holds Try.pinned (OpenSpec.ofChange fnNumberEndMatchesAutomatonSpec)

/-- ITS FALSE NEIGHBOUR: 'it returns false'. Refute it at one input. -/
def fnNumberEndMatchesAutomatonWrong : ChangeSpec := { name := "fnNumberEndMatchesAutomaton", fn := fun _ => fun
  | [d1, d2, d3] => { results := [.lit (.bool false)], args := [d1, d2, d3] }
  | _ => none }
def FnNumberEndMatchesAutomatonWrongFalsely : Prop := fnNumberEndMatchesAutomatonRow.holds Try.pinned (OpenSpec.ofChange fnNumberEndMatchesAutomatonWrong)

/-- 'zzlaws_internal_blockfile_b1.FnStringMatchesAutomaton': WHATEVER THE INPUT: true; the input reads as it did. -/
def fnStringMatchesAutomatonSpec : ChangeSpec := { name := "fnStringMatchesAutomaton", fn := fun _ => fun
  | [d1, d2, d3] => { results := [.lit (.bool true)], args := [d1, d2, d3] }
  | _ => none }
def fnStringMatchesAutomatonRow : OpenClaim := { program := "qxb6605556a", sum := "11be813c70b0ac7218e235df2ec49583393d073a50e718e665d20749d3ca1f40", func := "example.com/commutant/commutant/zzlaws_internal_blockfile_b1.FnStringMatchesAutomaton", spec := "fnStringMatchesAutomaton", apart := false }
def FnStringMatchesAutomatonSaid : Prop := fnStringMatchesAutomatonRow.holds Try.pinned (OpenSpec.ofChange fnStringMatchesAutomatonSpec)

/-- ITS FALSE NEIGHBOUR: 'it returns false'. Refute it at one input. -/
def fnStringMatchesAutomatonWrong : ChangeSpec := { name := "fnStringMatchesAutomaton", fn := fun _ => fun
  | [d1, d2, d3] => { results := [.lit (.bool false)], args := [d1, d2, d3] }
  | _ => none }
def FnStringMatchesAutomatonWrongFalsely : Prop := fnStringMatchesAutomatonRow.holds Try.pinned (OpenSpec.ofChange fnStringMatchesAutomatonWrong)

/-- 'zzlaws_internal_blockfile_b1.FnEscapeLenMatchesAutomaton': WHATEVER THE INPUT: true; the input reads as it did. -/
def fnEscapeLenMatchesAutomatonSpec : ChangeSpec := { name := "fnEscapeLenMatchesAutomaton", fn := fun _ => fun
  | [d] => { results := [.lit (.bool true)], args := [d] }
  | _ => none }
def fnEscapeLenMatchesAutomatonRow : OpenClaim := { program := "qxb6605556a", sum := "11be813c70b0ac7218e235df2ec49583393d073a50e718e665d20749d3ca1f40", func := "example.com/commutant/commutant/zzlaws_internal_blockfile_b1.FnEscapeLenMatchesAutomaton", spec := "fnEscapeLenMatchesAutomaton", apart := false }
def FnEscapeLenMatchesAutomatonSaid : Prop := fnEscapeLenMatchesAutomatonRow.holds Try.pinned (OpenSpec.ofChange fnEscapeLenMatchesAutomatonSpec)

/-- ITS FALSE NEIGHBOUR: 'it returns false'. Refute it at one input. -/
def fnEscapeLenMatchesAutomatonWrong : ChangeSpec := { name := "fnEscapeLenMatchesAutomaton", fn := fun _ => fun
  | [d] => { results := [.lit (.bool false)], args := [d] }
  | _ => none }
def FnEscapeLenMatchesAutomatonWrongFalsely : Prop := fnEscapeLenMatchesAutomatonRow.holds Try.pinned (OpenSpec.ofChange fnEscapeLenMatchesAutomatonWrong)

end Rows
end Go.Proofs.Qxb6605556a
