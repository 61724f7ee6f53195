/-
  No cell of these rows narrows 'for every input' (looked for: loops, veiled, ifaces, maps, wideKeys, modest, calm, conditions, laid).
  DERIVED. THE GIVEN ROWS OF THIS SEAT. 2 by the template 'for every input the law returns true; each argument reads behind the call as it read before'; 0 by the template 'total and deterministic' (their statements: Qxb6627603aTotals.lean).
  GIVEN WITH THE SEED: the statements are not yours to turn. If you find one false, say at which input.
  Laid BY PROGRAM, IN A SANDBOX (cutbox-rows.mjs): the forced cells as the released guide's own fill.sh prints them over the translation 06def0cb25c09754… (all of the seat's roots in one cut). By AI agents, Wed Nov 11 2026. No macro, syntax, notation, axiom, sorry.
-/
import Derived.Test.Qxb6627603aChecked
import GoSem.Claim
import GoSem.ClaimJoined
import GoSem.ClaimMapViews
import Derived.JoinedTies
import Derived.KernelRfl
namespace Go.Proofs.Qxb6627603a
/- THE CELL 'sum', in the pinned program and in every row, IS THE sha256 OF THE DUMP (.gsa) THAT Qxb6627603aProg.lean LOADS. Nothing in Lean hashes anything: it is a label: what it is worth is what the hold of that sum in a sandbox is worth. -/
noncomputable def Try.pinned : Pinned := { name := "qxb6627603a", sum := "06def0cb25c09754aa65099b073cc53b5c72ec887b5ba9a01f07224d3035eb6a", checked := Try.checked }
namespace Rows
def none {H : Type} : Left H := { results := [], args := [] }

/-- 'zzlaws_tuple_b1.FnColumnMarksPartsInWrittenText': WHATEVER THE INPUT: true; the input reads as it did. -/
def fnColumnMarksPartsInWrittenTextSpec : ChangeSpec := { name := "fnColumnMarksPartsInWrittenText", fn := fun _ => fun
  | [d1, d2, d3, d4, d5, d6] => { results := [.lit (.bool true)], args := [d1, d2, d3, d4, d5, d6] }
  | _ => none }
def fnColumnMarksPartsInWrittenTextRow : OpenClaim := { program := "qxb6627603a", sum := "06def0cb25c09754aa65099b073cc53b5c72ec887b5ba9a01f07224d3035eb6a", func := "example.com/kinship/kinship/zzlaws_tuple_b1.FnColumnMarksPartsInWrittenText", spec := "fnColumnMarksPartsInWrittenText", apart := false }
def FnColumnMarksPartsInWrittenTextSaid : Prop := fnColumnMarksPartsInWrittenTextRow.holds Try.pinned (OpenSpec.ofChange fnColumnMarksPartsInWrittenTextSpec)

/-- ITS FALSE NEIGHBOUR: 'it returns false'. Refute it at one input. -/
def fnColumnMarksPartsInWrittenTextWrong : ChangeSpec := { name := "fnColumnMarksPartsInWrittenText", fn := fun _ => fun
  | [d1, d2, d3, d4, d5, d6] => { results := [.lit (.bool false)], args := [d1, d2, d3, d4, d5, d6] }
  | _ => none }
def FnColumnMarksPartsInWrittenTextWrongFalsely : Prop := fnColumnMarksPartsInWrittenTextRow.holds Try.pinned (OpenSpec.ofChange fnColumnMarksPartsInWrittenTextWrong)

/-- 'zzlaws_tuple_b1.FnColumnShiftsByWhatStandsBefore': WHATEVER THE INPUT: true; the input reads as it did. -/
def fnColumnShiftsByWhatStandsBeforeSpec : ChangeSpec := { name := "fnColumnShiftsByWhatStandsBefore", fn := fun _ => fun
  | [d1, d2, d3, d4, d5, d6, d7, d8] => { results := [.lit (.bool true)], args := [d1, d2, d3, d4, d5, d6, d7, d8] }
  | _ => none }
def fnColumnShiftsByWhatStandsBeforeRow : OpenClaim := { program := "qxb6627603a", sum := "06def0cb25c09754aa65099b073cc53b5c72ec887b5ba9a01f07224d3035eb6a", func := "example.com/kinship/kinship/zzlaws_tuple_b1.FnColumnShiftsByWhatStandsBefore", spec := "fnColumnShiftsByWhatStandsBefore", apart := false }
def FnColumnShiftsByWhatStandsBeforeSaid : Prop := fnColumnShiftsByWhatStandsBeforeRow.holds Try.pinned (OpenSpec.ofChange fnColumnShiftsByWhatStandsBeforeSpec)

/-- ITS FALSE NEIGHBOUR: 'it returns false'. Refute it at one input. -/
def fnColumnShiftsByWhatStandsBeforeWrong : ChangeSpec := { name := "fnColumnShiftsByWhatStandsBefore", fn := fun _ => fun
  | [d1, d2, d3, d4, d5, d6, d7, d8] => { results := [.lit (.bool false)], args := [d1, d2, d3, d4, d5, d6, d7, d8] }
  | _ => none }
def FnColumnShiftsByWhatStandsBeforeWrongFalsely : Prop := fnColumnShiftsByWhatStandsBeforeRow.holds Try.pinned (OpenSpec.ofChange fnColumnShiftsByWhatStandsBeforeWrong)

end Rows
end Go.Proofs.Qxb6627603a
