/-
  No cell of these rows narrows 'for every input' (looked for: loops, veiled, ifaces, maps, wideKeys, modest, calm, conditions, laid).
  DERIVED. THE GIVEN ROWS OF THIS SEAT. 2 by the template 'for every input the law returns true; each argument reads behind the call as it read before'; 0 by the template 'total and deterministic' (their statements: Qxb6627510aTotals.lean).
  GIVEN WITH THE SEED: the statements are not yours to turn. If you find one false, say at which input.
  Laid BY PROGRAM, IN A SANDBOX (cutbox-rows.mjs): the forced cells as the released guide's own fill.sh prints them over the translation 20b209c0f65fec81… (all of the seat's roots in one cut). By AI agents, Wed Nov 11 2026. No macro, syntax, notation, axiom, sorry.
-/
import Derived.Test.Qxb6627510aChecked
import GoSem.Claim
import GoSem.ClaimJoined
import GoSem.ClaimMapViews
import Derived.JoinedTies
import Derived.KernelRfl
namespace Go.Proofs.Qxb6627510a
/- THE CELL 'sum', in the pinned program and in every row, IS THE sha256 OF THE DUMP (.gsa) THAT Qxb6627510aProg.lean LOADS. Nothing in Lean hashes anything: it is a label: what it is worth is what the hold of that sum in a sandbox is worth. -/
noncomputable def Try.pinned : Pinned := { name := "qxb6627510a", sum := "20b209c0f65fec812757fa3c0fe771815347d481581f632264349d2c7be236cf", checked := Try.checked }
namespace Rows
def none {H : Type} : Left H := { results := [], args := [] }

/-- 'zzlaws_names_b1.FnIsLabelMatchesAutomaton': WHATEVER THE INPUT: true; the input reads as it did. -/
def fnIsLabelMatchesAutomatonSpec : ChangeSpec := { name := "fnIsLabelMatchesAutomaton", fn := fun _ => fun
  | [d1, d2] => { results := [.lit (.bool true)], args := [d1, d2] }
  | _ => none }
def fnIsLabelMatchesAutomatonRow : OpenClaim := { program := "qxb6627510a", sum := "20b209c0f65fec812757fa3c0fe771815347d481581f632264349d2c7be236cf", func := "example.com/moorings/moorings/zzlaws_names_b1.FnIsLabelMatchesAutomaton", spec := "fnIsLabelMatchesAutomaton", apart := false }
def FnIsLabelMatchesAutomatonSaid : Prop := fnIsLabelMatchesAutomatonRow.holds Try.pinned (OpenSpec.ofChange fnIsLabelMatchesAutomatonSpec)

/-- ITS FALSE NEIGHBOUR: 'it returns false'. Refute it at one input. -/
def fnIsLabelMatchesAutomatonWrong : ChangeSpec := { name := "fnIsLabelMatchesAutomaton", fn := fun _ => fun
  | [d1, d2] => { results := [.lit (.bool false)], args := [d1, d2] }
  | _ => none }
def FnIsLabelMatchesAutomatonWrongFalsely : Prop := fnIsLabelMatchesAutomatonRow.holds Try.pinned (OpenSpec.ofChange fnIsLabelMatchesAutomatonWrong)

/-- 'zzlaws_names_b1.FnIsLabelUpperIsLowerFolded': WHATEVER THE INPUT: true; the input reads as it did. -/
def fnIsLabelUpperIsLowerFoldedSpec : ChangeSpec := { name := "fnIsLabelUpperIsLowerFolded", fn := fun _ => fun
  | [d1, d2] => { results := [.lit (.bool true)], args := [d1, d2] }
  | _ => none }
def fnIsLabelUpperIsLowerFoldedRow : OpenClaim := { program := "qxb6627510a", sum := "20b209c0f65fec812757fa3c0fe771815347d481581f632264349d2c7be236cf", func := "example.com/moorings/moorings/zzlaws_names_b1.FnIsLabelUpperIsLowerFolded", spec := "fnIsLabelUpperIsLowerFolded", apart := false }
def FnIsLabelUpperIsLowerFoldedSaid : Prop := fnIsLabelUpperIsLowerFoldedRow.holds Try.pinned (OpenSpec.ofChange fnIsLabelUpperIsLowerFoldedSpec)

/-- ITS FALSE NEIGHBOUR: 'it returns false'. Refute it at one input. -/
def fnIsLabelUpperIsLowerFoldedWrong : ChangeSpec := { name := "fnIsLabelUpperIsLowerFolded", fn := fun _ => fun
  | [d1, d2] => { results := [.lit (.bool false)], args := [d1, d2] }
  | _ => none }
def FnIsLabelUpperIsLowerFoldedWrongFalsely : Prop := fnIsLabelUpperIsLowerFoldedRow.holds Try.pinned (OpenSpec.ofChange fnIsLabelUpperIsLowerFoldedWrong)

end Rows
end Go.Proofs.Qxb6627510a
