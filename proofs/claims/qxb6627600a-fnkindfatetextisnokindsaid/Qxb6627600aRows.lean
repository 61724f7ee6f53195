/-
  No cell of these rows narrows 'for every input' (looked for: loops, veiled, ifaces, maps, wideKeys, modest, calm, conditions, laid).
  DERIVED. THE GIVEN ROWS OF THIS SEAT. 1 by the template 'for every input the law returns true; each argument reads behind the call as it read before'; 0 by the template 'total and deterministic' (their statements: Qxb6627600aTotals.lean).
  GIVEN WITH THE SEED: the statements are not yours to turn. If you find one false, say at which input.
  Laid BY PROGRAM, IN A SANDBOX (cutbox-rows.mjs): the forced cells as the released guide's own fill.sh prints them over the translation 9b9b9b4114261cdb… (all of the seat's roots in one cut). By AI agents, Wed Nov 11 2026. No macro, syntax, notation, axiom, sorry.
-/
import Derived.Test.Qxb6627600aChecked
import GoSem.Claim
import GoSem.ClaimJoined
import GoSem.ClaimMapViews
import Derived.JoinedTies
import Derived.KernelRfl
namespace Go.Proofs.Qxb6627600a
/- THE CELL 'sum', in the pinned program and in every row, IS THE sha256 OF THE DUMP (.gsa) THAT Qxb6627600aProg.lean LOADS. Nothing in Lean hashes anything: it is a label: what it is worth is what the hold of that sum in a sandbox is worth. -/
noncomputable def Try.pinned : Pinned := { name := "qxb6627600a", sum := "9b9b9b4114261cdb0f11a9c6fa036860dc3ce626da50ad822b9e02b97ea3a103", checked := Try.checked }
namespace Rows
def none {H : Type} : Left H := { results := [], args := [] }

/-- 'zzlaws_root_b1.FnKindFateTextIsNoKind': WHATEVER THE INPUT: true; the input reads as it did. -/
def fnKindFateTextIsNoKindSpec : ChangeSpec := { name := "fnKindFateTextIsNoKind", fn := fun _ => fun
  | [d] => { results := [.lit (.bool true)], args := [d] }
  | _ => none }
def fnKindFateTextIsNoKindRow : OpenClaim := { program := "qxb6627600a", sum := "9b9b9b4114261cdb0f11a9c6fa036860dc3ce626da50ad822b9e02b97ea3a103", func := "example.com/vestline/vestline/zzlaws_root_b1.FnKindFateTextIsNoKind", spec := "fnKindFateTextIsNoKind", apart := false }
def FnKindFateTextIsNoKindSaid : Prop := fnKindFateTextIsNoKindRow.holds Try.pinned (OpenSpec.ofChange fnKindFateTextIsNoKindSpec)

/-- ITS FALSE NEIGHBOUR: 'it returns false'. Refute it at one input. -/
def fnKindFateTextIsNoKindWrong : ChangeSpec := { name := "fnKindFateTextIsNoKind", fn := fun _ => fun
  | [d] => { results := [.lit (.bool false)], args := [d] }
  | _ => none }
def FnKindFateTextIsNoKindWrongFalsely : Prop := fnKindFateTextIsNoKindRow.holds Try.pinned (OpenSpec.ofChange fnKindFateTextIsNoKindWrong)

end Rows
end Go.Proofs.Qxb6627600a
