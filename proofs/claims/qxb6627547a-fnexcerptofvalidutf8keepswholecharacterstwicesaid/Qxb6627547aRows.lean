/-
  No cell of these rows narrows 'for every input' (looked for: loops, veiled, ifaces, maps, wideKeys, modest, calm, conditions, laid).
  DERIVED. THE GIVEN ROWS OF THIS SEAT. 2 by the template 'for every input the law returns true; each argument reads behind the call as it read before'; 0 by the template 'total and deterministic' (their statements: Qxb6627547aTotals.lean).
  GIVEN WITH THE SEED: the statements are not yours to turn. If you find one false, say at which input.
  Laid BY PROGRAM, IN A SANDBOX (cutbox-rows.mjs): the forced cells as the released guide's own fill.sh prints them over the translation 446bf06ee8a90103… (all of the seat's roots in one cut). By AI agents, Wed Nov 11 2026. No macro, syntax, notation, axiom, sorry.
-/
import Derived.Test.Qxb6627547aChecked
import GoSem.Claim
import GoSem.ClaimJoined
import GoSem.ClaimMapViews
import Derived.JoinedTies
import Derived.KernelRfl
namespace Go.Proofs.Qxb6627547a
/- THE CELL 'sum', in the pinned program and in every row, IS THE sha256 OF THE DUMP (.gsa) THAT Qxb6627547aProg.lean LOADS. Nothing in Lean hashes anything: it is a label: what it is worth is what the hold of that sum in a sandbox is worth. -/
noncomputable def Try.pinned : Pinned := { name := "qxb6627547a", sum := "446bf06ee8a90103b413a6cbe278f3b060452ea162434d575b052cced554fc69", checked := Try.checked }
namespace Rows
def none {H : Type} : Left H := { results := [], args := [] }

/-- 'zzlaws_internal_quote_b1.FnExcerptCutAtLastBoundaryAndIgnoresTail': WHATEVER THE INPUT: true; the input reads as it did. -/
def fnExcerptCutAtLastBoundaryAndIgnoresTailSpec : ChangeSpec := { name := "fnExcerptCutAtLastBoundaryAndIgnoresTail", fn := fun _ => fun
  | [d1, d2] => { results := [.lit (.bool true)], args := [d1, d2] }
  | _ => none }
def fnExcerptCutAtLastBoundaryAndIgnoresTailRow : OpenClaim := { program := "qxb6627547a", sum := "446bf06ee8a90103b413a6cbe278f3b060452ea162434d575b052cced554fc69", func := "example.com/stridewise/stridewise/zzlaws_internal_quote_b1.FnExcerptCutAtLastBoundaryAndIgnoresTail", spec := "fnExcerptCutAtLastBoundaryAndIgnoresTail", apart := false }
def FnExcerptCutAtLastBoundaryAndIgnoresTailSaid : Prop := fnExcerptCutAtLastBoundaryAndIgnoresTailRow.holds Try.pinned (OpenSpec.ofChange fnExcerptCutAtLastBoundaryAndIgnoresTailSpec)

/-- ITS FALSE NEIGHBOUR: 'it returns false'. Refute it at one input. -/
def fnExcerptCutAtLastBoundaryAndIgnoresTailWrong : ChangeSpec := { name := "fnExcerptCutAtLastBoundaryAndIgnoresTail", fn := fun _ => fun
  | [d1, d2] => { results := [.lit (.bool false)], args := [d1, d2] }
  | _ => none }
def FnExcerptCutAtLastBoundaryAndIgnoresTailWrongFalsely : Prop := fnExcerptCutAtLastBoundaryAndIgnoresTailRow.holds Try.pinned (OpenSpec.ofChange fnExcerptCutAtLastBoundaryAndIgnoresTailWrong)

/-- 'zzlaws_internal_quote_b1.FnExcerptOfValidUTF8KeepsWholeCharactersTwice': WHATEVER THE INPUT: true; the input reads as it did. -/
def fnExcerptOfValidUTF8KeepsWholeCharactersTwiceSpec : ChangeSpec := { name := "fnExcerptOfValidUTF8KeepsWholeCharactersTwice", fn := fun _ => fun
  | [d] => { results := [.lit (.bool true)], args := [d] }
  | _ => none }
def fnExcerptOfValidUTF8KeepsWholeCharactersTwiceRow : OpenClaim := { program := "qxb6627547a", sum := "446bf06ee8a90103b413a6cbe278f3b060452ea162434d575b052cced554fc69", func := "example.com/stridewise/stridewise/zzlaws_internal_quote_b1.FnExcerptOfValidUTF8KeepsWholeCharactersTwice", spec := "fnExcerptOfValidUTF8KeepsWholeCharactersTwice", apart := false }
def FnExcerptOfValidUTF8KeepsWholeCharactersTwiceSaid : Prop := fnExcerptOfValidUTF8KeepsWholeCharactersTwiceRow.holds Try.pinned (OpenSpec.ofChange fnExcerptOfValidUTF8KeepsWholeCharactersTwiceSpec)

/-- ITS FALSE NEIGHBOUR: 'it returns false'. Refute it at one input. -/
def fnExcerptOfValidUTF8KeepsWholeCharactersTwiceWrong : ChangeSpec := { name := "fnExcerptOfValidUTF8KeepsWholeCharactersTwice", fn := fun _ => fun
  | [d] => { results := [.lit (.bool false)], args := [d] }
  | _ => none }
def FnExcerptOfValidUTF8KeepsWholeCharactersTwiceWrongFalsely : Prop := fnExcerptOfValidUTF8KeepsWholeCharactersTwiceRow.holds Try.pinned (OpenSpec.ofChange fnExcerptOfValidUTF8KeepsWholeCharactersTwiceWrong)

end Rows
end Go.Proofs.Qxb6627547a
