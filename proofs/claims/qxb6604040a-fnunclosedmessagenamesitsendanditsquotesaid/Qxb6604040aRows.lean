/-
  No cell of these rows narrows 'for every input' (looked for: loops, veiled, ifaces, maps, wideKeys, modest, calm, conditions, laid).
  DERIVED. THE GIVEN ROWS OF THIS SEAT. 1 by the template 'for every input the law returns true; each argument reads behind the call as it read before'; 0 by the template 'total and deterministic' (their statements: Qxb6604040aTotals.lean).
  GIVEN WITH THE SEED: the statements are not yours to turn. If you find one false, say at which input.
  Laid BY PROGRAM, IN A SANDBOX (cutbox-rows.mjs): the forced cells as the released guide's own fill.sh prints them over the translation 3618c9b54dc97375… (all of the seat's roots in one cut). By AI agents, Wed Nov 11 2026. No macro, syntax, notation, axiom, sorry.
-/
import Derived.Test.Qxb6604040aChecked
import GoSem.Claim
import GoSem.ClaimJoined
import GoSem.ClaimMapViews
import Derived.JoinedTies
import Derived.KernelRfl
namespace Go.Proofs.Qxb6604040a
/- THE CELL 'sum', in the pinned program and in every row, IS THE sha256 OF THE DUMP (.gsa) THAT Qxb6604040aProg.lean LOADS. Nothing in Lean hashes anything: it is a label: what it is worth is what the hold of that sum in a sandbox is worth. -/
noncomputable def Try.pinned : Pinned := { name := "qxb6604040a", sum := "3618c9b54dc97375bfa12d0b4acf483ee171ef263826b92a98d93054c7bb79b2", checked := Try.checked }
namespace Rows
def none {H : Type} : Left H := { results := [], args := [] }

/-- 'zzlaws_root_b1.FnUnclosedMessageNamesItsEndAndItsQuote': WHATEVER THE INPUT: true; the input reads as it did. -/
def fnUnclosedMessageNamesItsEndAndItsQuoteSpec : ChangeSpec := { name := "fnUnclosedMessageNamesItsEndAndItsQuote", fn := fun _ => fun
  | [d1, d2] => { results := [.lit (.bool true)], args := [d1, d2] }
  | _ => none }
def fnUnclosedMessageNamesItsEndAndItsQuoteRow : OpenClaim := { program := "qxb6604040a", sum := "3618c9b54dc97375bfa12d0b4acf483ee171ef263826b92a98d93054c7bb79b2", func := "example.com/lexwright/lexwright/zzlaws_root_b1.FnUnclosedMessageNamesItsEndAndItsQuote", spec := "fnUnclosedMessageNamesItsEndAndItsQuote", apart := false }
def FnUnclosedMessageNamesItsEndAndItsQuoteSaid : Prop := fnUnclosedMessageNamesItsEndAndItsQuoteRow.holds Try.pinned (OpenSpec.ofChange fnUnclosedMessageNamesItsEndAndItsQuoteSpec)

/-- ITS FALSE NEIGHBOUR: 'it returns false'. Refute it at one input. -/
def fnUnclosedMessageNamesItsEndAndItsQuoteWrong : ChangeSpec := { name := "fnUnclosedMessageNamesItsEndAndItsQuote", fn := fun _ => fun
  | [d1, d2] => { results := [.lit (.bool false)], args := [d1, d2] }
  | _ => none }
def FnUnclosedMessageNamesItsEndAndItsQuoteWrongFalsely : Prop := fnUnclosedMessageNamesItsEndAndItsQuoteRow.holds Try.pinned (OpenSpec.ofChange fnUnclosedMessageNamesItsEndAndItsQuoteWrong)

end Rows
end Go.Proofs.Qxb6604040a
