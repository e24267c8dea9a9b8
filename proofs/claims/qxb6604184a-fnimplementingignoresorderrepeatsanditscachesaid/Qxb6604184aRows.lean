/-
  No cell of these rows narrows 'for every input' (looked for: loops, veiled, ifaces, maps, wideKeys, modest, calm, conditions, laid).
  DERIVED. THE GIVEN ROWS OF THIS SEAT. 1 by the template 'for every input the law returns true; each argument reads behind the call as it read before'; 0 by the template 'total and deterministic' (their statements: Qxb6604184aTotals.lean).
  GIVEN WITH THE SEED: the statements are not yours to turn. If you find one false, say at which input.
  Laid BY PROGRAM, IN A SANDBOX (cutbox-rows.mjs): the forced cells as the released guide's own fill.sh prints them over the translation 1f97601d29a8b1b1… (all of the seat's roots in one cut). By AI agents, Wed Nov 11 2026. No macro, syntax, notation, axiom, sorry.
-/
import Derived.Test.Qxb6604184aChecked
import GoSem.Claim
import GoSem.ClaimJoined
import GoSem.ClaimMapViews
import Derived.JoinedTies
import Derived.KernelRfl
namespace Go.Proofs.Qxb6604184a
/- THE CELL 'sum', in the pinned program and in every row, IS THE sha256 OF THE DUMP (.gsa) THAT Qxb6604184aProg.lean LOADS. Nothing in Lean hashes anything: it is a label: what it is worth is what the hold of that sum in a sandbox is worth. -/
noncomputable def Try.pinned : Pinned := { name := "qxb6604184a", sum := "1f97601d29a8b1b1fa04b6c8b1e67e71ea5996dcf2e0d5318846f9a3c6a337f0", checked := Try.checked }
namespace Rows
def none {H : Type} : Left H := { results := [], args := [] }

/-- 'zzlaws_internal_reach_b1.FnImplementingIgnoresOrderRepeatsAndItsCache': WHATEVER THE INPUT: true; the input reads as it did. -/
def fnImplementingIgnoresOrderRepeatsAndItsCacheSpec : ChangeSpec := { name := "fnImplementingIgnoresOrderRepeatsAndItsCache", fn := fun _ => fun
  | [d1, d2] => { results := [.lit (.bool true)], args := [d1, d2] }
  | _ => none }
def fnImplementingIgnoresOrderRepeatsAndItsCacheRow : OpenClaim := { program := "qxb6604184a", sum := "1f97601d29a8b1b1fa04b6c8b1e67e71ea5996dcf2e0d5318846f9a3c6a337f0", func := "example.com/coverweave/coverweave/zzlaws_internal_reach_b1.FnImplementingIgnoresOrderRepeatsAndItsCache", spec := "fnImplementingIgnoresOrderRepeatsAndItsCache", inPlace := ["internal/abi.NoEscape"], plainKeys := false, apart := false }
def FnImplementingIgnoresOrderRepeatsAndItsCacheSaid : Prop := fnImplementingIgnoresOrderRepeatsAndItsCacheRow.holds Try.pinned (OpenSpec.ofChange fnImplementingIgnoresOrderRepeatsAndItsCacheSpec)

/-- ITS FALSE NEIGHBOUR: 'it returns false'. Refute it at one input. -/
def fnImplementingIgnoresOrderRepeatsAndItsCacheWrong : ChangeSpec := { name := "fnImplementingIgnoresOrderRepeatsAndItsCache", fn := fun _ => fun
  | [d1, d2] => { results := [.lit (.bool false)], args := [d1, d2] }
  | _ => none }
def FnImplementingIgnoresOrderRepeatsAndItsCacheWrongFalsely : Prop := fnImplementingIgnoresOrderRepeatsAndItsCacheRow.holds Try.pinned (OpenSpec.ofChange fnImplementingIgnoresOrderRepeatsAndItsCacheWrong)

end Rows
end Go.Proofs.Qxb6604184a
