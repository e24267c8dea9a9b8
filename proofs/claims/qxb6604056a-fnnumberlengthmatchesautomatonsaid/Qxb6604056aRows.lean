/-
  No cell of these rows narrows 'for every input' (looked for: loops, veiled, ifaces, maps, wideKeys, modest, calm, conditions, laid).
  DERIVED. THE GIVEN ROWS OF THIS SEAT. 4 by the template 'for every input the law returns true; each argument reads behind the call as it read before'; 0 by the template 'total and deterministic' (their statements: Qxb6604056aTotals.lean).
  GIVEN WITH THE SEED: the statements are not yours to turn. If you find one false, say at which input.
  Laid BY PROGRAM, IN A SANDBOX (cutbox-rows.mjs): the forced cells as the released guide's own fill.sh prints them over the translation 0d984e4997b97ced… (all of the seat's roots in one cut). By AI agents, Wed Nov 11 2026. No macro, syntax, notation, axiom, sorry.
-/
import Derived.Test.Qxb6604056aChecked
import GoSem.Claim
import GoSem.ClaimJoined
import GoSem.ClaimMapViews
import Derived.JoinedTies
import Derived.KernelRfl
namespace Go.Proofs.Qxb6604056a
/- THE CELL 'sum', in the pinned program and in every row, IS THE sha256 OF THE DUMP (.gsa) THAT Qxb6604056aProg.lean LOADS. Nothing in Lean hashes anything: it is a label: what it is worth is what the hold of that sum in a sandbox is worth. -/
noncomputable def Try.pinned : Pinned := { name := "qxb6604056a", sum := "0d984e4997b97ced4fff1768510421c39890ccdf7b5f6a484b17f365d5d5e570", checked := Try.checked }
namespace Rows
def none {H : Type} : Left H := { results := [], args := [] }

/-- 'zzlaws_root_b1.FnGreatestSuffixMatchesNaiveModel': WHATEVER THE INPUT: true; the input reads as it did. -/
def fnGreatestSuffixMatchesNaiveModelSpec : ChangeSpec := { name := "fnGreatestSuffixMatchesNaiveModel", fn := fun _ => fun
  | [d1, d2] => { results := [.lit (.bool true)], args := [d1, d2] }
  | _ => none }
def fnGreatestSuffixMatchesNaiveModelRow : OpenClaim := { program := "qxb6604056a", sum := "0d984e4997b97ced4fff1768510421c39890ccdf7b5f6a484b17f365d5d5e570", func := "example.com/expr-to-value/expr-to-value/zzlaws_root_b1.FnGreatestSuffixMatchesNaiveModel", spec := "fnGreatestSuffixMatchesNaiveModel", apart := false }
def FnGreatestSuffixMatchesNaiveModelSaid : Prop := fnGreatestSuffixMatchesNaiveModelRow.holds Try.pinned (OpenSpec.ofChange fnGreatestSuffixMatchesNaiveModelSpec)

/-- ITS FALSE NEIGHBOUR: 'it returns false'. Refute it at one input. -/
def fnGreatestSuffixMatchesNaiveModelWrong : ChangeSpec := { name := "fnGreatestSuffixMatchesNaiveModel", fn := fun _ => fun
  | [d1, d2] => { results := [.lit (.bool false)], args := [d1, d2] }
  | _ => none }
def FnGreatestSuffixMatchesNaiveModelWrongFalsely : Prop := fnGreatestSuffixMatchesNaiveModelRow.holds Try.pinned (OpenSpec.ofChange fnGreatestSuffixMatchesNaiveModelWrong)

/-- 'zzlaws_root_b1.FnNumberLengthMatchesAutomaton': WHATEVER THE INPUT: true; the input reads as it did. -/
def fnNumberLengthMatchesAutomatonSpec : ChangeSpec := { name := "fnNumberLengthMatchesAutomaton", fn := fun _ => fun
  | [d1, d2] => { results := [.lit (.bool true)], args := [d1, d2] }
  | _ => none }
def fnNumberLengthMatchesAutomatonRow : OpenClaim := { program := "qxb6604056a", sum := "0d984e4997b97ced4fff1768510421c39890ccdf7b5f6a484b17f365d5d5e570", func := "example.com/expr-to-value/expr-to-value/zzlaws_root_b1.FnNumberLengthMatchesAutomaton", spec := "fnNumberLengthMatchesAutomaton", apart := false }
def FnNumberLengthMatchesAutomatonSaid : Prop := fnNumberLengthMatchesAutomatonRow.holds Try.pinned (OpenSpec.ofChange fnNumberLengthMatchesAutomatonSpec)

/-- ITS FALSE NEIGHBOUR: 'it returns false'. Refute it at one input. -/
def fnNumberLengthMatchesAutomatonWrong : ChangeSpec := { name := "fnNumberLengthMatchesAutomaton", fn := fun _ => fun
  | [d1, d2] => { results := [.lit (.bool false)], args := [d1, d2] }
  | _ => none }
def FnNumberLengthMatchesAutomatonWrongFalsely : Prop := fnNumberLengthMatchesAutomatonRow.holds Try.pinned (OpenSpec.ofChange fnNumberLengthMatchesAutomatonWrong)

/-- 'zzlaws_root_b1.FnQuotedToEndMatchesScanner': WHATEVER THE INPUT: true; the input reads as it did. -/
def fnQuotedToEndMatchesScannerSpec : ChangeSpec := { name := "fnQuotedToEndMatchesScanner", fn := fun _ => fun
  | [d] => { results := [.lit (.bool true)], args := [d] }
  | _ => none }
def fnQuotedToEndMatchesScannerRow : OpenClaim := { program := "qxb6604056a", sum := "0d984e4997b97ced4fff1768510421c39890ccdf7b5f6a484b17f365d5d5e570", func := "example.com/expr-to-value/expr-to-value/zzlaws_root_b1.FnQuotedToEndMatchesScanner", spec := "fnQuotedToEndMatchesScanner", inPlace := ["internal/bytealg.IndexByteString", "internal/bytealg.IndexString"], named := ["internal/bytealg.MaxLen"], apart := false }
def FnQuotedToEndMatchesScannerSaid : Prop := fnQuotedToEndMatchesScannerRow.holds Try.pinned (OpenSpec.ofChange fnQuotedToEndMatchesScannerSpec)

/-- ITS FALSE NEIGHBOUR: 'it returns false'. Refute it at one input. -/
def fnQuotedToEndMatchesScannerWrong : ChangeSpec := { name := "fnQuotedToEndMatchesScanner", fn := fun _ => fun
  | [d] => { results := [.lit (.bool false)], args := [d] }
  | _ => none }
def FnQuotedToEndMatchesScannerWrongFalsely : Prop := fnQuotedToEndMatchesScannerRow.holds Try.pinned (OpenSpec.ofChange fnQuotedToEndMatchesScannerWrong)

/-- 'zzlaws_root_b1.FnQuotedToEndTrueAfterOpeningQ': WHATEVER THE INPUT: true; the input reads as it did. -/
def fnQuotedToEndTrueAfterOpeningQSpec : ChangeSpec := { name := "fnQuotedToEndTrueAfterOpeningQ", fn := fun _ => fun
  | [d1, d2] => { results := [.lit (.bool true)], args := [d1, d2] }
  | _ => none }
def fnQuotedToEndTrueAfterOpeningQRow : OpenClaim := { program := "qxb6604056a", sum := "0d984e4997b97ced4fff1768510421c39890ccdf7b5f6a484b17f365d5d5e570", func := "example.com/expr-to-value/expr-to-value/zzlaws_root_b1.FnQuotedToEndTrueAfterOpeningQ", spec := "fnQuotedToEndTrueAfterOpeningQ", inPlace := ["internal/bytealg.IndexByteString", "internal/bytealg.IndexString"], named := ["internal/bytealg.MaxLen"], apart := false }
def FnQuotedToEndTrueAfterOpeningQSaid : Prop := fnQuotedToEndTrueAfterOpeningQRow.holds Try.pinned (OpenSpec.ofChange fnQuotedToEndTrueAfterOpeningQSpec)

/-- ITS FALSE NEIGHBOUR: 'it returns false'. Refute it at one input. -/
def fnQuotedToEndTrueAfterOpeningQWrong : ChangeSpec := { name := "fnQuotedToEndTrueAfterOpeningQ", fn := fun _ => fun
  | [d1, d2] => { results := [.lit (.bool false)], args := [d1, d2] }
  | _ => none }
def FnQuotedToEndTrueAfterOpeningQWrongFalsely : Prop := fnQuotedToEndTrueAfterOpeningQRow.holds Try.pinned (OpenSpec.ofChange fnQuotedToEndTrueAfterOpeningQWrong)

end Rows
end Go.Proofs.Qxb6604056a
