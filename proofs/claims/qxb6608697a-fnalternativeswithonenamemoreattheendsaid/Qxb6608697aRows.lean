/-
  No cell of these rows narrows 'for every input' (looked for: loops, veiled, ifaces, maps, wideKeys, modest, calm, conditions, laid).
  DERIVED. THE GIVEN ROWS OF THIS SEAT. 5 by the template 'for every input the law returns true; each argument reads behind the call as it read before'; 0 by the template 'total and deterministic' (their statements: Qxb6608697aTotals.lean).
  GIVEN WITH THE SEED: the statements are not yours to turn. If you find one false, say at which input.
  Laid BY PROGRAM, IN A SANDBOX (cutbox-rows.mjs): the forced cells as the released guide's own fill.sh prints them over the translation a6fd575c09498a6e… (all of the seat's roots in one cut). By AI agents, Wed Nov 11 2026. No macro, syntax, notation, axiom, sorry.
-/
import Derived.Test.Qxb6608697aChecked
import GoSem.Claim
import GoSem.ClaimJoined
import GoSem.ClaimMapViews
import Derived.JoinedTies
import Derived.KernelRfl
namespace Go.Proofs.Qxb6608697a
/- THE CELL 'sum', in the pinned program and in every row, IS THE sha256 OF THE DUMP (.gsa) THAT Qxb6608697aProg.lean LOADS. Nothing in Lean hashes anything: it is a label: what it is worth is what the hold of that sum in a sandbox is worth. -/
noncomputable def Try.pinned : Pinned := { name := "qxb6608697a", sum := "a6fd575c09498a6e1e75544f2158bee355853195fee3c6f25d222c560b875e76", checked := Try.checked }
namespace Rows
def none {H : Type} : Left H := { results := [], args := [] }

/-- 'zzlaws_internal_parser_b1.FnIsDigitAcceptsExactlyTheTenDigits': WHATEVER THE INPUT: true; the input reads as it did. -/
def fnIsDigitAcceptsExactlyTheTenDigitsSpec : ChangeSpec := { name := "fnIsDigitAcceptsExactlyTheTenDigits", fn := fun _ => fun
  | [d] => { results := [.lit (.bool true)], args := [d] }
  | _ => none }
def fnIsDigitAcceptsExactlyTheTenDigitsRow : OpenClaim := { program := "qxb6608697a", sum := "a6fd575c09498a6e1e75544f2158bee355853195fee3c6f25d222c560b875e76", func := "example.com/rowan/rowan/zzlaws_internal_parser_b1.FnIsDigitAcceptsExactlyTheTenDigits", spec := "fnIsDigitAcceptsExactlyTheTenDigits", apart := false }
def FnIsDigitAcceptsExactlyTheTenDigitsSaid : Prop := fnIsDigitAcceptsExactlyTheTenDigitsRow.holds Try.pinned (OpenSpec.ofChange fnIsDigitAcceptsExactlyTheTenDigitsSpec)

/-- ITS FALSE NEIGHBOUR: 'it returns false'. Refute it at one input. -/
def fnIsDigitAcceptsExactlyTheTenDigitsWrong : ChangeSpec := { name := "fnIsDigitAcceptsExactlyTheTenDigits", fn := fun _ => fun
  | [d] => { results := [.lit (.bool false)], args := [d] }
  | _ => none }
def FnIsDigitAcceptsExactlyTheTenDigitsWrongFalsely : Prop := fnIsDigitAcceptsExactlyTheTenDigitsRow.holds Try.pinned (OpenSpec.ofChange fnIsDigitAcceptsExactlyTheTenDigitsWrong)

/-- 'zzlaws_internal_parser_b1.FnNegateComplementsTheOutcomes': WHATEVER THE INPUT: true; the input reads as it did. -/
def fnNegateComplementsTheOutcomesSpec : ChangeSpec := { name := "fnNegateComplementsTheOutcomes", fn := fun _ => fun
  | [d] => { results := [.lit (.bool true)], args := [d] }
  | _ => none }
def fnNegateComplementsTheOutcomesRow : OpenClaim := { program := "qxb6608697a", sum := "a6fd575c09498a6e1e75544f2158bee355853195fee3c6f25d222c560b875e76", func := "example.com/rowan/rowan/zzlaws_internal_parser_b1.FnNegateComplementsTheOutcomes", spec := "fnNegateComplementsTheOutcomes", apart := false }
def FnNegateComplementsTheOutcomesSaid : Prop := fnNegateComplementsTheOutcomesRow.holds Try.pinned (OpenSpec.ofChange fnNegateComplementsTheOutcomesSpec)

/-- ITS FALSE NEIGHBOUR: 'it returns false'. Refute it at one input. -/
def fnNegateComplementsTheOutcomesWrong : ChangeSpec := { name := "fnNegateComplementsTheOutcomes", fn := fun _ => fun
  | [d] => { results := [.lit (.bool false)], args := [d] }
  | _ => none }
def FnNegateComplementsTheOutcomesWrongFalsely : Prop := fnNegateComplementsTheOutcomesRow.holds Try.pinned (OpenSpec.ofChange fnNegateComplementsTheOutcomesWrong)

/-- 'zzlaws_internal_parser_b1.FnNegateHoldsWhereOpDoesNotOverIntegers': WHATEVER THE INPUT: true; the input reads as it did. -/
def fnNegateHoldsWhereOpDoesNotOverIntegersSpec : ChangeSpec := { name := "fnNegateHoldsWhereOpDoesNotOverIntegers", fn := fun _ => fun
  | [d1, d2, d3] => { results := [.lit (.bool true)], args := [d1, d2, d3] }
  | _ => none }
def fnNegateHoldsWhereOpDoesNotOverIntegersRow : OpenClaim := { program := "qxb6608697a", sum := "a6fd575c09498a6e1e75544f2158bee355853195fee3c6f25d222c560b875e76", func := "example.com/rowan/rowan/zzlaws_internal_parser_b1.FnNegateHoldsWhereOpDoesNotOverIntegers", spec := "fnNegateHoldsWhereOpDoesNotOverIntegers", apart := false }
def FnNegateHoldsWhereOpDoesNotOverIntegersSaid : Prop := fnNegateHoldsWhereOpDoesNotOverIntegersRow.holds Try.pinned (OpenSpec.ofChange fnNegateHoldsWhereOpDoesNotOverIntegersSpec)

/-- ITS FALSE NEIGHBOUR: 'it returns false'. Refute it at one input. -/
def fnNegateHoldsWhereOpDoesNotOverIntegersWrong : ChangeSpec := { name := "fnNegateHoldsWhereOpDoesNotOverIntegers", fn := fun _ => fun
  | [d1, d2, d3] => { results := [.lit (.bool false)], args := [d1, d2, d3] }
  | _ => none }
def FnNegateHoldsWhereOpDoesNotOverIntegersWrongFalsely : Prop := fnNegateHoldsWhereOpDoesNotOverIntegersRow.holds Try.pinned (OpenSpec.ofChange fnNegateHoldsWhereOpDoesNotOverIntegersWrong)

/-- 'zzlaws_internal_parser_b1.FnAlternativesWithOneNameMoreAtTheEnd': WHATEVER THE INPUT: true; the input reads as it did. -/
def fnAlternativesWithOneNameMoreAtTheEndSpec : ChangeSpec := { name := "fnAlternativesWithOneNameMoreAtTheEnd", fn := fun _ => fun
  | [d1, d2] => { results := [.lit (.bool true)], args := [d1, d2] }
  | _ => none }
def fnAlternativesWithOneNameMoreAtTheEndRow : OpenClaim := { program := "qxb6608697a", sum := "a6fd575c09498a6e1e75544f2158bee355853195fee3c6f25d222c560b875e76", func := "example.com/rowan/rowan/zzlaws_internal_parser_b1.FnAlternativesWithOneNameMoreAtTheEnd", spec := "fnAlternativesWithOneNameMoreAtTheEnd", inPlace := ["internal/abi.NoEscape", "internal/bytealg.MakeNoZero"], apart := false }
def FnAlternativesWithOneNameMoreAtTheEndSaid : Prop := fnAlternativesWithOneNameMoreAtTheEndRow.holds Try.pinned (OpenSpec.ofChange fnAlternativesWithOneNameMoreAtTheEndSpec)

/-- ITS FALSE NEIGHBOUR: 'it returns false'. Refute it at one input. -/
def fnAlternativesWithOneNameMoreAtTheEndWrong : ChangeSpec := { name := "fnAlternativesWithOneNameMoreAtTheEnd", fn := fun _ => fun
  | [d1, d2] => { results := [.lit (.bool false)], args := [d1, d2] }
  | _ => none }
def FnAlternativesWithOneNameMoreAtTheEndWrongFalsely : Prop := fnAlternativesWithOneNameMoreAtTheEndRow.holds Try.pinned (OpenSpec.ofChange fnAlternativesWithOneNameMoreAtTheEndWrong)

/-- 'zzlaws_internal_parser_b1.FnAlternativesLengthAndEnds': WHATEVER THE INPUT: true; the input reads as it did. -/
def fnAlternativesLengthAndEndsSpec : ChangeSpec := { name := "fnAlternativesLengthAndEnds", fn := fun _ => fun
  | [d] => { results := [.lit (.bool true)], args := [d] }
  | _ => none }
def fnAlternativesLengthAndEndsRow : OpenClaim := { program := "qxb6608697a", sum := "a6fd575c09498a6e1e75544f2158bee355853195fee3c6f25d222c560b875e76", func := "example.com/rowan/rowan/zzlaws_internal_parser_b1.FnAlternativesLengthAndEnds", spec := "fnAlternativesLengthAndEnds", inPlace := ["internal/abi.NoEscape", "internal/bytealg.MakeNoZero"], apart := false }
def FnAlternativesLengthAndEndsSaid : Prop := fnAlternativesLengthAndEndsRow.holds Try.pinned (OpenSpec.ofChange fnAlternativesLengthAndEndsSpec)

/-- ITS FALSE NEIGHBOUR: 'it returns false'. Refute it at one input. -/
def fnAlternativesLengthAndEndsWrong : ChangeSpec := { name := "fnAlternativesLengthAndEnds", fn := fun _ => fun
  | [d] => { results := [.lit (.bool false)], args := [d] }
  | _ => none }
def FnAlternativesLengthAndEndsWrongFalsely : Prop := fnAlternativesLengthAndEndsRow.holds Try.pinned (OpenSpec.ofChange fnAlternativesLengthAndEndsWrong)

end Rows
end Go.Proofs.Qxb6608697a
