/-
  DERIVED. GIVEN WITH THE SEED: THE CARDS: each row of Qxb6608697aFmtRows.lean that lists a variable, with what it lists TIED to the program's text (the seventh form; the later family's looks); each row that meets fmt, with fmt's text TOLD by the authors' own Lean function (tested against real Go, not proved from fmt's source: count such statements apart). THE CARD IS WHAT COUNTS. Prove the row's statement (the work); the ties are given (Qxb6608697aFmtTie.lean); close each card by the builder's one call (the guide's Derived/Test/ToyasCard.lean, 'card_holds'). Laid BY PROGRAM, IN A SANDBOX (cutbox-door.mjs). By AI agents, Wed Nov 11 2026. No macro, syntax, notation, axiom, sorry.
-/
import Derived.Test.Qxb6608697aFmtRows
import GoSem.ClaimSeven
namespace Go.Proofs.Qxb6608697aFmt
namespace Rows

/-- THE TOLD CARD OF 'zzlaws_internal_parser_b1.FnDeleteMapValuesSetsTheComparisonsValue'. -/
def fnDeleteMapValuesSetsTheComparisonsValueCard : Claim7 := { stood := { row := fnDeleteMapValuesSetsTheComparisonsValueRow, standIns := [], harness := (true, "edddfc029d467841fa40698e0850108fe174313907e001eab7412956851da3db"), looks := true }, told := true, goes := false }
def FnDeleteMapValuesSetsTheComparisonsValueToldSaid : Prop := Claim7.holds Tryf.pinned (.plain (OpenSpec.ofChange fnDeleteMapValuesSetsTheComparisonsValueSpec)) fnDeleteMapValuesSetsTheComparisonsValueCard
/-- ITS FALSE NEIGHBOUR. Refute it at one input. -/
def FnDeleteMapValuesSetsTheComparisonsValueToldWrongFalsely : Prop := Claim7.holds Tryf.pinned (.plain (OpenSpec.ofChange fnDeleteMapValuesSetsTheComparisonsValueWrong)) fnDeleteMapValuesSetsTheComparisonsValueCard

/-- THE TOLD CARD OF 'zzlaws_internal_parser_b1.FnDeleteMapValuesNumbersValuesInTextOrder'. -/
def fnDeleteMapValuesNumbersValuesInTextOrderCard : Claim7 := { stood := { row := fnDeleteMapValuesNumbersValuesInTextOrderRow, standIns := [], harness := (true, "edddfc029d467841fa40698e0850108fe174313907e001eab7412956851da3db"), looks := true }, told := true, goes := false }
def FnDeleteMapValuesNumbersValuesInTextOrderToldSaid : Prop := Claim7.holds Tryf.pinned (.plain (OpenSpec.ofChange fnDeleteMapValuesNumbersValuesInTextOrderSpec)) fnDeleteMapValuesNumbersValuesInTextOrderCard
/-- ITS FALSE NEIGHBOUR. Refute it at one input. -/
def FnDeleteMapValuesNumbersValuesInTextOrderToldWrongFalsely : Prop := Claim7.holds Tryf.pinned (.plain (OpenSpec.ofChange fnDeleteMapValuesNumbersValuesInTextOrderWrong)) fnDeleteMapValuesNumbersValuesInTextOrderCard
end Rows
end Go.Proofs.Qxb6608697aFmt
