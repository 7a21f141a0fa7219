/-
  No cell of these rows narrows 'for every input' (looked for: loops, veiled, ifaces, maps, wideKeys, modest, calm, conditions, laid).
  DERIVED. THE GIVEN ROWS OF THIS SEAT. 2 by the template 'for every input the law returns true; each argument reads behind the call as it read before'; 0 by the template 'total and deterministic' (their statements: Qxb6608697aFmtTotals.lean).
  GIVEN WITH THE SEED: the statements are not yours to turn. If you find one false, say at which input.
  Laid BY PROGRAM, IN A SANDBOX (cutbox-rows.mjs): the forced cells as the released guide's own fill.sh prints them over the translation ef0acd5ea01812ca… (all of the seat's roots in one cut). By AI agents, Wed Nov 11 2026. No macro, syntax, notation, axiom, sorry.
-/
import Derived.Test.Qxb6608697aFmtChecked
import GoSem.Claim
import GoSem.ClaimJoined
import GoSem.ClaimMapViews
import Derived.JoinedTies
import Derived.KernelRfl
namespace Go.Proofs.Qxb6608697aFmt
/- THE CELL 'sum', in the pinned program and in every row, IS THE sha256 OF THE DUMP (.gsa) THAT Qxb6608697aFmtProg.lean LOADS. Nothing in Lean hashes anything: it is a label: what it is worth is what the hold of that sum in a sandbox is worth. -/
noncomputable def Tryf.pinned : Pinned := { name := "qxb6608697afmt", sum := "ef0acd5ea01812ca06b7dc14d723d1f6d7f8183aa4cbf5e851abd2e1fa810c96", checked := Tryf.checked }
namespace Rows
def none {H : Type} : Left H := { results := [], args := [] }

/-- 'zzlaws_internal_parser_b1.FnDeleteMapValuesSetsTheComparisonsValue': WHATEVER THE INPUT: true; the input reads as it did. -/
def fnDeleteMapValuesSetsTheComparisonsValueSpec : ChangeSpec := { name := "fnDeleteMapValuesSetsTheComparisonsValue", fn := fun _ => fun
  | [d1, d2, d3, d4, d5] => { results := [.lit (.bool true)], args := [d1, d2, d3, d4, d5] }
  | _ => none }
def fnDeleteMapValuesSetsTheComparisonsValueRow : OpenClaim := { program := "qxb6608697afmt", sum := "ef0acd5ea01812ca06b7dc14d723d1f6d7f8183aa4cbf5e851abd2e1fa810c96", func := "example.com/rowan/rowan/zzlaws_internal_parser_b1.FnDeleteMapValuesSetsTheComparisonsValue", spec := "fnDeleteMapValuesSetsTheComparisonsValue", stops := ["fmt.Sprintf"], inPlace := ["fmt.Sprintf"], unfollowed := true, recurses := true, apart := false }
/-- NO THEOREM (fmt's text is open here; it may be false): for the released tool's asking of the row's closed facts alone. THE STATEMENT IS 'FnDeleteMapValuesSetsTheComparisonsValueToldSaid' (Qxb6608697aFmtCards.lean). -/
def FnDeleteMapValuesSetsTheComparisonsValueFormAsk : Prop := fnDeleteMapValuesSetsTheComparisonsValueRow.holds Tryf.pinned (OpenSpec.ofChange fnDeleteMapValuesSetsTheComparisonsValueSpec)

/-- ITS FALSE NEIGHBOUR: 'it returns false'. Refute it at one input. -/
def fnDeleteMapValuesSetsTheComparisonsValueWrong : ChangeSpec := { name := "fnDeleteMapValuesSetsTheComparisonsValue", fn := fun _ => fun
  | [d1, d2, d3, d4, d5] => { results := [.lit (.bool false)], args := [d1, d2, d3, d4, d5] }
  | _ => none }
def FnDeleteMapValuesSetsTheComparisonsValueWrongFormAsk : Prop := fnDeleteMapValuesSetsTheComparisonsValueRow.holds Tryf.pinned (OpenSpec.ofChange fnDeleteMapValuesSetsTheComparisonsValueWrong)

/-- 'zzlaws_internal_parser_b1.FnDeleteMapValuesNumbersValuesInTextOrder': WHATEVER THE INPUT: true; the input reads as it did. -/
def fnDeleteMapValuesNumbersValuesInTextOrderSpec : ChangeSpec := { name := "fnDeleteMapValuesNumbersValuesInTextOrder", fn := fun _ => fun
  | [d1, d2, d3, d4, d5, d6, d7, d8, d9, d10] => { results := [.lit (.bool true)], args := [d1, d2, d3, d4, d5, d6, d7, d8, d9, d10] }
  | _ => none }
def fnDeleteMapValuesNumbersValuesInTextOrderRow : OpenClaim := { program := "qxb6608697afmt", sum := "ef0acd5ea01812ca06b7dc14d723d1f6d7f8183aa4cbf5e851abd2e1fa810c96", func := "example.com/rowan/rowan/zzlaws_internal_parser_b1.FnDeleteMapValuesNumbersValuesInTextOrder", spec := "fnDeleteMapValuesNumbersValuesInTextOrder", stops := ["fmt.Sprintf"], inPlace := ["fmt.Sprintf"], unfollowed := true, recurses := true, apart := false }
/-- NO THEOREM (fmt's text is open here; it may be false): for the released tool's asking of the row's closed facts alone. THE STATEMENT IS 'FnDeleteMapValuesNumbersValuesInTextOrderToldSaid' (Qxb6608697aFmtCards.lean). -/
def FnDeleteMapValuesNumbersValuesInTextOrderFormAsk : Prop := fnDeleteMapValuesNumbersValuesInTextOrderRow.holds Tryf.pinned (OpenSpec.ofChange fnDeleteMapValuesNumbersValuesInTextOrderSpec)

/-- ITS FALSE NEIGHBOUR: 'it returns false'. Refute it at one input. -/
def fnDeleteMapValuesNumbersValuesInTextOrderWrong : ChangeSpec := { name := "fnDeleteMapValuesNumbersValuesInTextOrder", fn := fun _ => fun
  | [d1, d2, d3, d4, d5, d6, d7, d8, d9, d10] => { results := [.lit (.bool false)], args := [d1, d2, d3, d4, d5, d6, d7, d8, d9, d10] }
  | _ => none }
def FnDeleteMapValuesNumbersValuesInTextOrderWrongFormAsk : Prop := fnDeleteMapValuesNumbersValuesInTextOrderRow.holds Tryf.pinned (OpenSpec.ofChange fnDeleteMapValuesNumbersValuesInTextOrderWrong)

end Rows
end Go.Proofs.Qxb6608697aFmt
