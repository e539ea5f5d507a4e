/-
  NARROWER THAN 'FOR EVERY INPUT', by the rows' own cells (each row's printed sentence says how): LawS2425BAttributes: ifaces, laid.
  DERIVED. THE GIVEN ROWS OF THIS SEAT. 3 by the template 'for every input the law returns true; each argument reads behind the call as it read before'; 0 by the template 'total and deterministic' (their statements: YbulkaxeuFmtTotals.lean).
  GIVEN WITH THE SEED: the statements are not yours to turn. If you find one false, say at which input.
  Laid BY PROGRAM, IN A SANDBOX (cutbox-rows.mjs): the forced cells as the released guide's own fill.sh prints them over the translation 65c5265d8967a7d5… (all of the seat's roots in one cut). By AI agents, Wed Nov 11 2026. No macro, syntax, notation, axiom, sorry.
-/
import Derived.Test.YbulkaxeuFmtChecked
import GoSem.Claim
import GoSem.ClaimJoined
import GoSem.ClaimMapViews
import Derived.JoinedTies
import Derived.KernelRfl
namespace Go.Proofs.YbulkaxeuFmt
/- THE CELL 'sum', in the pinned program and in every row, IS THE sha256 OF THE DUMP (.gsa) THAT YbulkaxeuFmtProg.lean LOADS. Nothing in Lean hashes anything: it is a label: what it is worth is what the hold of that sum in a sandbox is worth. -/
noncomputable def Ybaf.pinned : Pinned := { name := "ybulkaxeufmt", sum := "65c5265d8967a7d5e15ce883b1448256e93607ab43f768832990f01459d94837", checked := Ybaf.checked }
namespace Rows
def none {H : Type} : Left H := { results := [], args := [] }

/- WHAT THE LISTED PACKAGE-LEVEL VARIABLES READ AS WHEN THE CALL BEGINS. Each datum BY PROGRAM (the guide's laid-datum.mjs) off the statement by which the dump's own 'gosem.cut.vars' lays the variable. In a bare row this is a premise. The card (YbulkaxeuFmtCards.lean) ties it to the program's text. -/
def laid_example_com_anchorline_anchorline_internal_numdb_ErrSyntax {H : Type} : DataW H := .iface "*errors.errorString" (.ptr (.agg [.lit (.string [109, 97, 108, 102, 111, 114, 109, 101, 100, 32, 101, 110, 116, 114, 121])]))

/-- 'numdb.LawS2425BAttributes': WHATEVER THE INPUT: true; the input reads as it did. -/
def lawS2425BAttributesSpec : ChangeSpec := { name := "lawS2425BAttributes", vars := ["example.com/anchorline/anchorline/internal/numdb.ErrSyntax"], fn := fun _ => fun
  | [d1, d2, d3, d4, g1] => { results := [.lit (.bool true)], args := [d1, d2, d3, d4], vars := [g1] }
  | _ => none }
def lawS2425BAttributesRow : OpenClaim := { program := "ybulkaxeufmt", sum := "65c5265d8967a7d5e15ce883b1448256e93607ab43f768832990f01459d94837", func := "example.com/anchorline/anchorline/internal/numdb.LawS2425BAttributes", spec := "lawS2425BAttributes", stops := ["fmt.Sprintf", "fmt.errorf"], inPlace := ["fmt.errorf", "internal/abi.NoEscape", "internal/reflectlite.TypeOf"], unfollowed := true, recurses := true, named := ["example.com/anchorline/anchorline/internal/numdb.ErrSyntax"], ifaces := true, apart := false, laid := [("example.com/anchorline/anchorline/internal/numdb.ErrSyntax", laid_example_com_anchorline_anchorline_internal_numdb_ErrSyntax)] }
/-- NO THEOREM (fmt's text is open here; it may be false): for the released tool's asking of the row's closed facts alone. THE STATEMENT IS 'LawS2425BAttributesToldSaid' (YbulkaxeuFmtCards.lean). -/
def LawS2425BAttributesFormAsk : Prop := lawS2425BAttributesRow.holds Ybaf.pinned (OpenSpec.ofChange lawS2425BAttributesSpec)

/-- ITS FALSE NEIGHBOUR: 'it returns false'. Refute it at one input. -/
def lawS2425BAttributesWrong : ChangeSpec := { name := "lawS2425BAttributes", vars := ["example.com/anchorline/anchorline/internal/numdb.ErrSyntax"], fn := fun _ => fun
  | [d1, d2, d3, d4, g1] => { results := [.lit (.bool false)], args := [d1, d2, d3, d4], vars := [g1] }
  | _ => none }
def LawS2425BAttributesWrongFormAsk : Prop := lawS2425BAttributesRow.holds Ybaf.pinned (OpenSpec.ofChange lawS2425BAttributesWrong)

/-- 'route.LawS2425CNames': WHATEVER THE INPUT: true; the input reads as it did. -/
def lawS2425CNamesSpec : ChangeSpec := { name := "lawS2425CNames", fn := fun _ => fun
  | [d] => { results := [.lit (.bool true)], args := [d] }
  | _ => none }
def lawS2425CNamesRow : OpenClaim := { program := "ybulkaxeufmt", sum := "65c5265d8967a7d5e15ce883b1448256e93607ab43f768832990f01459d94837", func := "example.com/anchorline/anchorline/internal/route.LawS2425CNames", spec := "lawS2425CNames", stops := ["fmt.Sprintf", "fmt.errorf"], inPlace := ["fmt.Sprintf"], apart := false }
/-- NO THEOREM (fmt's text is open here; it may be false): for the released tool's asking of the row's closed facts alone. THE STATEMENT IS 'LawS2425CNamesToldSaid' (YbulkaxeuFmtCards.lean). -/
def LawS2425CNamesFormAsk : Prop := lawS2425CNamesRow.holds Ybaf.pinned (OpenSpec.ofChange lawS2425CNamesSpec)

/-- ITS FALSE NEIGHBOUR: 'it returns false'. Refute it at one input. -/
def lawS2425CNamesWrong : ChangeSpec := { name := "lawS2425CNames", fn := fun _ => fun
  | [d] => { results := [.lit (.bool false)], args := [d] }
  | _ => none }
def LawS2425CNamesWrongFormAsk : Prop := lawS2425CNamesRow.holds Ybaf.pinned (OpenSpec.ofChange lawS2425CNamesWrong)

/-- 'route.LawS2425CConsts': WHATEVER THE INPUT: true; the input reads as it did. -/
def lawS2425CConstsSpec : ChangeSpec := { name := "lawS2425CConsts", fn := fun _ => fun
  | [] => { results := [.lit (.bool true)], args := [] }
  | _ => none }
def lawS2425CConstsRow : OpenClaim := { program := "ybulkaxeufmt", sum := "65c5265d8967a7d5e15ce883b1448256e93607ab43f768832990f01459d94837", func := "example.com/anchorline/anchorline/internal/route.LawS2425CConsts", spec := "lawS2425CConsts", stops := ["fmt.Sprintf", "fmt.errorf"], inPlace := ["fmt.Sprintf"], apart := false }
/-- NO THEOREM (fmt's text is open here; it may be false): for the released tool's asking of the row's closed facts alone. THE STATEMENT IS 'LawS2425CConstsToldSaid' (YbulkaxeuFmtCards.lean). -/
def LawS2425CConstsFormAsk : Prop := lawS2425CConstsRow.holds Ybaf.pinned (OpenSpec.ofChange lawS2425CConstsSpec)

/-- ITS FALSE NEIGHBOUR: 'it returns false'. Refute it at one input. -/
def lawS2425CConstsWrong : ChangeSpec := { name := "lawS2425CConsts", fn := fun _ => fun
  | [] => { results := [.lit (.bool false)], args := [] }
  | _ => none }
def LawS2425CConstsWrongFormAsk : Prop := lawS2425CConstsRow.holds Ybaf.pinned (OpenSpec.ofChange lawS2425CConstsWrong)

end Rows
end Go.Proofs.YbulkaxeuFmt
