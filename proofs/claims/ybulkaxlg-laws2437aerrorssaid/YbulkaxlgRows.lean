/-
  No cell of these rows narrows 'for every input' (looked for: loops, veiled, ifaces, maps, wideKeys, modest, calm, conditions, laid).
  DERIVED. THE GIVEN ROWS OF THIS SEAT. 2 by the template 'for every input the law returns true; each argument reads behind the call as it read before'; 0 by the template 'total and deterministic' (their statements: YbulkaxlgTotals.lean).
  GIVEN WITH THE SEED: the statements are not yours to turn. If you find one false, say at which input.
  Laid BY PROGRAM, IN A SANDBOX (cutbox-rows.mjs): the forced cells as the released guide's own fill.sh prints them over the translation 7c6ab5968e7c1c92… (all of the seat's roots in one cut). By AI agents, Wed Nov 11 2026. No macro, syntax, notation, axiom, sorry.
-/
import Derived.Test.YbulkaxlgChecked
import GoSem.Claim
import GoSem.ClaimJoined
import GoSem.ClaimMapViews
import Derived.JoinedTies
import Derived.KernelRfl
namespace Go.Proofs.Ybulkaxlg
/- THE CELL 'sum', in the pinned program and in every row, IS THE sha256 OF THE DUMP (.gsa) THAT YbulkaxlgProg.lean LOADS. Nothing in Lean hashes anything: it is a label: what it is worth is what the hold of that sum in a sandbox is worth. -/
noncomputable def Yba.pinned : Pinned := { name := "ybulkaxlg", sum := "7c6ab5968e7c1c92d41f061102569d940a3ff249b64004e506a3f5251eb4c51a", checked := Yba.checked }
namespace Rows
def none {H : Type} : Left H := { results := [], args := [] }

/-- 'basic.LawS2437ACompare': WHATEVER THE INPUT: true; the input reads as it did. -/
def lawS2437ACompareSpec : ChangeSpec := { name := "lawS2437ACompare", fn := fun _ => fun
  | [d1, d2, d3] => { results := [.lit (.bool true)], args := [d1, d2, d3] }
  | _ => none }
def lawS2437ACompareRow : OpenClaim := { program := "ybulkaxlg", sum := "7c6ab5968e7c1c92d41f061102569d940a3ff249b64004e506a3f5251eb4c51a", func := "example.com/tenline/tenline/internal/basic.LawS2437ACompare", spec := "lawS2437ACompare", unfollowed := true, recurses := true, apart := false }
def LawS2437ACompareSaid : Prop := lawS2437ACompareRow.holds Yba.pinned (OpenSpec.ofChange lawS2437ACompareSpec)

/-- ITS FALSE NEIGHBOUR: 'it returns false'. Refute it at one input. -/
def lawS2437ACompareWrong : ChangeSpec := { name := "lawS2437ACompare", fn := fun _ => fun
  | [d1, d2, d3] => { results := [.lit (.bool false)], args := [d1, d2, d3] }
  | _ => none }
def LawS2437ACompareWrongFalsely : Prop := lawS2437ACompareRow.holds Yba.pinned (OpenSpec.ofChange lawS2437ACompareWrong)

/-- 'basic.LawS2437AErrors': WHATEVER THE INPUT: true; the input reads as it did. -/
def lawS2437AErrorsSpec : ChangeSpec := { name := "lawS2437AErrors", fn := fun _ => fun
  | [d1, d2, d3, d4] => { results := [.lit (.bool true)], args := [d1, d2, d3, d4] }
  | _ => none }
def lawS2437AErrorsRow : OpenClaim := { program := "ybulkaxlg", sum := "7c6ab5968e7c1c92d41f061102569d940a3ff249b64004e506a3f5251eb4c51a", func := "example.com/tenline/tenline/internal/basic.LawS2437AErrors", spec := "lawS2437AErrors", unfollowed := true, recurses := true, apart := false }
def LawS2437AErrorsSaid : Prop := lawS2437AErrorsRow.holds Yba.pinned (OpenSpec.ofChange lawS2437AErrorsSpec)

/-- ITS FALSE NEIGHBOUR: 'it returns false'. Refute it at one input. -/
def lawS2437AErrorsWrong : ChangeSpec := { name := "lawS2437AErrors", fn := fun _ => fun
  | [d1, d2, d3, d4] => { results := [.lit (.bool false)], args := [d1, d2, d3, d4] }
  | _ => none }
def LawS2437AErrorsWrongFalsely : Prop := lawS2437AErrorsRow.holds Yba.pinned (OpenSpec.ofChange lawS2437AErrorsWrong)

end Rows
end Go.Proofs.Ybulkaxlg
