/-
  No cell of these rows narrows 'for every input' (looked for: loops, veiled, ifaces, maps, wideKeys, modest, calm, conditions, laid).
  DERIVED. THE GIVEN ROWS OF THIS SEAT. 1 by the template 'for every input the law returns true; each argument reads behind the call as it read before'; 0 by the template 'total and deterministic' (their statements: YbulkaxgkTotals.lean).
  GIVEN WITH THE SEED: the statements are not yours to turn. If you find one false, say at which input.
  Laid BY PROGRAM, IN A SANDBOX (cutbox-rows.mjs): the forced cells as the released guide's own fill.sh prints them over the translation 0421cfe6c28e6e51… (all of the seat's roots in one cut). By AI agents, Wed Nov 11 2026. No macro, syntax, notation, axiom, sorry.
-/
import Derived.Test.YbulkaxgkChecked
import GoSem.Claim
import GoSem.ClaimJoined
import GoSem.ClaimMapViews
import Derived.JoinedTies
import Derived.KernelRfl
namespace Go.Proofs.Ybulkaxgk
/- THE CELL 'sum', in the pinned program and in every row, IS THE sha256 OF THE DUMP (.gsa) THAT YbulkaxgkProg.lean LOADS. Nothing in Lean hashes anything: it is a label: what it is worth is what the hold of that sum in a sandbox is worth. -/
noncomputable def Yba.pinned : Pinned := { name := "ybulkaxgk", sum := "0421cfe6c28e6e51949669a59ad54edce492d4ba5cf34c4ca675ed9a7104824b", checked := Yba.checked }
namespace Rows
def none {H : Type} : Left H := { results := [], args := [] }

/-- 'strictjson.LawS2428CTable': WHATEVER THE INPUT: true; the input reads as it did. -/
def lawS2428CTableSpec : ChangeSpec := { name := "lawS2428CTable", fn := fun _ => fun
  | [d1, d2, d3, d4, d5, d6, d7] => { results := [.lit (.bool true)], args := [d1, d2, d3, d4, d5, d6, d7] }
  | _ => none }
def lawS2428CTableRow : OpenClaim := { program := "ybulkaxgk", sum := "0421cfe6c28e6e51949669a59ad54edce492d4ba5cf34c4ca675ed9a7104824b", func := "example.com/wardline/wardline/internal/strictjson.LawS2428CTable", spec := "lawS2428CTable", apart := false }
def LawS2428CTableSaid : Prop := lawS2428CTableRow.holds Yba.pinned (OpenSpec.ofChange lawS2428CTableSpec)

/-- ITS FALSE NEIGHBOUR: 'it returns false'. Refute it at one input. -/
def lawS2428CTableWrong : ChangeSpec := { name := "lawS2428CTable", fn := fun _ => fun
  | [d1, d2, d3, d4, d5, d6, d7] => { results := [.lit (.bool false)], args := [d1, d2, d3, d4, d5, d6, d7] }
  | _ => none }
def LawS2428CTableWrongFalsely : Prop := lawS2428CTableRow.holds Yba.pinned (OpenSpec.ofChange lawS2428CTableWrong)

end Rows
end Go.Proofs.Ybulkaxgk
