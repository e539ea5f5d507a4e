/-
  DERIVED. GIVEN WITH THE SEED: THE CARDS: each row of YbulkaxeuFmtRows.lean that lists a variable, with what it lists TIED to the program's text (the seventh form; the later family's looks); each row that meets fmt, with fmt's text TOLD by the authors' own Lean function (tested against real Go, not proved from fmt's source: count such statements apart). THE CARD IS WHAT COUNTS. Prove the row's statement (the work); the ties are given (YbulkaxeuFmtTie.lean); close each card by the builder's one call (the guide's Derived/Test/ToyasCard.lean, 'card_holds'). Laid BY PROGRAM, IN A SANDBOX (cutbox-door.mjs). By AI agents, Wed Nov 11 2026. No macro, syntax, notation, axiom, sorry.
-/
import Derived.Test.YbulkaxeuFmtRows
import GoSem.ClaimSeven
namespace Go.Proofs.YbulkaxeuFmt
namespace Rows

/-- THE TOLD AND TIED CARD OF 'numdb.LawS2425BAttributes'. -/
def lawS2425BAttributesCard : Claim7 := { stood := { row := lawS2425BAttributesRow, standIns := [], harness := (true, "2573319f664c63cf4ac292170890f598e23ba975e6fdc1428573e69b8c4103f6"), looks := true }, told := true, laidByText := true, laidKinds := [.sentinel], laidTests := true, laidLooks := .later, goes := false }
def LawS2425BAttributesToldSaid : Prop := Claim7.holds Ybaf.pinned (.plain (OpenSpec.ofChange lawS2425BAttributesSpec)) lawS2425BAttributesCard
/-- ITS FALSE NEIGHBOUR. Refute it at one input. -/
def LawS2425BAttributesToldWrongFalsely : Prop := Claim7.holds Ybaf.pinned (.plain (OpenSpec.ofChange lawS2425BAttributesWrong)) lawS2425BAttributesCard

/-- THE TOLD CARD OF 'route.LawS2425CNames'. -/
def lawS2425CNamesCard : Claim7 := { stood := { row := lawS2425CNamesRow, standIns := [], harness := (true, "2573319f664c63cf4ac292170890f598e23ba975e6fdc1428573e69b8c4103f6"), looks := true }, told := true, goes := false }
def LawS2425CNamesToldSaid : Prop := Claim7.holds Ybaf.pinned (.plain (OpenSpec.ofChange lawS2425CNamesSpec)) lawS2425CNamesCard
/-- ITS FALSE NEIGHBOUR. Refute it at one input. -/
def LawS2425CNamesToldWrongFalsely : Prop := Claim7.holds Ybaf.pinned (.plain (OpenSpec.ofChange lawS2425CNamesWrong)) lawS2425CNamesCard

/-- THE TOLD CARD OF 'route.LawS2425CConsts'. -/
def lawS2425CConstsCard : Claim7 := { stood := { row := lawS2425CConstsRow, standIns := [], harness := (true, "2573319f664c63cf4ac292170890f598e23ba975e6fdc1428573e69b8c4103f6"), looks := true }, told := true, goes := false }
def LawS2425CConstsToldSaid : Prop := Claim7.holds Ybaf.pinned (.plain (OpenSpec.ofChange lawS2425CConstsSpec)) lawS2425CConstsCard
/-- ITS FALSE NEIGHBOUR. Refute it at one input. -/
def LawS2425CConstsToldWrongFalsely : Prop := Claim7.holds Ybaf.pinned (.plain (OpenSpec.ofChange lawS2425CConstsWrong)) lawS2425CConstsCard
end Rows
end Go.Proofs.YbulkaxeuFmt
