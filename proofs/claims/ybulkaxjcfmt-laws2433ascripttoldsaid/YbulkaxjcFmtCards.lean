/-
  DERIVED. GIVEN WITH THE SEED: THE CARDS: each row of YbulkaxjcFmtRows.lean that lists a variable, with what it lists TIED to the program's text (the seventh form; the later family's looks); each row that meets fmt, with fmt's text TOLD by the authors' own Lean function (tested against real Go, not proved from fmt's source: count such statements apart). THE CARD IS WHAT COUNTS. Prove the row's statement (the work); the ties are given (YbulkaxjcFmtTie.lean); close each card by the builder's one call (the guide's Derived/Test/ToyasCard.lean, 'card_holds'). Laid BY PROGRAM, IN A SANDBOX (cutbox-door.mjs). By AI agents, Wed Nov 11 2026. No macro, syntax, notation, axiom, sorry.
-/
import Derived.Test.YbulkaxjcFmtRows
import GoSem.ClaimSeven
namespace Go.Proofs.YbulkaxjcFmt
namespace Rows

/-- THE TOLD CARD OF 'freshet.LawS2433AScript'. -/
def lawS2433AScriptCard : Claim7 := { stood := { row := lawS2433AScriptRow, standIns := [], harness := (true, "c2ea17fbc7b7ef99b09c0ac9c356786a6f55b10b50fbda722726c97a3506079a"), looks := true }, told := true, goes := false }
def LawS2433AScriptToldSaid : Prop := Claim7.holds Ybaf.pinned (.plain (OpenSpec.ofChange lawS2433AScriptSpec)) lawS2433AScriptCard
/-- ITS FALSE NEIGHBOUR. Refute it at one input. -/
def LawS2433AScriptToldWrongFalsely : Prop := Claim7.holds Ybaf.pinned (.plain (OpenSpec.ofChange lawS2433AScriptWrong)) lawS2433AScriptCard
end Rows
end Go.Proofs.YbulkaxjcFmt
