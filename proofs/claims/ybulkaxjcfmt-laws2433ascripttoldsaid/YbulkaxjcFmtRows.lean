/-
  No cell of these rows narrows 'for every input' (looked for: loops, veiled, ifaces, maps, wideKeys, modest, calm, conditions, laid).
  DERIVED. THE GIVEN ROWS OF THIS SEAT. 1 by the template 'for every input the law returns true; each argument reads behind the call as it read before'; 0 by the template 'total and deterministic' (their statements: YbulkaxjcFmtTotals.lean).
  GIVEN WITH THE SEED: the statements are not yours to turn. If you find one false, say at which input.
  Laid BY PROGRAM, IN A SANDBOX (cutbox-rows.mjs): the forced cells as the released guide's own fill.sh prints them over the translation a59fbeb3e051de58… (all of the seat's roots in one cut). By AI agents, Wed Nov 11 2026. No macro, syntax, notation, axiom, sorry.
-/
import Derived.Test.YbulkaxjcFmtChecked
import GoSem.Claim
import GoSem.ClaimJoined
import GoSem.ClaimMapViews
import Derived.JoinedTies
import Derived.KernelRfl
namespace Go.Proofs.YbulkaxjcFmt
/- THE CELL 'sum', in the pinned program and in every row, IS THE sha256 OF THE DUMP (.gsa) THAT YbulkaxjcFmtProg.lean LOADS. Nothing in Lean hashes anything: it is a label: what it is worth is what the hold of that sum in a sandbox is worth. -/
noncomputable def Ybaf.pinned : Pinned := { name := "ybulkaxjcfmt", sum := "a59fbeb3e051de5800c60381da4cf1cee30168bd8624bb7d7394be2a22acfd8d", checked := Ybaf.checked }
namespace Rows
def none {H : Type} : Left H := { results := [], args := [] }

/-- 'freshet.LawS2433AScript': WHATEVER THE INPUT: true; the input reads as it did. -/
def lawS2433AScriptSpec : ChangeSpec := { name := "lawS2433AScript", fn := fun _ => fun
  | [d] => { results := [.lit (.bool true)], args := [d] }
  | _ => none }
def lawS2433AScriptRow : OpenClaim := { program := "ybulkaxjcfmt", sum := "a59fbeb3e051de5800c60381da4cf1cee30168bd8624bb7d7394be2a22acfd8d", func := "example.com/freshet/freshet.LawS2433AScript", spec := "lawS2433AScript", stops := ["fmt.errorf"], inPlace := ["(*internal/sync.Mutex).Lock", "internal/race.Disable", "sync/atomic.CompareAndSwapInt32", "internal/race.Enable", "internal/race.Acquire", "(*internal/sync.Mutex).lockSlow", "internal/sync.runtime_canSpin", "internal/sync.runtime_doSpin", "internal/sync.throw", "internal/sync.runtime_nanotime", "internal/sync.runtime_SemacquireMutex", "sync/atomic.AddInt32", "(*internal/sync.Mutex).Unlock", "internal/race.ReleaseMerge", "(*internal/sync.Mutex).unlockSlow", "internal/sync.fatal", "internal/sync.runtime_Semrelease", "fmt.errorf", "(*internal/sync.Mutex).TryLock"], unfollowed := true, recurses := true, apart := false }
/-- NO THEOREM (fmt's text is open here; it may be false): for the released tool's asking of the row's closed facts alone. THE STATEMENT IS 'LawS2433AScriptToldSaid' (YbulkaxjcFmtCards.lean). -/
def LawS2433AScriptFormAsk : Prop := lawS2433AScriptRow.holds Ybaf.pinned (OpenSpec.ofChange lawS2433AScriptSpec)

/-- ITS FALSE NEIGHBOUR: 'it returns false'. Refute it at one input. -/
def lawS2433AScriptWrong : ChangeSpec := { name := "lawS2433AScript", fn := fun _ => fun
  | [d] => { results := [.lit (.bool false)], args := [d] }
  | _ => none }
def LawS2433AScriptWrongFormAsk : Prop := lawS2433AScriptRow.holds Ybaf.pinned (OpenSpec.ofChange lawS2433AScriptWrong)

end Rows
end Go.Proofs.YbulkaxjcFmt
