/-
  No cell of these rows narrows 'for every input' (looked for: loops, veiled, ifaces, maps, wideKeys, modest, calm, conditions, laid).
  DERIVED. THE GIVEN ROWS OF THIS SEAT. 1 by the template 'for every input the law returns true; each argument reads behind the call as it read before'; 0 by the template 'total and deterministic' (their statements: YbulkaxjcTotals.lean).
  GIVEN WITH THE SEED: the statements are not yours to turn. If you find one false, say at which input.
  Laid BY PROGRAM, IN A SANDBOX (cutbox-rows.mjs): the forced cells as the released guide's own fill.sh prints them over the translation 36b5a8003cadfef3… (all of the seat's roots in one cut). By AI agents, Wed Nov 11 2026. No macro, syntax, notation, axiom, sorry.
-/
import Derived.Test.YbulkaxjcChecked
import GoSem.Claim
import GoSem.ClaimJoined
import GoSem.ClaimMapViews
import Derived.JoinedTies
import Derived.KernelRfl
namespace Go.Proofs.Ybulkaxjc
/- THE CELL 'sum', in the pinned program and in every row, IS THE sha256 OF THE DUMP (.gsa) THAT YbulkaxjcProg.lean LOADS. Nothing in Lean hashes anything: it is a label: what it is worth is what the hold of that sum in a sandbox is worth. -/
noncomputable def Yba.pinned : Pinned := { name := "ybulkaxjc", sum := "36b5a8003cadfef352fd90b04bac34f2d427961c548762b71c5b79bed6a22666", checked := Yba.checked }
namespace Rows
def none {H : Type} : Left H := { results := [], args := [] }

/-- 'freshet.LawS2433BAcks': WHATEVER THE INPUT: true; the input reads as it did. -/
def lawS2433BAcksSpec : ChangeSpec := { name := "lawS2433BAcks", fn := fun _ => fun
  | [d1, d2, d3, d4, d5, d6] => { results := [.lit (.bool true)], args := [d1, d2, d3, d4, d5, d6] }
  | _ => none }
def lawS2433BAcksRow : OpenClaim := { program := "ybulkaxjc", sum := "36b5a8003cadfef352fd90b04bac34f2d427961c548762b71c5b79bed6a22666", func := "example.com/freshet/freshet.LawS2433BAcks", spec := "lawS2433BAcks", inPlace := ["sync/atomic.StoreUint64", "sync/atomic.StoreUint32", "sync/atomic.AddUint64", "sync/atomic.LoadUint32", "sync/atomic.SwapUint32", "sync/atomic.LoadInt32", "sync/atomic.CompareAndSwapInt32", "sync/atomic.AddInt64", "sync/atomic.LoadUint64"], unfollowed := true, recurses := true, apart := false }
def LawS2433BAcksSaid : Prop := lawS2433BAcksRow.holds Yba.pinned (OpenSpec.ofChange lawS2433BAcksSpec)

/-- ITS FALSE NEIGHBOUR: 'it returns false'. Refute it at one input. -/
def lawS2433BAcksWrong : ChangeSpec := { name := "lawS2433BAcks", fn := fun _ => fun
  | [d1, d2, d3, d4, d5, d6] => { results := [.lit (.bool false)], args := [d1, d2, d3, d4, d5, d6] }
  | _ => none }
def LawS2433BAcksWrongFalsely : Prop := lawS2433BAcksRow.holds Yba.pinned (OpenSpec.ofChange lawS2433BAcksWrong)

end Rows
end Go.Proofs.Ybulkaxjc
