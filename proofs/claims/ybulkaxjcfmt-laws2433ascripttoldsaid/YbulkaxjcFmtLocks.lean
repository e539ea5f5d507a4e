/-
  OURS. The locks of this program: sync.Mutex's Lock and Unlock by the kit's contracts (Derived/Conc/MuLone.lean), TryLock walked here at a free lock.
-/
import Derived.Test.YbulkaxjcFmtRows
import Derived.Conc.MuLone
import Derived.WalkKit
import Derived.WalkSpells
import Derived.Handy
import Derived.KernelRfl
namespace Go.Proofs.YbulkaxjcFmt
open Go.RowKit Go.Conc.Locks

abbrev muLink : MuLink := { lock := 10, unlock := 9, ilock := 14, iunlock := 13, lockSlow := 23, unlockSlow := 22, disable := 16, enable := 17, acquire := 19, relMerge := 20, cas32 := 18, add32 := 21, tMutex := 34, tIMutex := 32, tPMutex := 61, tPIMutex := 64, tPI32 := 66, tUP := 68, tNoCopy := 29, tU32 := 30 }
theorem muLib : MuLib Ybaf.prog muLink :=
  ⟨Ybaf.func10, Ybaf.func9, Ybaf.func14, Ybaf.func13, Ybaf.func16, Ybaf.func17, Ybaf.func19, Ybaf.func20, Ybaf.func18, Ybaf.func21, Ybaf.underlying32, Ybaf.runUnderlying32, Ybaf.sizeOf32, Ybaf.isAgg32, Ybaf.zeroValue32, Ybaf.underlying34, Ybaf.runUnderlying34, Ybaf.sizeOf34, Ybaf.isAgg34, Ybaf.zeroValue34, Ybaf.underlying61, Ybaf.runUnderlying61, Ybaf.sizeOf61, Ybaf.isAgg61, Ybaf.zeroValue61, Ybaf.underlying64, Ybaf.runUnderlying64, Ybaf.sizeOf64, Ybaf.isAgg64, Ybaf.zeroValue64, Ybaf.underlying66, Ybaf.runUnderlying66, Ybaf.sizeOf66, Ybaf.isAgg66, Ybaf.zeroValue66, Ybaf.underlying68, Ybaf.runUnderlying68, Ybaf.sizeOf68, Ybaf.isAgg68, Ybaf.zeroValue68, Ybaf.underlying29, Ybaf.runUnderlying29, Ybaf.sizeOf29, Ybaf.isAgg29, Ybaf.zeroValue29, Ybaf.underlying21, Ybaf.runUnderlying21, Ybaf.sizeOf21, Ybaf.isAgg21, Ybaf.zeroValue21, (by kernel_rfl)⟩

theorem conv_mutex {a : Addr} {v : Value} {w : World} (hc : w.cell? a = some v) : (convert 64 68 (.pointer (some a))).run Ybaf.prog w = .ok (.pointer (some a)) w := by
  obtain ⟨e, n, hsh, hlt, hsp⟩ := World.shape?_of_cell? hc
  have hge : ¬ (n ≤ a.off) := by omega
  simp [convert, Ybaf.runUnderlying64, Ybaf.runUnderlying68, Result.andThen]
  change Sem.run Ybaf.prog (underlying 64 >>= _) w = _
  simp [Conv.seenAt, viewAt, cellsIn, Ybaf.runUnderlying64, Ybaf.runUnderlying68, Ybaf.sizeOf32, hsh, hge, Result.andThen]

theorem disableM (w : World) : (callFunc 16 #[]).run Ybaf.prog w = .ok (.value (.tuple #[])) w := MuLone.disable muLib w
theorem enableM (w : World) : (callFunc 17 #[]).run Ybaf.prog w = .ok (.value (.tuple #[])) w := MuLone.enable muLib w
theorem acquireM (a : Addr) (w : World) : (callFunc 19 #[.pointer (some a)]).run Ybaf.prog w = .ok (.value (.tuple #[])) w := MuLone.acquire muLib a w

set_option maxRecDepth 100000 in
set_option maxHeartbeats 1600000 in
/-- The inner TryLock at a free lock: it takes it and answers true. -/
theorem itry12 (a : Addr) (w : World) (hc : w.cell? a = some (.int .i32 0)) (hz : w.frozen? a = false) :
    Calls Ybaf.prog 12 #[.pointer (some a)] w fun e w' => e = .returned (.bool true) ∧ w' = w.setCell a (.int .i32 1) := by
  have hd := disableM
  have he := enableM
  have ha := acquireM
  have hcas := run_call_cas_hit (P := Ybaf.prog) Ybaf.func18 (by kernel_rfl) (by kernel_rfl) (by kernel_rfl) .i32 (by kernel_rfl) (y := 1) hc hz
  have hc' : (w.setCell a (.int .i32 1)).cell? a = some (.int .i32 1) := by simp [go_sem, hc]
  have hcv := conv_mutex hc'
  go_enter Ybaf.func12, Ybaf.ntmps12
  go_wp2
  go_ret
  exact ⟨rfl, rfl⟩

set_option maxHeartbeats 800000 in
theorem try8 (a : Addr) (w : World) (hc : w.cell? a = some (.int .i32 0)) (hz : w.frozen? a = false) :
    Calls Ybaf.prog 8 #[.pointer (some a)] w fun e w' => e = .returned (.bool true) ∧ w' = w.setCell a (.int .i32 1) := by
  go_enter Ybaf.func8, Ybaf.ntmps8
  go_wp
  refine (itry12 a w hc hz).mono ?_
  rintro e w' ⟨rfl, rfl⟩
  go_wp2
  go_ret
  exact ⟨rfl, rfl⟩

theorem lock10 (a : Addr) (w : World) (hc : w.cell? a = some (.int .i32 0)) (hz : w.frozen? a = false) :
    Calls Ybaf.prog 10 #[.pointer (some a)] w fun e w' => e = .returned (.tuple #[]) ∧ w' = w.setCell a (.int .i32 1) := MuLone.lock_free muLib a w hc hz
theorem unlock9 (a : Addr) (w : World) (hc : w.cell? a = some (.int .i32 1)) (hz : w.frozen? a = false) :
    Calls Ybaf.prog 9 #[.pointer (some a)] w fun e w' => e = .returned (.tuple #[]) ∧ w' = w.setCell a (.int .i32 0) := MuLone.unlock_held muLib a w hc hz
theorem unlock9d (a : Addr) (u : FrameMode) (w : World) (hc : w.cell? a = some (.int .i32 1)) (hz : w.frozen? a = false) :
    CallsD Ybaf.prog 9 #[.pointer (some a)] u w fun e u' w' => u' = u ∧ (e = .returned (.tuple #[]) ∧ w' = w.setCell a (.int .i32 0)) := MuLone.unlock_deferred muLib a u w hc hz

end Go.Proofs.YbulkaxjcFmt
