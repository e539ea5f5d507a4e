/-
  CONTRACTS of the methods of sync/atomic that the law comes to, in the run of one goroutine.
-/
import Derived.Test.YbulkaxjcChecked
import Derived.WalkKit
import Derived.WalkSpells
import Derived.Laws.LoneSync
import Derived.RegionCalls
import Derived.Deep.RegionWith
namespace Go.Proofs.Ybulkaxjc
namespace Acks
open Go.RowKit

/-- sync/atomic.SwapT: the number is stored, the old one handed back. -/
theorem run_call_swap {P : Program} {f : FuncId} {fn : Func} (hf : P.funcs[f]? = some fn) (hname : (fn.name == "runtime.NumGoroutine") = false) (hb : fn.body.isNone = true) (hn : Extern.findNext fn = Option.none) (k : IntKind)
    (he : Extern.find fn = some (Extern.Atomic.swapT (.int k))) {a : Addr} {x y : Int} {w : World} (hc : w.cell? a = some (.int k x)) (hz : w.frozen? a = false) :
    (callFunc f #[.pointer (some a), .int k y]).run P w = .ok (.value (.int k x)) (w.setCell a (.int k y)) := by
  rw [run_callFunc_extern hf hname hb hn he]
  change (Sem.run P (do
    let a' ← asAddr (.pointer (some a))
    let old ← Extern.Atomic.read (.int k) a'
    store a' (.int k y) .atomic
    pure old) w).andThen _ = _
  simp [Extern.Atomic.read, asAddr, hc, hz, run_store P w a (.int k y) .atomic rfl, Result.andThen]

theorem store9 {a : Addr} {y : Int} {u : Value} {w : World} (hc : w.cell? a = some u) (hz : w.frozen? a = false) : (callFunc 9 #[.pointer (some a), .int .u64 y]).run Yba.prog w = .ok (.value (.tuple #[])) (w.setCell a (.int .u64 y)) :=
  run_call_store Yba.func9 (by kernel_rfl) (by kernel_rfl) (by kernel_rfl) (by kernel_rfl) hc hz
theorem store10 {a : Addr} {y : Int} {u : Value} {w : World} (hc : w.cell? a = some u) (hz : w.frozen? a = false) : (callFunc 10 #[.pointer (some a), .int .u32 y]).run Yba.prog w = .ok (.value (.tuple #[])) (w.setCell a (.int .u32 y)) :=
  run_call_store Yba.func10 (by kernel_rfl) (by kernel_rfl) (by kernel_rfl) (by kernel_rfl) hc hz
theorem load13 {a : Addr} {x : Int} {w : World} (hc : w.cell? a = some (.int .u64 x)) : (callFunc 13 #[.pointer (some a)]).run Yba.prog w = .ok (.value (.int .u64 x)) w :=
  run_call_load Yba.func13 (by kernel_rfl) (by kernel_rfl) (by kernel_rfl) .u64 (by kernel_rfl) hc
theorem load14 {a : Addr} {x : Int} {w : World} (hc : w.cell? a = some (.int .u32 x)) : (callFunc 14 #[.pointer (some a)]).run Yba.prog w = .ok (.value (.int .u32 x)) w :=
  run_call_load Yba.func14 (by kernel_rfl) (by kernel_rfl) (by kernel_rfl) .u32 (by kernel_rfl) hc
theorem add18 {a : Addr} {x : Int} {w : World} (hc : w.cell? a = some (.int .u64 x)) (hz : w.frozen? a = false) : (callFunc 18 #[.pointer (some a), .int .u64 1]).run Yba.prog w = .ok (.value (.int .u64 (IntKind.u64.wrap (x + 1)))) (w.setCell a (.int .u64 (IntKind.u64.wrap (x + 1)))) :=
  run_call_add Yba.func18 (by kernel_rfl) (by kernel_rfl) (by kernel_rfl) .u64 (by kernel_rfl) hc hz (by simp [go_sem])
theorem swap19 {a : Addr} {x y : Int} {w : World} (hc : w.cell? a = some (.int .u32 x)) (hz : w.frozen? a = false) : (callFunc 19 #[.pointer (some a), .int .u32 y]).run Yba.prog w = .ok (.value (.int .u32 x)) (w.setCell a (.int .u32 y)) :=
  run_call_swap Yba.func19 (by kernel_rfl) (by kernel_rfl) (by kernel_rfl) .u32 (by kernel_rfl) hc hz

/-- (*atomic.Uint64).Store -/
theorem st4 (b o : Nat) (x y : Int) (w : World) (hc : w.cell? ⟨b, o, none⟩ = some (.int .u64 x)) (hz : w.frozen? ⟨b, o, none⟩ = false) :
    Calls Yba.prog 4 #[.pointer (some ⟨b, o, none⟩), .int .u64 y] w fun e w' => e = .returned (.tuple #[]) ∧ w' = w.setCell ⟨b, o, none⟩ (.int .u64 y) := by
  have h := store9 (y := y) hc hz
  go_enter Yba.func4, Yba.ntmps4
  go_wp2
  go_end0
  exact ⟨rfl, rfl⟩

def b2n (b : Bool) : Int := if b then 1 else 0
theorem b32 (v : Bool) (w : World) : Calls Yba.prog 11 #[.bool v] w fun e w' => e = .returned (.int .u32 (b2n v)) ∧ w' = w := by
  cases v
  all_goals
    go_enter Yba.func11, Yba.ntmps11
    go_wp2
    go_ret
    exact ⟨rfl, rfl⟩

/-- (*atomic.Bool).Store -/
theorem st5 (b o : Nat) (x : Int) (v : Bool) (w : World) (hc : w.cell? ⟨b, o, none⟩ = some (.int .u32 x)) (hz : w.frozen? ⟨b, o, none⟩ = false) :
    Calls Yba.prog 5 #[.pointer (some ⟨b, o, none⟩), .bool v] w fun e w' => e = .returned (.tuple #[]) ∧ w' = (w.setCell ⟨b, o, none⟩ (.int .u32 (b2n v))).drew := by
  have h : (callFunc 10 #[.pointer (some ⟨b, o, none⟩), .int .u32 (b2n v)]).run Yba.prog w.drew = .ok (.value (.tuple #[])) (w.setCell ⟨b, o, none⟩ (.int .u32 (b2n v))).drew := store10 (w := w.drew) hc hz
  go_enter Yba.func5, Yba.ntmps5
  go_wp2
  go_region_with (go_at_call 11; refine (b32 v _).mono ?_; rintro e w' ⟨rfl, rfl⟩)
  all_goals (try go_wp2)
  all_goals (go_end0; exact ⟨rfl, rfl⟩)

/-- (*atomic.Uint64).Load -/
theorem ld7 (b o : Nat) (x : Int) (w : World) (hc : w.cell? ⟨b, o, none⟩ = some (.int .u64 x)) :
    Calls Yba.prog 7 #[.pointer (some ⟨b, o, none⟩)] w fun e w' => e = .returned (.int .u64 x) ∧ w' = w := by
  have h := load13 hc
  go_enter Yba.func7, Yba.ntmps7
  go_wp2
  go_ret
  exact ⟨rfl, rfl⟩

/-- (*atomic.Bool).Load -/
theorem ld8 (b o : Nat) (v : Bool) (w : World) (hc : w.cell? ⟨b, o, none⟩ = some (.int .u32 (b2n v))) :
    Calls Yba.prog 8 #[.pointer (some ⟨b, o, none⟩)] w fun e w' => e = .returned (.bool v) ∧ w' = w := by
  have h := load14 hc
  have hv : (b2n v != 0) = v := by cases v <;> rfl
  go_enter Yba.func8, Yba.ntmps8
  go_wp2
  go_ret
  exact ⟨rfl, rfl⟩

/-- (*atomic.Uint64).Add(1) -/
theorem add15 (b o : Nat) (x : Int) (w : World) (hc : w.cell? ⟨b, o, none⟩ = some (.int .u64 x)) (hz : w.frozen? ⟨b, o, none⟩ = false) :
    Calls Yba.prog 15 #[.pointer (some ⟨b, o, none⟩), .int .u64 1] w fun e w' => e = .returned (.int .u64 (IntKind.u64.wrap (x + 1))) ∧ w' = w.setCell ⟨b, o, none⟩ (.int .u64 (IntKind.u64.wrap (x + 1))) := by
  have h := add18 hc hz
  go_enter Yba.func15, Yba.ntmps15
  go_wp2
  go_ret
  exact ⟨rfl, rfl⟩

/-- (*atomic.Bool).Swap(false) -/
theorem swap16 (b o : Nat) (v : Bool) (w : World) (hc : w.cell? ⟨b, o, none⟩ = some (.int .u32 (b2n v))) (hz : w.frozen? ⟨b, o, none⟩ = false) :
    Calls Yba.prog 16 #[.pointer (some ⟨b, o, none⟩), .bool false] w fun e w' => e = .returned (.bool v) ∧ w' = (w.setCell ⟨b, o, none⟩ (.int .u32 0)).drew := by
  have h : (callFunc 19 #[.pointer (some ⟨b, o, none⟩), .int .u32 (b2n false)]).run Yba.prog w.drew = .ok (.value (.int .u32 (b2n v))) (w.setCell ⟨b, o, none⟩ (.int .u32 (b2n false))).drew := swap19 (w := w.drew) hc hz
  have hv : (b2n v != 0) = v := by cases v <;> rfl
  go_enter Yba.func16, Yba.ntmps16
  go_wp2
  go_region_with (go_at_call 11; refine (b32 false _).mono ?_; rintro e w' ⟨rfl, rfl⟩)
  all_goals (try go_wp2)
  all_goals (go_ret; exact ⟨rfl, rfl⟩)

end Acks
end Go.Proofs.Ybulkaxjc
