/-
  CONTRACTS of the law's stand-in (*zzs2437aexpr).num and of the project's own (*numRelation).holds, at the memory that the laws lay.
-/
import Derived.Test.YbulkaxlgChecked
import Derived.WalkKit
import Derived.WalkSpells
import Derived.WalkLawsBesides
import Derived.Handy
import Derived.Laws.Cover2
import Derived.Deep.QuietTactic
import Derived.BigQuiet
import Derived.RegionTactic
import Derived.Lib.Builder
namespace Go.Proofs.Ybulkaxlg
namespace Rel
open Go.RowKit

set_option maxHeartbeats 1000000 in
/-- (*zzs2437aexpr).num: one call more; the value and the error as they lie. -/
theorem num23 (b a : Nat) (err m : Value) (w : World) (c0 : w.cell? ⟨b, 0, none⟩ = some (.float .f64 a)) (c1 : w.cell? ⟨b, 1, none⟩ = some err) (c2 : w.cell? ⟨b, 2, none⟩ = some (.int .i64 0)) (f2 : w.frozen? ⟨b, 2, none⟩ = false) :
    Calls Yba.prog 23 #[.pointer (some ⟨b, 0, none⟩), m] w fun e w' => e = .returned (.tuple #[.float .f64 a, err]) ∧ w' = (w.setCell ⟨b, 2, none⟩ (.int .i64 1)).drew := by
  go_enter Yba.func23, Yba.ntmps23
  go_wp2
  go_region
  all_goals (try go_wp2)
  all_goals (go_ret2; exact ⟨rfl, rfl⟩)

/-- The expression's block. -/
def xpr (a : Nat) (err : Value) (n : Int) : Obj := .cells #[.float .f64 a, err, .int .i64 n] 27 (0, 0)
theorem xpr_called {w : World} {b a : Nat} {err : Value} {n m : Int} (h : w.heap[b]? = some (xpr a err n)) : (w.setCell ⟨b, 2, none⟩ (.int .i64 m)).heap[b]? = some (xpr a err m) := by
  simp [World.setCell, Array.getElem?_modify, h, xpr]

/-- What relation number k says of two numbers. -/
def says (k : Int) (a b : Nat) : Bool :=
  if k = 0 then FloatKind.f64.format.order a b == some .eq
  else if k = 1 then FloatKind.f64.format.order a b != some .eq
  else if k = 2 then FloatKind.f64.format.order a b == some .lt
  else if k = 3 then FloatKind.f64.format.order a b == some .gt
  else if k = 4 then FloatKind.f64.format.order a b == some .lt || FloatKind.f64.format.order a b == some .eq
  else FloatKind.f64.format.order a b == some .gt || FloatKind.f64.format.order a b == some .eq
theorem ret_bool {c d : Bool} (h : c = d) : Ending.returned (.bool c) = .returned (.bool d) := by rw [h]

set_option maxHeartbeats 1000000 in
/-- compare[float64] -/
theorem compare7 (a b : Nat) (k : Int) (hk : k = 0 ∨ k = 1 ∨ k = 2 ∨ k = 3 ∨ k = 4 ∨ k = 5) (w : World) : Calls Yba.prog 7 #[.float .f64 a, .float .f64 b, .int .i64 k] w fun e w' => e = .returned (.bool (says k a b)) ∧ w' = w := by
  rcases hk with rfl | rfl | rfl | rfl | rfl | rfl
  all_goals
    go_enter Yba.func7, Yba.ntmps7
    go_wp2
    go_ret
    exact ⟨ret_bool (by simp [says]), rfl⟩

/-- The relation's block. -/
def rln (xb yb : Nat) (k : Int) : Obj := .cells #[.iface 23 (.pointer (some ⟨xb, 0, none⟩)), .iface 23 (.pointer (some ⟨yb, 0, none⟩)), .int .i64 k] 33 (0, 0)

set_option maxHeartbeats 2000000 in
/-- (*numRelation).holds, neither side in error: each side is asked once; the answer is the relation's. -/
theorem holds_ok (cb xb yb a b : Nat) (k : Int) (m : Value) (hk : k = 0 ∨ k = 1 ∨ k = 2 ∨ k = 3 ∨ k = 4 ∨ k = 5) (w : World) (hC : w.heap[cb]? = some (rln xb yb k)) (hX : w.heap[xb]? = some (xpr a .nilIface 0)) (hY : w.heap[yb]? = some (xpr b .nilIface 0)) (hxy : ¬ yb = xb) (hcx : ¬ cb = xb) (hcy : ¬ cb = yb) :
    Calls Yba.prog 5 #[.pointer (some ⟨cb, 0, none⟩), m] w fun e w' => e = .returned (.tuple #[.bool (says k a b), .nilIface]) ∧ w' = ((w.setCell ⟨xb, 2, none⟩ (.int .i64 1)).setCell ⟨yb, 2, none⟩ (.int .i64 1)).drew.drew := by
  have c0 : w.cell? ⟨cb, 0, none⟩ = some (.iface 23 (.pointer (some ⟨xb, 0, none⟩))) := Lib.cell_of_heap hC 0
  have c1 : w.cell? ⟨cb, 1, none⟩ = some (.iface 23 (.pointer (some ⟨yb, 0, none⟩))) := Lib.cell_of_heap hC 1
  have c2 : w.cell? ⟨cb, 2, none⟩ = some (.int .i64 k) := Lib.cell_of_heap hC 2
  have hY2 : (w.setCell ⟨xb, 2, none⟩ (.int .i64 1)).heap[yb]? = some (xpr b .nilIface 0) := by rw [Below.heap_setCell _ _ _ _ hxy]; exact hY
  have H1 : Hid (Calls Yba.prog 23 #[.pointer (some ⟨xb, 0, none⟩), m] w fun e w' => e = .returned (.tuple #[.float .f64 a, .nilIface]) ∧ w' = (w.setCell ⟨xb, 2, none⟩ (.int .i64 1)).drew) := num23 xb a _ m w (Lib.cell_of_heap hX 0) (Lib.cell_of_heap hX 1) (Lib.cell_of_heap hX 2) (Lib.frozen_of_heap hX 2)
  have H2 : Hid (Calls Yba.prog 23 #[.pointer (some ⟨yb, 0, none⟩), m] (w.setCell ⟨xb, 2, none⟩ (.int .i64 1)).drew fun e w' => e = .returned (.tuple #[.float .f64 b, .nilIface]) ∧ w' = ((w.setCell ⟨xb, 2, none⟩ (.int .i64 1)).drew.setCell ⟨yb, 2, none⟩ (.int .i64 1)).drew) :=
    num23 yb b _ m _ (Lib.cell_of_heap (w := (w.setCell ⟨xb, 2, none⟩ (.int .i64 1)).drew) hY2 0) (Lib.cell_of_heap (w := (w.setCell ⟨xb, 2, none⟩ (.int .i64 1)).drew) hY2 1) (Lib.cell_of_heap (w := (w.setCell ⟨xb, 2, none⟩ (.int .i64 1)).drew) hY2 2) (Lib.frozen_of_heap (w := (w.setCell ⟨xb, 2, none⟩ (.int .i64 1)).drew) hY2 2)
  clear hX hY hY2 hC
  go_enter Yba.func5, Yba.ntmps5
  go_wp2_with fail
  refine H1.out.mono ?_
  rintro e w2 ⟨rfl, rfl⟩
  go_wp2_with fail
  refine H2.out.mono ?_
  rintro e w2 ⟨rfl, rfl⟩
  go_wp2_with fail
  refine (compare7 a b k hk _).mono ?_
  rintro e w2 ⟨rfl, rfl⟩
  go_wp2
  go_ret2
  exact ⟨rfl, rfl⟩

set_option maxHeartbeats 2000000 in
/-- (*numRelation).holds, the left side in error: the right side is not asked. -/
theorem holds_left (cb xb yb a : Nat) (k : Int) (te : TypeId) (ve m : Value) (w : World) (hC : w.heap[cb]? = some (rln xb yb k)) (hX : w.heap[xb]? = some (xpr a (.iface te ve) 0)) :
    Calls Yba.prog 5 #[.pointer (some ⟨cb, 0, none⟩), m] w fun e w' => e = .returned (.tuple #[.bool false, .iface te ve]) ∧ w' = (w.setCell ⟨xb, 2, none⟩ (.int .i64 1)).drew := by
  have c0 : w.cell? ⟨cb, 0, none⟩ = some (.iface 23 (.pointer (some ⟨xb, 0, none⟩))) := Lib.cell_of_heap hC 0
  have H1 : Hid (Calls Yba.prog 23 #[.pointer (some ⟨xb, 0, none⟩), m] w fun e w' => e = .returned (.tuple #[.float .f64 a, .iface te ve]) ∧ w' = (w.setCell ⟨xb, 2, none⟩ (.int .i64 1)).drew) := num23 xb a _ m w (Lib.cell_of_heap hX 0) (Lib.cell_of_heap hX 1) (Lib.cell_of_heap hX 2) (Lib.frozen_of_heap hX 2)
  clear hX hC
  go_enter Yba.func5, Yba.ntmps5
  go_wp2_with fail
  refine H1.out.mono ?_
  rintro e w2 ⟨rfl, rfl⟩
  go_wp2
  go_ret2
  exact ⟨rfl, rfl⟩

set_option maxHeartbeats 2000000 in
/-- (*numRelation).holds, the right side in error. -/
theorem holds_right (cb xb yb a b : Nat) (k : Int) (te : TypeId) (ve m : Value) (w : World) (hC : w.heap[cb]? = some (rln xb yb k)) (hX : w.heap[xb]? = some (xpr a .nilIface 0)) (hY : w.heap[yb]? = some (xpr b (.iface te ve) 0)) (hxy : ¬ yb = xb) :
    Calls Yba.prog 5 #[.pointer (some ⟨cb, 0, none⟩), m] w fun e w' => e = .returned (.tuple #[.bool false, .iface te ve]) ∧ w' = ((w.setCell ⟨xb, 2, none⟩ (.int .i64 1)).setCell ⟨yb, 2, none⟩ (.int .i64 1)).drew.drew := by
  have c0 : w.cell? ⟨cb, 0, none⟩ = some (.iface 23 (.pointer (some ⟨xb, 0, none⟩))) := Lib.cell_of_heap hC 0
  have c1 : w.cell? ⟨cb, 1, none⟩ = some (.iface 23 (.pointer (some ⟨yb, 0, none⟩))) := Lib.cell_of_heap hC 1
  have hY2 : (w.setCell ⟨xb, 2, none⟩ (.int .i64 1)).heap[yb]? = some (xpr b (.iface te ve) 0) := by rw [Below.heap_setCell _ _ _ _ hxy]; exact hY
  have H1 : Hid (Calls Yba.prog 23 #[.pointer (some ⟨xb, 0, none⟩), m] w fun e w' => e = .returned (.tuple #[.float .f64 a, .nilIface]) ∧ w' = (w.setCell ⟨xb, 2, none⟩ (.int .i64 1)).drew) := num23 xb a _ m w (Lib.cell_of_heap hX 0) (Lib.cell_of_heap hX 1) (Lib.cell_of_heap hX 2) (Lib.frozen_of_heap hX 2)
  have H2 : Hid (Calls Yba.prog 23 #[.pointer (some ⟨yb, 0, none⟩), m] (w.setCell ⟨xb, 2, none⟩ (.int .i64 1)).drew fun e w' => e = .returned (.tuple #[.float .f64 b, .iface te ve]) ∧ w' = ((w.setCell ⟨xb, 2, none⟩ (.int .i64 1)).drew.setCell ⟨yb, 2, none⟩ (.int .i64 1)).drew) :=
    num23 yb b _ m _ (Lib.cell_of_heap (w := (w.setCell ⟨xb, 2, none⟩ (.int .i64 1)).drew) hY2 0) (Lib.cell_of_heap (w := (w.setCell ⟨xb, 2, none⟩ (.int .i64 1)).drew) hY2 1) (Lib.cell_of_heap (w := (w.setCell ⟨xb, 2, none⟩ (.int .i64 1)).drew) hY2 2) (Lib.frozen_of_heap (w := (w.setCell ⟨xb, 2, none⟩ (.int .i64 1)).drew) hY2 2)
  clear hX hY hY2 hC
  go_enter Yba.func5, Yba.ntmps5
  go_wp2_with fail
  refine H1.out.mono ?_
  rintro e w2 ⟨rfl, rfl⟩
  go_wp2_with fail
  refine H2.out.mono ?_
  rintro e w2 ⟨rfl, rfl⟩
  go_wp2
  go_ret2
  exact ⟨rfl, rfl⟩

end Rel
end Go.Proofs.Ybulkaxlg
