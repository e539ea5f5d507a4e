/-
  OURS. fmt.Errorf at this program's one format (the stop fmt.errorf, function 15, gives some text): a new *errors.errorString (type 57; its block of type 59). errors.New: likewise.
-/
import Derived.Test.YbulkaxjcFmtChecked
import Derived.WalkKit
import Derived.WalkSpells
import Derived.Stop.CallBack
import Derived.Stop.IfaceNil
namespace Go.Proofs.YbulkaxjcFmt
open Go.RowKit Go.Extern.Stop Go.Stop Go.Extern

theorem call15 (args : Array Value) (w : World) : (callFunc 15 args).run Ybaf.prog w = ((FmtStop.errorf #[9, 62] #[51] args).run Ybaf.prog w).andThen fun v w' => .ok (.value v) w' :=
  run_callFunc_extern Ybaf.func15 (by kernel_rfl) (by kernel_rfl) (by kernel_rfl) (by kernel_rfl) args w
theorem guard (name : String) (w : World) : (FmtStop.guard name).run Ybaf.prog w = .ok () w := by kernel_rfl
def shape9 : List UInt8 := [12, 6, 0, 0, 0, 0, 0, 0, 0, 115, 116, 114, 105, 110, 103]
theorem op9_115w (name : String) (x : ByteArray) (w : World) : (FmtStop.operand name true 115 false (.iface 9 (.string x))).run Ybaf.prog w = .ok (shape9, FmtStop.pack x.data.toList) w := by kernel_rfl
theorem ptr57 (w : World) : (FmtStop.ptrTo "errors.errorString").run Ybaf.prog w = .ok 57 w := by kernel_rfl
theorem elem57 (w : World) : (elemOf 57).run Ybaf.prog w = .ok 59 w := by kernel_rfl
theorem isError57 (w : World) : (FmtDoors.textMethod 57 "Error").run Ybaf.prog w = .ok true w := by kernel_rfl
theorem fmtS : FmtStop.printed? ⟨#[102, 114, 101, 115, 104, 101, 116, 58, 32, 37, 115, 32, 97, 102, 116, 101, 114, 32, 116, 104, 101, 32, 103, 114, 97, 112, 104, 32, 119, 97, 115, 32, 114, 117, 110]⟩ 1 = some [(0, 115, false)] := by kernel_rfl
theorem fmtSr (w : World) : (FmtDoors.printed ⟨#[102, 114, 101, 115, 104, 101, 116, 58, 32, 37, 115, 32, 97, 102, 116, 101, 114, 32, 116, 104, 101, 32, 103, 114, 97, 112, 104, 32, 119, 97, 115, 32, 114, 117, 110]⟩ 1).run Ybaf.prog w = .ok [(0, 115, false)] w := by kernel_rfl
attribute [local go_sem] call15 guard op9_115w ptr57 elem57 isError57 fmtS fmtSr

set_option maxHeartbeats 800000 in
theorem errorf11 (F : Interp) (s : ByteArray) (blk : Nat) (w : World) (hF : F.answers w.tape)
    (hc0 : w.cell? ⟨blk, 0, none⟩ = some (.iface 9 (.string s))) :
    Calls Ybaf.prog 11 #[.string ⟨#[102, 114, 101, 115, 104, 101, 116, 58, 32, 37, 115, 32, 97, 102, 116, 101, 114, 32, 116, 104, 101, 32, 103, 114, 97, 112, 104, 32, 119, 97, 115, 32, 114, 117, 110]⟩, .slice (some ⟨blk, 0, none⟩) 1 1] w fun e w' =>
      e = .returned (.iface 57 (.pointer (some ⟨w.heap.size, 0, none⟩))) ∧ ∃ t, w' = (w.alloc (.cells #[.string t] 59)).drew := by
  have hF' := answers_open hF
  go_enter Ybaf.func11, Ybaf.ntmps11
  go_wp2
  go_ret
  exact ⟨rfl, _, rfl⟩

set_option maxHeartbeats 400000 in
theorem new5 (s : ByteArray) (w : World) :
    Calls Ybaf.prog 5 #[.string s] w fun e w' =>
      e = .returned (.iface 57 (.pointer (some ⟨w.heap.size, 0, none⟩))) ∧ w' = w.alloc (.cells #[.string s] 59) := by
  go_enter Ybaf.func5, Ybaf.ntmps5
  go_wp2
  go_ret
  exact ⟨rfl, rfl⟩

end Go.Proofs.YbulkaxjcFmt
