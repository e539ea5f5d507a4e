/-
  fmt.Errorf BY ITS CONTRACTS at this dump's five formats: the stop fmt.errorf (function 18) gives some text; what comes back is a new *fmt.wrapError (type 54; its block of type 98) whose second cell is the sentinel.
-/
import Derived.Test.YbulkaxeuFmtChecked
import Derived.WalkKit
import Derived.WalkSpells
import Derived.Stop.CallBack
import Derived.Stop.IfaceNil
namespace Go.Proofs.YbulkaxeuFmt
namespace Att
open Go.RowKit Go.Extern.Stop Go.Stop Go.Extern

theorem call18 (args : Array Value) (w : World) : (callFunc 18 args).run Ybaf.prog w = ((FmtStop.errorf #[9, 52] #[32] args).run Ybaf.prog w).andThen fun v w' => .ok (.value v) w' :=
  run_callFunc_extern Ybaf.func18 (by kernel_rfl) (by kernel_rfl) (by kernel_rfl) (by kernel_rfl) args w
theorem guard (name : String) (w : World) : (FmtStop.guard name).run Ybaf.prog w = .ok () w := by kernel_rfl
def shape9 : List UInt8 := [12, 6, 0, 0, 0, 0, 0, 0, 0, 115, 116, 114, 105, 110, 103]
theorem op9_115w (name : String) (x : ByteArray) (w : World) : (FmtStop.operand name true 115 false (.iface 9 (.string x))).run Ybaf.prog w = .ok (shape9, FmtStop.pack x.data.toList) w := by kernel_rfl
theorem op9_113w (name : String) (x : ByteArray) (w : World) : (FmtStop.operand name true 113 false (.iface 9 (.string x))).run Ybaf.prog w = .ok (shape9, FmtStop.pack x.data.toList) w := by kernel_rfl
theorem ptr70 (w : World) : (FmtStop.ptrTo "errors.errorString").run Ybaf.prog w = .ok 70 w := by kernel_rfl
theorem elem70 (w : World) : (elemOf 70).run Ybaf.prog w = .ok 72 w := by kernel_rfl
theorem isError70 (w : World) : (FmtDoors.textMethod 70 "Error").run Ybaf.prog w = .ok true w := by kernel_rfl
theorem opPlain70_119w (name : String) (a : Addr) (s : ByteArray) (w : World) (hc : w.cell? a = some (.string s)) :
    ∃ r : List UInt8, (FmtStop.operand name true 119 false (.iface 70 (.pointer (some a)))).run Ybaf.prog w = .ok (r, s.data.toList) w := by
  refine ⟨14 :: FmtStop.pack Ybaf.t70.str.toUTF8.data.toList, ?_⟩
  have h1 : (typeStr 70).run Ybaf.prog w = .ok Ybaf.t70.str w := by kernel_rfl
  have d2 : Ybaf.t70.desc = .pointer 72 := rfl
  have d3 : Ybaf.t72.desc = .named "errors.errorString" 71 := rfl
  simp [FmtStop.operand, h1, d2, d3, run_load, hc]
theorem ptr54 (w : World) : (FmtStop.ptrTo "fmt.wrapError").run Ybaf.prog w = .ok 54 w := by kernel_rfl
theorem elem54 (w : World) : (elemOf 54).run Ybaf.prog w = .ok 98 w := by kernel_rfl
theorem isError54 (w : World) : (FmtDoors.textMethod 54 "Error").run Ybaf.prog w = .ok true w := by kernel_rfl

theorem fmtA : FmtStop.printed? ⟨#[37, 119, 58, 32, 37, 115, 58, 32, 97, 32, 110, 117, 109, 98, 101, 114, 32, 116, 97, 107, 101, 115, 32, 111, 110, 101, 32, 103, 115, 109, 45, 115, 117, 98, 32, 111, 114, 32, 111, 110, 101, 32, 109, 97, 112, 45, 116, 111]⟩ 2 = some [(0, 119, false), (1, 115, false)] := by kernel_rfl
theorem fmtAr (w : World) : (FmtDoors.printed ⟨#[37, 119, 58, 32, 37, 115, 58, 32, 97, 32, 110, 117, 109, 98, 101, 114, 32, 116, 97, 107, 101, 115, 32, 111, 110, 101, 32, 103, 115, 109, 45, 115, 117, 98, 32, 111, 114, 32, 111, 110, 101, 32, 109, 97, 112, 45, 116, 111]⟩ 2).run Ybaf.prog w = .ok [(0, 119, false), (1, 115, false)] w := by kernel_rfl
theorem fmtB : FmtStop.printed? ⟨#[37, 119, 58, 32, 109, 97, 112, 45, 116, 111, 32, 119, 105, 116, 104, 32, 110, 111, 32, 110, 117, 109, 98, 101, 114]⟩ 1 = some [(0, 119, false)] := by kernel_rfl
theorem fmtBr (w : World) : (FmtDoors.printed ⟨#[37, 119, 58, 32, 109, 97, 112, 45, 116, 111, 32, 119, 105, 116, 104, 32, 110, 111, 32, 110, 117, 109, 98, 101, 114]⟩ 1).run Ybaf.prog w = .ok [(0, 119, false)] w := by kernel_rfl
theorem fmtC : FmtStop.printed? ⟨#[37, 119, 58, 32, 109, 97, 112, 45, 116, 111, 32, 37, 113, 58, 32, 119, 97, 110, 116, 32, 116, 101, 110, 32, 100, 105, 103, 105, 116, 115, 44, 32, 111, 114, 32, 102, 111, 117, 114, 32, 97, 102, 116, 101, 114, 32, 97, 32, 115, 117, 102, 102, 105, 120]⟩ 2 = some [(0, 119, false), (1, 113, false)] := by kernel_rfl
theorem fmtCr (w : World) : (FmtDoors.printed ⟨#[37, 119, 58, 32, 109, 97, 112, 45, 116, 111, 32, 37, 113, 58, 32, 119, 97, 110, 116, 32, 116, 101, 110, 32, 100, 105, 103, 105, 116, 115, 44, 32, 111, 114, 32, 102, 111, 117, 114, 32, 97, 102, 116, 101, 114, 32, 97, 32, 115, 117, 102, 102, 105, 120]⟩ 2).run Ybaf.prog w = .ok [(0, 119, false), (1, 113, false)] w := by kernel_rfl
theorem fmtD : FmtStop.printed? ⟨#[37, 119, 58, 32, 37, 115, 32, 116, 119, 105, 99, 101]⟩ 2 = some [(0, 119, false), (1, 115, false)] := by kernel_rfl
theorem fmtDr (w : World) : (FmtDoors.printed ⟨#[37, 119, 58, 32, 37, 115, 32, 116, 119, 105, 99, 101]⟩ 2).run Ybaf.prog w = .ok [(0, 119, false), (1, 115, false)] w := by kernel_rfl
theorem fmtE : FmtStop.printed? ⟨#[37, 119, 58, 32, 117, 110, 107, 110, 111, 119, 110, 32, 97, 116, 116, 114, 105, 98, 117, 116, 101, 32, 37, 113]⟩ 2 = some [(0, 119, false), (1, 113, false)] := by kernel_rfl
theorem fmtEr (w : World) : (FmtDoors.printed ⟨#[37, 119, 58, 32, 117, 110, 107, 110, 111, 119, 110, 32, 97, 116, 116, 114, 105, 98, 117, 116, 101, 32, 37, 113]⟩ 2).run Ybaf.prog w = .ok [(0, 119, false), (1, 113, false)] w := by kernel_rfl
attribute [local go_sem] call18 guard op9_115w op9_113w ptr70 elem70 isError70 ptr54 elem54 isError54 fmtA fmtAr fmtB fmtBr fmtC fmtCr fmtD fmtDr fmtE fmtEr

set_option maxHeartbeats 800000 in
theorem errorfA (F : Interp) (a0 : Addr) (s0 s : ByteArray) (blk : Nat) (w : World) (hF : F.answers w.tape)
    (hc0 : w.cell? ⟨blk, 0, none⟩ = some (.iface 70 (.pointer (some a0)))) (hc1 : w.cell? ⟨blk, 1, none⟩ = some (.iface 9 (.string s))) (hs0 : w.cell? a0 = some (.string s0)) :
    Calls Ybaf.prog 12 #[.string ⟨#[37, 119, 58, 32, 37, 115, 58, 32, 97, 32, 110, 117, 109, 98, 101, 114, 32, 116, 97, 107, 101, 115, 32, 111, 110, 101, 32, 103, 115, 109, 45, 115, 117, 98, 32, 111, 114, 32, 111, 110, 101, 32, 109, 97, 112, 45, 116, 111]⟩, .slice (some ⟨blk, 0, none⟩) 2 2] w fun e w' =>
      e = .returned (.iface 54 (.pointer (some ⟨w.heap.size, 0, none⟩))) ∧ ∃ t, w' = (w.alloc (.cells #[.string t, .iface 70 (.pointer (some a0))] 98)).drew := by
  have hF' := answers_open hF
  obtain ⟨r0, hop⟩ := opPlain70_119w "fmt.errorf" a0 s0 w hs0
  go_enter Ybaf.func12, Ybaf.ntmps12
  go_wp2
  go_ret
  exact ⟨rfl, _, rfl⟩

set_option maxHeartbeats 800000 in
theorem errorfB (F : Interp) (a0 : Addr) (s0 : ByteArray) (blk : Nat) (w : World) (hF : F.answers w.tape)
    (hc0 : w.cell? ⟨blk, 0, none⟩ = some (.iface 70 (.pointer (some a0)))) (hs0 : w.cell? a0 = some (.string s0)) :
    Calls Ybaf.prog 12 #[.string ⟨#[37, 119, 58, 32, 109, 97, 112, 45, 116, 111, 32, 119, 105, 116, 104, 32, 110, 111, 32, 110, 117, 109, 98, 101, 114]⟩, .slice (some ⟨blk, 0, none⟩) 1 1] w fun e w' =>
      e = .returned (.iface 54 (.pointer (some ⟨w.heap.size, 0, none⟩))) ∧ ∃ t, w' = (w.alloc (.cells #[.string t, .iface 70 (.pointer (some a0))] 98)).drew := by
  have hF' := answers_open hF
  obtain ⟨r0, hop⟩ := opPlain70_119w "fmt.errorf" a0 s0 w hs0
  go_enter Ybaf.func12, Ybaf.ntmps12
  go_wp2
  go_ret
  exact ⟨rfl, _, rfl⟩

set_option maxHeartbeats 800000 in
theorem errorfC (F : Interp) (a0 : Addr) (s0 s : ByteArray) (blk : Nat) (w : World) (hF : F.answers w.tape)
    (hc0 : w.cell? ⟨blk, 0, none⟩ = some (.iface 70 (.pointer (some a0)))) (hc1 : w.cell? ⟨blk, 1, none⟩ = some (.iface 9 (.string s))) (hs0 : w.cell? a0 = some (.string s0)) :
    Calls Ybaf.prog 12 #[.string ⟨#[37, 119, 58, 32, 109, 97, 112, 45, 116, 111, 32, 37, 113, 58, 32, 119, 97, 110, 116, 32, 116, 101, 110, 32, 100, 105, 103, 105, 116, 115, 44, 32, 111, 114, 32, 102, 111, 117, 114, 32, 97, 102, 116, 101, 114, 32, 97, 32, 115, 117, 102, 102, 105, 120]⟩, .slice (some ⟨blk, 0, none⟩) 2 2] w fun e w' =>
      e = .returned (.iface 54 (.pointer (some ⟨w.heap.size, 0, none⟩))) ∧ ∃ t, w' = (w.alloc (.cells #[.string t, .iface 70 (.pointer (some a0))] 98)).drew := by
  have hF' := answers_open hF
  obtain ⟨r0, hop⟩ := opPlain70_119w "fmt.errorf" a0 s0 w hs0
  go_enter Ybaf.func12, Ybaf.ntmps12
  go_wp2
  go_ret
  exact ⟨rfl, _, rfl⟩

set_option maxHeartbeats 800000 in
theorem errorfD (F : Interp) (a0 : Addr) (s0 s : ByteArray) (blk : Nat) (w : World) (hF : F.answers w.tape)
    (hc0 : w.cell? ⟨blk, 0, none⟩ = some (.iface 70 (.pointer (some a0)))) (hc1 : w.cell? ⟨blk, 1, none⟩ = some (.iface 9 (.string s))) (hs0 : w.cell? a0 = some (.string s0)) :
    Calls Ybaf.prog 12 #[.string ⟨#[37, 119, 58, 32, 37, 115, 32, 116, 119, 105, 99, 101]⟩, .slice (some ⟨blk, 0, none⟩) 2 2] w fun e w' =>
      e = .returned (.iface 54 (.pointer (some ⟨w.heap.size, 0, none⟩))) ∧ ∃ t, w' = (w.alloc (.cells #[.string t, .iface 70 (.pointer (some a0))] 98)).drew := by
  have hF' := answers_open hF
  obtain ⟨r0, hop⟩ := opPlain70_119w "fmt.errorf" a0 s0 w hs0
  go_enter Ybaf.func12, Ybaf.ntmps12
  go_wp2
  go_ret
  exact ⟨rfl, _, rfl⟩

set_option maxHeartbeats 800000 in
theorem errorfE (F : Interp) (a0 : Addr) (s0 s : ByteArray) (blk : Nat) (w : World) (hF : F.answers w.tape)
    (hc0 : w.cell? ⟨blk, 0, none⟩ = some (.iface 70 (.pointer (some a0)))) (hc1 : w.cell? ⟨blk, 1, none⟩ = some (.iface 9 (.string s))) (hs0 : w.cell? a0 = some (.string s0)) :
    Calls Ybaf.prog 12 #[.string ⟨#[37, 119, 58, 32, 117, 110, 107, 110, 111, 119, 110, 32, 97, 116, 116, 114, 105, 98, 117, 116, 101, 32, 37, 113]⟩, .slice (some ⟨blk, 0, none⟩) 2 2] w fun e w' =>
      e = .returned (.iface 54 (.pointer (some ⟨w.heap.size, 0, none⟩))) ∧ ∃ t, w' = (w.alloc (.cells #[.string t, .iface 70 (.pointer (some a0))] 98)).drew := by
  have hF' := answers_open hF
  obtain ⟨r0, hop⟩ := opPlain70_119w "fmt.errorf" a0 s0 w hs0
  go_enter Ybaf.func12, Ybaf.ntmps12
  go_wp2
  go_ret
  exact ⟨rfl, _, rfl⟩

end Att
end Go.Proofs.YbulkaxeuFmt
