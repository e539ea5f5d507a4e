/-
  THE CONTRACT of the project's own (*Input[int]).release (function 6), at an input whose inlet is the law's stand-in.
-/
import Derived.Test.YbulkaxjcParts
namespace Go.Proofs.Ybulkaxjc
namespace Acks
open Go.RowKit

/-- The inlet's block behind one call of ackLink. -/
def Called (sb : Nat) (lp : Option Addr) (from_ : Int) (w w' : World) : Prop :=
  ∃ g cap, w'.heap[sb]? = some (.cells #[.pointer lp, .slice (some ⟨g, 0, none⟩) 1 cap] 63 (0, 0)) ∧ w'.cell? ⟨g, 0, none⟩ = some (.int .i64 from_) ∧ w.heap.size ≤ g ∧ w.grownBy w' (some sb)

theorem lt_of_heap {w : World} {k : Nat} {o : Obj} (h : w.heap[k]? = some o) : k < w.heap.size := by
  rcases Nat.lt_or_ge k w.heap.size with h' | h'
  · exact h'
  · simp [Array.getElem?_eq_none h'] at h
theorem Called.keeps {sb : Nat} {lp : Option Addr} {f : Int} {w w' : World} (h : Called sb lp f w w') {k : Nat} {o : Obj} (hk : w.heap[k]? = some o) (hne : ¬ k = sb) : w'.heap[k]? = some o := by
  obtain ⟨g, cap, _, _, _, hg⟩ := h
  rw [hg.block k (lt_of_heap hk) (by simpa using hne)]
  exact hk

set_option maxHeartbeats 1000000 in
/-- No link: the inlet is asked once, nothing else happens. -/
theorem release_none (ib sb bb : Nat) (from_ v : Int) (taken : Bool) (w : World)
    (hI : w.heap[ib]? = some (.cells #[.pointer (some ⟨bb, 0, none⟩), .string ⟨#[]⟩, .bool false, .iface 60 (.pointer (some ⟨sb, 0, none⟩)), .int .i64 (-1), .bool taken, .int .i64 from_, .int .i64 v] 70 (0, 0)))
    (hS : w.heap[sb]? = some (.cells #[.pointer none, .slice none 0 0] 63 (0, 0))) :
    Calls Yba.prog 6 #[.pointer (some ⟨ib, 0, none⟩)] w fun e w' => e = .returned (.tuple #[]) ∧ Called sb none from_ w.drew w' := by
  have c3 : w.cell? ⟨ib, 3, none⟩ = some (.iface 60 (.pointer (some ⟨sb, 0, none⟩))) := Lib.cell_of_heap hI 3
  have c6 : w.cell? ⟨ib, 6, none⟩ = some (.int .i64 from_) := Lib.cell_of_heap hI 6
  have H1 : Hid (Calls Yba.prog 48 #[.pointer (some ⟨sb, 0, none⟩), .int .i64 from_] w.drew fun e w' => e = .returned (.pointer none) ∧ Called sb none from_ w.drew w') := ackLink48 sb none from_ w.drew hS
  clear hI hS
  go_enter Yba.func6, Yba.ntmps6
  go_wp2
  go_region_with (go_at_call 48; refine H1.out.mono ?_; rintro e w' ⟨rfl, hc⟩)
  all_goals (try go_wp2)
  all_goals (go_end0; exact ⟨rfl, by assumption⟩)

set_option maxHeartbeats 1000000 in
/-- A link whose producer does not wait. -/
theorem release_no (ib sb bb lb nb : Nat) (from_ v x : Int) (taken : Bool) (w : World)
    (hI : w.heap[ib]? = some (.cells #[.pointer (some ⟨bb, 0, none⟩), .string ⟨#[]⟩, .bool false, .iface 60 (.pointer (some ⟨sb, 0, none⟩)), .int .i64 (-1), .bool taken, .int .i64 from_, .int .i64 v] 70 (0, 0)))
    (hS : w.heap[sb]? = some (.cells #[.pointer (some ⟨lb, 0, none⟩), .slice none 0 0] 63 (0, 0))) (hL : w.heap[lb]? = some (lnk nb x false)) (hls : ¬ lb = sb) (his : ¬ ib = sb) :
    Calls Yba.prog 6 #[.pointer (some ⟨ib, 0, none⟩)] w fun e w' => e = .returned (.tuple #[]) ∧ ∃ w1, Called sb (some ⟨lb, 0, none⟩) from_ w.drew w1 ∧ w' = w1.setCell ⟨lb, 7, none⟩ (.int .u64 (IntKind.u64.wrap (x + 1))) := by
  have c3 : w.cell? ⟨ib, 3, none⟩ = some (.iface 60 (.pointer (some ⟨sb, 0, none⟩))) := Lib.cell_of_heap hI 3
  have c6 : w.cell? ⟨ib, 6, none⟩ = some (.int .i64 from_) := Lib.cell_of_heap hI 6
  have H1 : Hid (Calls Yba.prog 48 #[.pointer (some ⟨sb, 0, none⟩), .int .i64 from_] w.drew fun e w' => e = .returned (.pointer (some ⟨lb, 0, none⟩)) ∧ Called sb (some ⟨lb, 0, none⟩) from_ w.drew w') := ackLink48 sb _ from_ w.drew hS
  have HI : Hid (∀ w1, Called sb (some ⟨lb, 0, none⟩) from_ w.drew w1 → w1.cell? ⟨ib, 0, none⟩ = some (.pointer (some ⟨bb, 0, none⟩))) := fun w1 h1 => Lib.cell_of_heap (h1.keeps (w := w.drew) hI his) 0
  have HA : Hid (∀ w1, Called sb (some ⟨lb, 0, none⟩) from_ w.drew w1 → Calls Yba.prog 12 #[.pointer (some ⟨lb, 0, none⟩), .pointer (some ⟨bb, 0, none⟩)] w1 fun e w' => e = .returned (.tuple #[]) ∧ w' = w1.setCell ⟨lb, 7, none⟩ (.int .u64 (IntKind.u64.wrap (x + 1)))) := fun w1 h1 => ack12_no lb nb x _ w1 (h1.keeps (w := w.drew) hL hls)
  clear hI hS hL
  go_enter Yba.func6, Yba.ntmps6
  go_wp2
  go_region_with (go_at_call 48; refine H1.out.mono ?_; rintro e w' ⟨rfl, hc⟩; have ci := HI.out _ hc)
  all_goals
    go_wp2_with fail
    refine (HA.out _ (by assumption)).mono ?_
    rintro e w2 ⟨rfl, rfl⟩
    go_wp2
    go_end0
    refine ⟨rfl, _, ?_, rfl⟩
    assumption

set_option maxHeartbeats 1000000 in
/-- A link whose producer waits. -/
theorem release_yes (ib sb bb lb nb pb : Nat) (from_ v x : Int) (taken : Bool) (w : World)
    (hI : w.heap[ib]? = some (.cells #[.pointer (some ⟨bb, 0, none⟩), .string ⟨#[]⟩, .bool false, .iface 60 (.pointer (some ⟨sb, 0, none⟩)), .int .i64 (-1), .bool taken, .int .i64 from_, .int .i64 v] 70 (0, 0)))
    (hS : w.heap[sb]? = some (.cells #[.pointer (some ⟨lb, 0, none⟩), .slice none 0 0] 63 (0, 0))) (hL : w.heap[lb]? = some (lnk nb x true)) (hls : ¬ lb = sb) (his : ¬ ib = sb) (hln : ¬ lb = nb) (hlp : ¬ lb = pb) (hns : ¬ nb = sb) (hps : ¬ pb = sb)
    {cn : Array Value} (hN : w.heap[nb]? = some (.cells cn 49 (0, 0))) (hN14 : cn[14]? = some (.iface 23 (.pointer (some ⟨pb, 0, none⟩)))) (hP : w.heap[pb]? = some (.cells #[.slice none 0 0] 26 (0, 0))) :
    Calls Yba.prog 6 #[.pointer (some ⟨ib, 0, none⟩)] w fun e w' => e = .returned (.tuple #[]) ∧ ∃ w1, Called sb (some ⟨lb, 0, none⟩) from_ w.drew w1 ∧
      Poked pb (some ⟨bb, 0, none⟩) ((w1.setCell ⟨lb, 7, none⟩ (.int .u64 (IntKind.u64.wrap (x + 1)))).setCell ⟨lb, 10, none⟩ (.int .u32 0)).drew w' := by
  have c3 : w.cell? ⟨ib, 3, none⟩ = some (.iface 60 (.pointer (some ⟨sb, 0, none⟩))) := Lib.cell_of_heap hI 3
  have c6 : w.cell? ⟨ib, 6, none⟩ = some (.int .i64 from_) := Lib.cell_of_heap hI 6
  have H1 : Hid (Calls Yba.prog 48 #[.pointer (some ⟨sb, 0, none⟩), .int .i64 from_] w.drew fun e w' => e = .returned (.pointer (some ⟨lb, 0, none⟩)) ∧ Called sb (some ⟨lb, 0, none⟩) from_ w.drew w') := ackLink48 sb _ from_ w.drew hS
  have HI : Hid (∀ w1, Called sb (some ⟨lb, 0, none⟩) from_ w.drew w1 → w1.cell? ⟨ib, 0, none⟩ = some (.pointer (some ⟨bb, 0, none⟩))) := fun w1 h1 => Lib.cell_of_heap (h1.keeps (w := w.drew) hI his) 0
  have HA : Hid (∀ w1, Called sb (some ⟨lb, 0, none⟩) from_ w.drew w1 → Calls Yba.prog 12 #[.pointer (some ⟨lb, 0, none⟩), .pointer (some ⟨bb, 0, none⟩)] w1 fun e w' => e = .returned (.tuple #[]) ∧ Poked pb (some ⟨bb, 0, none⟩) ((w1.setCell ⟨lb, 7, none⟩ (.int .u64 (IntKind.u64.wrap (x + 1)))).setCell ⟨lb, 10, none⟩ (.int .u32 0)).drew w') :=
    fun w1 h1 => ack12_yes lb nb pb x _ w1 (h1.keeps (w := w.drew) hL hls) hln hlp ((Lib.cell_of_heap (h1.keeps (w := w.drew) hN hns) 14).trans hN14) (h1.keeps (w := w.drew) hP hps)
  clear hI hS hL hN hP hN14
  go_enter Yba.func6, Yba.ntmps6
  go_wp2
  go_region_with (go_at_call 48; refine H1.out.mono ?_; rintro e w' ⟨rfl, hc⟩; have ci := HI.out _ hc)
  all_goals
    go_wp2_with fail
    refine (HA.out _ (by assumption)).mono ?_
    rintro e w2 ⟨rfl, hp⟩
    go_wp2
    go_end0
    refine ⟨rfl, _, ?_, hp⟩
    assumption

end Acks
end Go.Proofs.Ybulkaxjc
