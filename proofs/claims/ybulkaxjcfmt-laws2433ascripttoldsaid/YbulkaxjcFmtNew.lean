/-
  OURS. NewGraph: a new block for the map, a new one for the graph: free, not started, no mistakes.
-/
import Derived.Test.YbulkaxjcFmtParts
namespace Go.Proofs.YbulkaxjcFmt
open Go.RowKit

def aggCells : Value → Option (Array Value)
  | .agg cs => some cs
  | _ => none
theorem zero49raw : ((Ybaf.prog.info? 49).bind (fun i => i.zero)).bind (fun z => (aggCells z).map (fun cs => (cs.size, cs[0]?, cs[7]?, cs[8]?))) = some (142, some (.int .i32 0), some (.slice none 0 0), some (.bool false)) := by kernel_rfl
theorem zero49 : ∃ cs : Array Value, (∀ w, (zeroValue 49).run Ybaf.prog w = .ok (.agg cs) w) ∧ cs.size = 142 ∧ cs[0]? = some (.int .i32 0) ∧ cs[7]? = some (.slice none 0 0) ∧ cs[8]? = some (.bool false) := by
  have h := zero49raw
  cases hi : Ybaf.prog.info? 49 with
  | none => simp [hi] at h
  | some i =>
    cases hz : i.zero with
    | none => simp [hi, hz] at h
    | some z =>
      cases hc : aggCells z with
      | none => simp [hi, hz, hc] at h
      | some cs =>
        have hzc : z = .agg cs := by unfold aggCells at hc; split at hc <;> simp_all
        subst hzc
        simp [hi, hz, hc] at h
        refine ⟨cs, fun w => by simp [zeroValue, typeInfo, hi, hz], h.1, ?_, ?_, ?_⟩
        · exact h.2.1
        · exact h.2.2.1
        · exact h.2.2.2

set_option maxRecDepth 100000 in
set_option maxHeartbeats 1600000 in
theorem newGraph4 (W : World) : Calls Ybaf.prog 4 #[] W fun e W' => ∃ gb, e = .returned (.pointer (some ⟨gb, 0, none⟩)) ∧ W.heap.size ≤ gb ∧ G W' gb 0 (.slice none 0 0) false ∧ Kept (fun _ => False) W W' := by
  have hmm := @run_makeMap Ybaf.prog
  obtain ⟨cs, hz, hs, h0', h7', h8'⟩ := zero49
  have h0 : Hid (cs[0]? = some (.int .i32 0)) := h0'
  have h7 : Hid (cs[7]? = some (.slice none 0 0)) := h7'
  have h8 : Hid (cs[8]? = some (.bool false)) := h8'
  clear h0' h7' h8'
  go_enter Ybaf.func4, Ybaf.ntmps4
  go_wp2
  go_ret
  refine ⟨_, rfl, ?_, ?_, ?_⟩
  · simp
  · refine ⟨cs.setIfInBounds 4 (.map (some W.heap.size)), ?_, ?_, ?_, ?_⟩
    · have := heap_alloc_new (W.alloc (.map #[] 0)) (.cells (cs.setIfInBounds 4 (.map (some W.heap.size))) 49)
      simpa using this
    · simp [h0.out]
    · simp [h7.out]
    · simp [h8.out]
  · exact ((Kept.refl _ _).alloc _).alloc _

end Go.Proofs.YbulkaxjcFmt
