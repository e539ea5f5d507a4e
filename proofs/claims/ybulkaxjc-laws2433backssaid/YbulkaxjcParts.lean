/-
  CONTRACTS of the law's two stand-ins (the inlet's ackLink, the pool's poke) and of the project's own poke, ack and release, at the memory that the law lays.
-/
import Derived.Test.YbulkaxjcAtomic
import Derived.Handy
import Derived.Lib.Builder
namespace Go.Proofs.Ybulkaxjc
namespace Acks
open Go.RowKit

theorem info3 : (Yba.prog.info? 3).map (fun i => (i.zero, i.size, i.bytes)) = some (some (.int .i64 0), 1, 8) := by kernel_rfl
theorem info27 : (Yba.prog.info? 27).map (fun i => (i.zero, i.size, i.bytes)) = some (some (.pointer none), 1, 8) := by kernel_rfl

/-- A row of one element that the call owns. -/
theorem own_one {w : World} {base : Nat} {e : TypeId} {v x : Value} (h : w.ownsRow base e 1 v 1 [x]) : ∃ g cap cur, v = .slice (some ⟨g, 0, none⟩) 1 cap ∧ base ≤ g ∧ w.heap[g]? = some (.cells cur e (0, 0)) ∧ w.cell? ⟨g, 0, none⟩ = some x := by
  rcases h.2 with ⟨_, h0⟩ | ⟨g, cap, cur, hv, hb, hg, hn, _, hsz, ht⟩
  · cases h0
  · refine ⟨g, cap, cur, hv, hb, hg, ?_⟩
    rw [Lib.cell_of_heap hg 0]
    have h1 : cur.toList[0]? = (cur.toList.take 1)[0]? := by rw [List.getElem?_take_of_lt (by omega)]
    rw [← Array.getElem?_toList, h1]
    simp at ht
    simp [ht]

theorem grown_alloc {w w' : World} {o : Obj} {b : Option Nat} (h : (w.alloc o).grownBy w' b) : w.grownBy w' b :=
  ⟨h.os, h.tape, h.output, Nat.le_trans (by simp) h.size, fun k hk hb => (h.block k (by simp; omega) hb).trans (Below.heap_alloc w o k hk)⟩
theorem grown_set {w w' : World} {b j : Nat} {v : Value} (h : w.grownBy w' none) : w.grownBy (w'.setCell ⟨b, j, none⟩ v) (some b) :=
  ⟨h.os, h.tape, h.output, by simpa using h.size, fun k hk hb => (Below.heap_setCell _ _ _ _ (fun e => hb (by simp [e]))).trans (h.block k hk (by simp))⟩

set_option maxHeartbeats 1000000 in
/-- The inlet's ackLink: its list of calls, nil so far, holds 'from' behind it. -/
theorem ackLink48 (sb : Nat) (lp : Option Addr) (from_ : Int) (w : World) (hS : w.heap[sb]? = some (.cells #[.pointer lp, .slice none 0 0] 63 (0, 0))) :
    Calls Yba.prog 48 #[.pointer (some ⟨sb, 0, none⟩), .int .i64 from_] w fun e w' => e = .returned (.pointer lp) ∧
      ∃ g cap, w'.heap[sb]? = some (.cells #[.pointer lp, .slice (some ⟨g, 0, none⟩) 1 cap] 63 (0, 0)) ∧ w'.cell? ⟨g, 0, none⟩ = some (.int .i64 from_) ∧ w.heap.size ≤ g ∧ w.grownBy w' (some sb) := by
  obtain ⟨i0, hi, hz0, hz1, hz2⟩ := info_parts info3
  have hlt : sb < w.heap.size := lt_of_block hS
  have c0 : w.cell? ⟨sb, 0, none⟩ = some (.pointer lp) := Lib.cell_of_heap hS 0
  have c1 : w.cell? ⟨sb, 1, none⟩ = some (.slice none 0 0) := Lib.cell_of_heap hS 1
  have HS : Hid (w.heap[sb]? = some (.cells #[.pointer lp, .slice none 0 0] 63 (0, 0))) := hS
  clear hS
  go_enter Yba.func48, Yba.ntmps48
  go_wp2_with (at_builtin; refine wpList_append_own _ rfl (.tmp 9) (.tmp 11) 61 rfl w.heap.size 3 i0 (.int .i64 0) 1 8 Yba.underlying61 hi hz0 hz1 hz2 rfl (by decide) _ 0 [] rfl (World.ownsRow_nil _ _ _ _) ⟨w.heap.size, 0, none⟩ 1 1 [.int .i64 from_] rfl rfl (cell_one_new _ _ _) (by intro u hu; simp at hu; subst hu; rfl) (by unfold maxLen; omega) (by omega) (by simp) ?_)
  intro v2 w2 hown2 hgrow2 _
  obtain ⟨g, cap, cur, hv2, hgb, hgh, hgc⟩ := own_one hown2
  rw [hv2]
  have hgr := grown_alloc hgrow2
  have hS2 : w2.heap[sb]? = some (.cells #[.pointer lp, .slice none 0 0] 63 (0, 0)) := (hgr.block sb hlt (by simp [Value.ownBlock])).trans HS.out
  have d0 : w2.cell? ⟨sb, 0, none⟩ = some (.pointer lp) := Lib.cell_of_heap hS2 0
  have d1 : w2.cell? ⟨sb, 1, none⟩ = some (.slice none 0 0) := Lib.cell_of_heap hS2 1
  have f1 : w2.frozen? ⟨sb, 1, none⟩ = false := Lib.frozen_of_heap hS2 1
  have HS2 : Hid (w2.heap[sb]? = some (.cells #[.pointer lp, .slice none 0 0] 63 (0, 0))) := hS2
  clear hS2 hown2 hgrow2 hgh
  go_wp2
  go_ret
  refine ⟨rfl, g, cap, ?_, ?_, hgb, grown_set hgr⟩
  · have := HS2.out
    simp [World.setCell, Array.getElem?_modify, this]
  · rw [World.cell?_setCell_other]
    · exact hgc
    · simp

set_option maxHeartbeats 1000000 in
/-- The pool stand-in's poke: its list of pokes, nil so far, holds 'by' behind it. -/
theorem poke43 (pb : Nat) (bp : Option Addr) (w : World) (hS : w.heap[pb]? = some (.cells #[.slice none 0 0] 26 (0, 0))) :
    Calls Yba.prog 43 #[.pointer (some ⟨pb, 0, none⟩), .pointer bp] w fun e w' => e = .returned (.tuple #[]) ∧
      ∃ g cap, w'.heap[pb]? = some (.cells #[.slice (some ⟨g, 0, none⟩) 1 cap] 26 (0, 0)) ∧ w'.cell? ⟨g, 0, none⟩ = some (.pointer bp) ∧ w.heap.size ≤ g ∧ w.grownBy w' (some pb) := by
  obtain ⟨i0, hi, hz0, hz1, hz2⟩ := info_parts info27
  have hlt : pb < w.heap.size := lt_of_block hS
  have c0 : w.cell? ⟨pb, 0, none⟩ = some (.slice none 0 0) := Lib.cell_of_heap hS 0
  have HS : Hid (w.heap[pb]? = some (.cells #[.slice none 0 0] 26 (0, 0))) := hS
  clear hS
  go_enter Yba.func43, Yba.ntmps43
  go_wp2_with (at_builtin; refine wpList_append_own _ rfl (.tmp 8) (.tmp 10) 24 rfl w.heap.size 27 i0 (.pointer none) 1 8 Yba.underlying24 hi hz0 hz1 hz2 rfl (by decide) _ 0 [] rfl (World.ownsRow_nil _ _ _ _) ⟨w.heap.size, 0, none⟩ 1 1 [.pointer bp] rfl rfl (cell_one_new _ _ _) (by intro u hu; simp at hu; subst hu; rfl) (by unfold maxLen; omega) (by omega) (by simp) ?_)
  intro v2 w2 hown2 hgrow2 _
  obtain ⟨g, cap, cur, hv2, hgb, hgh, hgc⟩ := own_one hown2
  rw [hv2]
  have hgr := grown_alloc hgrow2
  have hS2 : w2.heap[pb]? = some (.cells #[.slice none 0 0] 26 (0, 0)) := (hgr.block pb hlt (by simp [Value.ownBlock])).trans HS.out
  have d0 : w2.cell? ⟨pb, 0, none⟩ = some (.slice none 0 0) := Lib.cell_of_heap hS2 0
  have f0 : w2.frozen? ⟨pb, 0, none⟩ = false := Lib.frozen_of_heap hS2 0
  have hgne : ¬ g = pb := by omega
  have HS2 : Hid (w2.heap[pb]? = some (.cells #[.slice none 0 0] 26 (0, 0))) := hS2
  clear hS2 hown2 hgrow2 hgh
  go_wp2
  go_end0
  refine ⟨rfl, g, cap, ?_, ?_, hgb, grown_set hgr⟩
  · have := HS2.out
    simp [World.setCell, Array.getElem?_modify, this]
  · rw [World.cell?_setCell_other]
    · exact hgc
    · simp

set_option maxHeartbeats 1000000 in
/-- (*Node).poke of a node that holds a pool: it goes to the pool. -/
theorem poke17 (nb pb : Nat) (bp : Option Addr) (w : World) (hN : w.cell? ⟨nb, 14, none⟩ = some (.iface 23 (.pointer (some ⟨pb, 0, none⟩)))) (hS : w.heap[pb]? = some (.cells #[.slice none 0 0] 26 (0, 0))) :
    Calls Yba.prog 17 #[.pointer (some ⟨nb, 0, none⟩), .pointer bp] w fun e w' => e = .returned (.tuple #[]) ∧
      ∃ g cap, w'.heap[pb]? = some (.cells #[.slice (some ⟨g, 0, none⟩) 1 cap] 26 (0, 0)) ∧ w'.cell? ⟨g, 0, none⟩ = some (.pointer bp) ∧ w.heap.size ≤ g ∧ w.grownBy w' (some pb) := by
  have HP : Hid (Calls Yba.prog 43 #[.pointer (some ⟨pb, 0, none⟩), .pointer bp] w fun e w' => e = .returned (.tuple #[]) ∧
      ∃ g cap, w'.heap[pb]? = some (.cells #[.slice (some ⟨g, 0, none⟩) 1 cap] 26 (0, 0)) ∧ w'.cell? ⟨g, 0, none⟩ = some (.pointer bp) ∧ w.heap.size ≤ g ∧ w.grownBy w' (some pb)) := poke43 pb bp w hS
  clear hS
  go_enter Yba.func17, Yba.ntmps17
  go_wp2_with fail
  refine HP.out.mono ?_
  rintro e w2 ⟨rfl, hw2⟩
  go_wp2
  refine bodyPost_ret (results_none rfl _ _ _) rfl ?_
  exact ⟨rfl, hw2⟩

/-- What the pool's block says of one poke. -/
def Poked (pb : Nat) (bp : Option Addr) (w w' : World) : Prop :=
  ∃ g cap, w'.heap[pb]? = some (.cells #[.slice (some ⟨g, 0, none⟩) 1 cap] 26 (0, 0)) ∧ w'.cell? ⟨g, 0, none⟩ = some (.pointer bp) ∧ w.heap.size ≤ g ∧ w.grownBy w' (some pb)

/-- The link's block: its ack count, its producer's flag. -/
def lnk (nb : Nat) (x : Int) (v : Bool) : Obj := .cells #[.pointer (some ⟨nb, 0, none⟩), .pointer none, .int .u64 0, .int .u64 0, .int .u64 0, .int .u64 0, .int .u64 0, .int .u64 x, .int .u64 0, .int .u64 0, .int .u32 (b2n v), .int .u32 0] 57 (0, 0)
theorem lnk_acks {w : World} {lb nb : Nat} {x y : Int} {v : Bool} (h : w.heap[lb]? = some (lnk nb x v)) : (w.setCell ⟨lb, 7, none⟩ (.int .u64 y)).heap[lb]? = some (lnk nb y v) := by
  simp [World.setCell, Array.getElem?_modify, h, lnk]
theorem lnk_waits {w : World} {lb nb : Nat} {x : Int} {v : Bool} (h : w.heap[lb]? = some (lnk nb x v)) : (w.setCell ⟨lb, 10, none⟩ (.int .u32 0)).heap[lb]? = some (lnk nb x false) := by
  simp [World.setCell, Array.getElem?_modify, h, lnk, b2n]

set_option maxHeartbeats 1000000 in
/-- (*link).ack where the producer does not wait: one more ack. -/
theorem ack12_no (lb nb : Nat) (x : Int) (bp : Option Addr) (w : World) (hL : w.heap[lb]? = some (lnk nb x false)) :
    Calls Yba.prog 12 #[.pointer (some ⟨lb, 0, none⟩), .pointer bp] w fun e w' => e = .returned (.tuple #[]) ∧ w' = w.setCell ⟨lb, 7, none⟩ (.int .u64 (IntKind.u64.wrap (x + 1))) := by
  have c7 : w.cell? ⟨lb, 7, none⟩ = some (.int .u64 x) := Lib.cell_of_heap hL 7
  have f7 : w.frozen? ⟨lb, 7, none⟩ = false := Lib.frozen_of_heap hL 7
  have hL2 := lnk_acks (y := IntKind.u64.wrap (x + 1)) hL
  have d10 : (w.setCell ⟨lb, 7, none⟩ (.int .u64 (IntKind.u64.wrap (x + 1)))).cell? ⟨lb, 10, none⟩ = some (.int .u32 (b2n false)) := Lib.cell_of_heap hL2 10
  have H1 : Hid (Calls Yba.prog 15 #[.pointer (some ⟨lb, 7, none⟩), .int .u64 1] w fun e w' => e = .returned (.int .u64 (IntKind.u64.wrap (x + 1))) ∧ w' = w.setCell ⟨lb, 7, none⟩ (.int .u64 (IntKind.u64.wrap (x + 1)))) := add15 lb 7 x w c7 f7
  have H2 : Hid (Calls Yba.prog 8 #[.pointer (some ⟨lb, 10, none⟩)] (w.setCell ⟨lb, 7, none⟩ (.int .u64 (IntKind.u64.wrap (x + 1)))) fun e w' => e = .returned (.bool false) ∧ w' = w.setCell ⟨lb, 7, none⟩ (.int .u64 (IntKind.u64.wrap (x + 1)))) := ld8 lb 10 false _ d10
  clear hL hL2 c7 f7 d10
  go_enter Yba.func12, Yba.ntmps12
  go_wp2_with fail
  refine H1.out.mono ?_
  rintro e w2 ⟨rfl, rfl⟩
  go_wp2_with fail
  refine H2.out.mono ?_
  rintro e w2 ⟨rfl, rfl⟩
  go_wp2
  go_end0
  exact ⟨rfl, rfl⟩

set_option maxHeartbeats 1000000 in
/-- (*link).ack where the producer waits: one more ack, the flag cleared, the producer's pool poked. -/
theorem ack12_yes (lb nb pb : Nat) (x : Int) (bp : Option Addr) (w : World) (hL : w.heap[lb]? = some (lnk nb x true)) (hln : ¬ lb = nb) (hlp : ¬ lb = pb)
    (hN : w.cell? ⟨nb, 14, none⟩ = some (.iface 23 (.pointer (some ⟨pb, 0, none⟩)))) (hS : w.heap[pb]? = some (.cells #[.slice none 0 0] 26 (0, 0))) :
    Calls Yba.prog 12 #[.pointer (some ⟨lb, 0, none⟩), .pointer bp] w fun e w' => e = .returned (.tuple #[]) ∧
      Poked pb bp ((w.setCell ⟨lb, 7, none⟩ (.int .u64 (IntKind.u64.wrap (x + 1)))).setCell ⟨lb, 10, none⟩ (.int .u32 0)).drew w' := by
  have c7 : w.cell? ⟨lb, 7, none⟩ = some (.int .u64 x) := Lib.cell_of_heap hL 7
  have f7 : w.frozen? ⟨lb, 7, none⟩ = false := Lib.frozen_of_heap hL 7
  have hL2 := lnk_acks (y := IntKind.u64.wrap (x + 1)) hL
  have d10 : (w.setCell ⟨lb, 7, none⟩ (.int .u64 (IntKind.u64.wrap (x + 1)))).cell? ⟨lb, 10, none⟩ = some (.int .u32 (b2n true)) := Lib.cell_of_heap hL2 10
  have g10 : (w.setCell ⟨lb, 7, none⟩ (.int .u64 (IntKind.u64.wrap (x + 1)))).frozen? ⟨lb, 10, none⟩ = false := Lib.frozen_of_heap hL2 10
  have hL3 := lnk_waits hL2
  have k0 : ((w.setCell ⟨lb, 7, none⟩ (.int .u64 (IntKind.u64.wrap (x + 1)))).setCell ⟨lb, 10, none⟩ (.int .u32 0)).cell? ⟨lb, 0, none⟩ = some (.pointer (some ⟨nb, 0, none⟩)) := Lib.cell_of_heap hL3 0
  have kN : ((w.setCell ⟨lb, 7, none⟩ (.int .u64 (IntKind.u64.wrap (x + 1)))).setCell ⟨lb, 10, none⟩ (.int .u32 0)).drew.cell? ⟨nb, 14, none⟩ = some (.iface 23 (.pointer (some ⟨pb, 0, none⟩))) := by
    have h1 : ¬ nb = lb := fun h => hln h.symm
    go_simp
  have kS : ((w.setCell ⟨lb, 7, none⟩ (.int .u64 (IntKind.u64.wrap (x + 1)))).setCell ⟨lb, 10, none⟩ (.int .u32 0)).drew.heap[pb]? = some (.cells #[.slice none 0 0] 26 (0, 0)) := by
    show ((w.setCell _ _).setCell _ _).heap[pb]? = _
    rw [Below.heap_setCell _ _ _ _ (fun h => hlp h.symm), Below.heap_setCell _ _ _ _ (fun h => hlp h.symm)]
    exact hS
  have H1 : Hid (Calls Yba.prog 15 #[.pointer (some ⟨lb, 7, none⟩), .int .u64 1] w fun e w' => e = .returned (.int .u64 (IntKind.u64.wrap (x + 1))) ∧ w' = w.setCell ⟨lb, 7, none⟩ (.int .u64 (IntKind.u64.wrap (x + 1)))) := add15 lb 7 x w c7 f7
  have H2 : Hid (Calls Yba.prog 8 #[.pointer (some ⟨lb, 10, none⟩)] (w.setCell ⟨lb, 7, none⟩ (.int .u64 (IntKind.u64.wrap (x + 1)))) fun e w' => e = .returned (.bool true) ∧ w' = w.setCell ⟨lb, 7, none⟩ (.int .u64 (IntKind.u64.wrap (x + 1)))) := ld8 lb 10 true _ d10
  have H3 : Hid (Calls Yba.prog 16 #[.pointer (some ⟨lb, 10, none⟩), .bool false] (w.setCell ⟨lb, 7, none⟩ (.int .u64 (IntKind.u64.wrap (x + 1)))) fun e w' => e = .returned (.bool true) ∧ w' = ((w.setCell ⟨lb, 7, none⟩ (.int .u64 (IntKind.u64.wrap (x + 1)))).setCell ⟨lb, 10, none⟩ (.int .u32 0)).drew) := swap16 lb 10 true _ d10 g10
  have H4 : Hid (Calls Yba.prog 17 #[.pointer (some ⟨nb, 0, none⟩), .pointer bp] ((w.setCell ⟨lb, 7, none⟩ (.int .u64 (IntKind.u64.wrap (x + 1)))).setCell ⟨lb, 10, none⟩ (.int .u32 0)).drew fun e w' => e = .returned (.tuple #[]) ∧ Poked pb bp ((w.setCell ⟨lb, 7, none⟩ (.int .u64 (IntKind.u64.wrap (x + 1)))).setCell ⟨lb, 10, none⟩ (.int .u32 0)).drew w') := poke17 nb pb bp _ kN kS
  clear hL hL2 hL3 c7 f7 d10 g10 kN kS hN hS
  go_enter Yba.func12, Yba.ntmps12
  go_wp2_with fail
  refine H1.out.mono ?_
  rintro e w2 ⟨rfl, rfl⟩
  go_wp2_with fail
  refine H2.out.mono ?_
  rintro e w2 ⟨rfl, rfl⟩
  go_wp2_with fail
  refine H3.out.mono ?_
  rintro e w2 ⟨rfl, rfl⟩
  go_wp2_with fail
  refine H4.out.mono ?_
  rintro e w2 ⟨rfl, hp⟩
  go_wp2
  go_end0
  exact ⟨rfl, hp⟩

end Acks
end Go.Proofs.Ybulkaxjc
