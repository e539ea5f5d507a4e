/-
  'Rows.LawS2433BAcksSaid' proved.
-/
import Derived.Test.YbulkaxjcRelease
import Derived.Test.YbulkaxjcRows
import Derived.ProofKit
import Derived.OpenShut
namespace Go.Proofs.Ybulkaxjc
namespace Acks
open Go.ChangeShapes Go.WideShapes Go.ChangeAt Go.RowKit

theorem own : ownKnob Yba.prog.godebug = none := by kernel_rfl
theorem laidOut : laidOutB Yba.prog = true := by kernel_rfl

theorem heap_here (w : World) (o : Obj) (k : Nat) (h : k = w.heap.size) : (w.alloc o).heap[k]? = some o := by
  subst h
  show (w.heap.push o)[w.heap.size]? = _
  simp
theorem heap_past (w : World) (o : Obj) (k : Nat) (h : k < w.heap.size) : (w.alloc o).heap[k]? = w.heap[k]? := Below.heap_alloc w o k h
theorem heap_drew (w : World) : w.drew.heap = w.heap := rfl

/-- '!=' and '==' of a pointer with itself. -/
theorem size49 : (Yba.prog.info? 49).isSome = true := by kernel_rfl
theorem neq27 (a : Addr) (w : World) : (binOp .neq 27 (.pointer (some a)) (.pointer (some a))).run Yba.prog w = .ok (.bool false) w := by
  obtain ⟨j, hj⟩ := Option.isSome_iff_exists.1 size49
  exact Lib.run_neq_ptr_same w a Yba.underlying27 hj

set_option maxHeartbeats 4000000 in
theorem walk_none (from_ : Int) (acks : Int) (waits : Bool) (v : Int) (taken : Bool) (w : World) :
    Calls Yba.prog 3 #[.int .i64 from_, .int .u64 acks, .bool waits, .bool true, .int .i64 v, .bool taken] w fun e w' => e = .returned (.bool true) ∧ Below w.heap.size w w' := by
  have hnp := neq27
  go_enter Yba.func3, Yba.ntmps3
  go_wp2_with fail
  refine (release_none _ (w.heap.size + 1 + 1 + 1) (w.heap.size + 1 + 1) from_ v taken _ ?_ ?_).mono ?_
  · exact heap_here _ _ _ (by simp only [World.size_alloc])
  · rw [heap_past _ _ _ (by simp only [World.size_alloc]; omega)]; exact heap_here _ _ _ (by simp only [World.size_alloc])
  rintro e w2 ⟨rfl, g, cap, hS, hg, hgs, hgr⟩
  have hI : w2.heap[w.heap.size + 1 + 1 + 1 + 1]? = some (.cells #[.pointer (some ⟨w.heap.size + 1 + 1, 0, none⟩), .string ⟨#[]⟩, .bool false, .iface 60 (.pointer (some ⟨w.heap.size + 1 + 1 + 1, 0, none⟩)), .int .i64 (-1), .bool taken, .int .i64 from_, .int .i64 v] 70 (0, 0)) := by
    rw [hgr.block _ (by simp [heap_drew]) (by simp), heap_drew]; exact heap_here _ _ _ (by simp only [World.size_alloc])
  have hP : w2.heap[w.heap.size]? = some (.cells #[.slice none 0 0] 26 (0, 0)) := by
    rw [hgr.block _ (by simp [heap_drew]; omega) (by simp; omega), heap_drew]; rw [heap_past _ _ _ (by simp only [World.size_alloc]; omega)]; rw [heap_past _ _ _ (by simp only [World.size_alloc]; omega)]; rw [heap_past _ _ _ (by simp only [World.size_alloc]; omega)]; rw [heap_past _ _ _ (by simp only [World.size_alloc]; omega)]; exact heap_here _ _ _ rfl
  have hend : Below w.heap.size w w2 := by
    refine Below.trans ?_ ((Below.refl _ _).grown hgr (by simp [heap_drew]; omega) (by intro k h; cases h; omega))
    exact ((((((Below.refl _ _).alloc (Nat.le_refl _) _).alloc (by simp) _).alloc (by simp; omega) _).alloc (by simp; omega) _).alloc (by simp; omega) _).drew
  have s1 : w2.cell? ⟨w.heap.size + 1 + 1 + 1, 1, none⟩ = some (.slice (some ⟨g, 0, none⟩) 1 cap) := Lib.cell_of_heap hS 1
  have i0 : w2.cell? ⟨w.heap.size + 1 + 1 + 1 + 1, 0, none⟩ = some (.pointer (some ⟨w.heap.size + 1 + 1, 0, none⟩)) := Lib.cell_of_heap hI 0
  have i5 : w2.cell? ⟨w.heap.size + 1 + 1 + 1 + 1, 5, none⟩ = some (.bool taken) := Lib.cell_of_heap hI 5
  have i6 : w2.cell? ⟨w.heap.size + 1 + 1 + 1 + 1, 6, none⟩ = some (.int .i64 from_) := Lib.cell_of_heap hI 6
  have i7 : w2.cell? ⟨w.heap.size + 1 + 1 + 1 + 1, 7, none⟩ = some (.int .i64 v) := Lib.cell_of_heap hI 7
  have p0 : w2.cell? ⟨w.heap.size, 0, none⟩ = some (.slice none 0 0) := Lib.cell_of_heap hP 0
  clear hS hI hP hgr hgs
  go_wp2
  go_ret
  exact ⟨rfl, hend⟩

set_option maxHeartbeats 8000000 in
theorem walk_no (from_ : Int) (acks : Int) (v : Int) (taken : Bool) (w : World) :
    Calls Yba.prog 3 #[.int .i64 from_, .int .u64 acks, .bool false, .bool false, .int .i64 v, .bool taken] w fun e w' => e = .returned (.bool true) ∧ Below w.heap.size w w' := by
  have hnp := neq27
  go_enter Yba.func3, Yba.ntmps3
  go_wp2_with fail
  refine (st4 _ _ 0 acks _ ?_ ?_).mono ?_
  · go_simp
  · go_simp
  rintro e w2 ⟨rfl, rfl⟩
  go_wp2_with fail
  refine (st5 _ _ 0 false _ ?_ ?_).mono ?_
  · go_simp
  · go_simp
  rintro e w2 ⟨rfl, rfl⟩
  go_wp2_with fail
  refine (release_no _ (w.heap.size + 1 + 1 + 1 + 1) (w.heap.size + 1 + 1) (w.heap.size + 1 + 1 + 1) (w.heap.size + 1) from_ v acks taken _ ?_ ?_ ?_ (by omega) (by omega)).mono ?_
  · rw [heap_drew]; exact heap_here _ _ _ (by simp only [World.size_alloc])
  · rw [heap_drew]; rw [heap_past _ _ _ (by simp only [World.size_alloc]; omega)]; exact heap_here _ _ _ (by simp only [World.size_alloc])
  · rw [heap_drew]; rw [heap_past _ _ _ (by simp only [World.size_alloc]; omega)]; rw [heap_past _ _ _ (by simp only [World.size_alloc]; omega)]; exact heap_here _ _ _ (by simp only [World.size_alloc])
  rintro e w2 ⟨rfl, w1, ⟨g, cap, hS, hg, hgs, hgr⟩, hw2⟩
  have hgs' : w.heap.size + 1 + 1 + 1 + 1 + 1 < g := by
    have := hgs
    simp only [heap_drew, World.size_alloc] at this
    omega
  have old : ∀ k, ¬ k = w.heap.size + 1 + 1 + 1 → w2.heap[k]? = w1.heap[k]? := fun k hk => by rw [hw2]; exact Below.heap_setCell _ _ _ _ hk
  have hL : w1.heap[w.heap.size + 1 + 1 + 1]? = some (lnk (w.heap.size + 1) acks false) := by
    rw [hgr.block _ (by simp only [heap_drew, World.size_alloc]; omega) (by simp), heap_drew, heap_drew]; rw [heap_past _ _ _ (by simp only [World.size_alloc]; omega)]; rw [heap_past _ _ _ (by simp only [World.size_alloc]; omega)]; exact heap_here _ _ _ (by simp only [World.size_alloc])
  have hL2 : w2.heap[w.heap.size + 1 + 1 + 1]? = some (lnk (w.heap.size + 1) (IntKind.u64.wrap (acks + 1)) false) := by rw [hw2]; exact lnk_acks hL
  have hI : w2.heap[w.heap.size + 1 + 1 + 1 + 1 + 1]? = some (.cells #[.pointer (some ⟨w.heap.size + 1 + 1, 0, none⟩), .string ⟨#[]⟩, .bool false, .iface 60 (.pointer (some ⟨w.heap.size + 1 + 1 + 1 + 1, 0, none⟩)), .int .i64 (-1), .bool taken, .int .i64 from_, .int .i64 v] 70 (0, 0)) := by
    rw [old _ (by omega), hgr.block _ (by simp only [heap_drew, World.size_alloc]; omega) (by simp), heap_drew, heap_drew]; exact heap_here _ _ _ (by simp only [World.size_alloc])
  have hP : w2.heap[w.heap.size]? = some (.cells #[.slice none 0 0] 26 (0, 0)) := by
    rw [old _ (by omega), hgr.block _ (by simp only [heap_drew, World.size_alloc]; omega) (by simp; omega), heap_drew, heap_drew]; rw [heap_past _ _ _ (by simp only [World.size_alloc]; omega)]; rw [heap_past _ _ _ (by simp only [World.size_alloc]; omega)]; rw [heap_past _ _ _ (by simp only [World.size_alloc]; omega)]; rw [heap_past _ _ _ (by simp only [World.size_alloc]; omega)]; rw [heap_past _ _ _ (by simp only [World.size_alloc]; omega)]; exact heap_here _ _ _ rfl
  have hS2 : w2.heap[w.heap.size + 1 + 1 + 1 + 1]? = some (.cells #[.pointer (some ⟨w.heap.size + 1 + 1 + 1, 0, none⟩), .slice (some ⟨g, 0, none⟩) 1 cap] 63 (0, 0)) := by rw [old _ (by omega)]; exact hS
  have g0 : w2.cell? ⟨g, 0, none⟩ = some (.int .i64 from_) := by rw [World.cell?_of_block (w := w1) (old g (by omega))]; exact hg
  have hend : Below w.heap.size w w2 := by
    rw [hw2]
    refine Below.setCell (Below.trans ?_ ((Below.refl _ _).grown hgr (by simp only [heap_drew, World.size_alloc]; omega) (by intro k h; cases h; omega))) (by show w.heap.size ≤ w.heap.size + 1 + 1 + 1; omega) _
    exact (((((((Below.refl _ _).alloc (Nat.le_refl _) _).alloc (by simp) _).alloc (by simp; omega) _).alloc (by simp; omega) _).alloc (by simp; omega) _).alloc (by simp; omega) _).drew.drew
  have s1 : w2.cell? ⟨w.heap.size + 1 + 1 + 1 + 1, 1, none⟩ = some (.slice (some ⟨g, 0, none⟩) 1 cap) := Lib.cell_of_heap hS2 1
  have i0 : w2.cell? ⟨w.heap.size + 1 + 1 + 1 + 1 + 1, 0, none⟩ = some (.pointer (some ⟨w.heap.size + 1 + 1, 0, none⟩)) := Lib.cell_of_heap hI 0
  have i5 : w2.cell? ⟨w.heap.size + 1 + 1 + 1 + 1 + 1, 5, none⟩ = some (.bool taken) := Lib.cell_of_heap hI 5
  have i6 : w2.cell? ⟨w.heap.size + 1 + 1 + 1 + 1 + 1, 6, none⟩ = some (.int .i64 from_) := Lib.cell_of_heap hI 6
  have i7 : w2.cell? ⟨w.heap.size + 1 + 1 + 1 + 1 + 1, 7, none⟩ = some (.int .i64 v) := Lib.cell_of_heap hI 7
  have p0 : w2.cell? ⟨w.heap.size, 0, none⟩ = some (.slice none 0 0) := Lib.cell_of_heap hP 0
  have l7 : w2.cell? ⟨w.heap.size + 1 + 1 + 1, 7, none⟩ = some (.int .u64 (IntKind.u64.wrap (acks + 1))) := Lib.cell_of_heap hL2 7
  have l10 : w2.cell? ⟨w.heap.size + 1 + 1 + 1, 10, none⟩ = some (.int .u32 (b2n false)) := Lib.cell_of_heap hL2 10
  have H7 : Hid (Calls Yba.prog 7 #[.pointer (some ⟨w.heap.size + 1 + 1 + 1, 7, none⟩)] w2 fun e w' => e = .returned (.int .u64 (IntKind.u64.wrap (acks + 1))) ∧ w' = w2) := ld7 _ 7 _ w2 l7
  have H8 : Hid (Calls Yba.prog 8 #[.pointer (some ⟨w.heap.size + 1 + 1 + 1, 10, none⟩)] w2 fun e w' => e = .returned (.bool false) ∧ w' = w2) := ld8 _ 10 false w2 l10
  clear hS hI hP hgr hgs hw2 old hL hL2 hS2 hg l7 l10
  go_wp2_with fail
  refine H7.out.mono ?_
  rintro e w3 ⟨rfl, rfl⟩
  go_wp2_with fail
  refine H8.out.mono ?_
  rintro e w3 ⟨rfl, rfl⟩
  go_wp2
  go_ret
  exact ⟨rfl, hend⟩

theorem eql27 (a : Addr) (w : World) : (binOp .eql 27 (.pointer (some a)) (.pointer (some a))).run Yba.prog w = .ok (.bool true) w := by
  obtain ⟨j, hj⟩ := Option.isSome_iff_exists.1 size49
  exact run_eql_ptr_same (P := Yba.prog) w a Yba.underlying27 hj

set_option maxHeartbeats 8000000 in
theorem walk_yes (from_ : Int) (acks : Int) (v : Int) (taken : Bool) (w : World) :
    Calls Yba.prog 3 #[.int .i64 from_, .int .u64 acks, .bool true, .bool false, .int .i64 v, .bool taken] w fun e w' => e = .returned (.bool true) ∧ Below w.heap.size w w' := by
  have hep := eql27
  have hnp := neq27
  go_enter Yba.func3, Yba.ntmps3
  go_wp2_with fail
  refine (st4 _ _ 0 acks _ ?_ ?_).mono ?_
  · go_simp
  · go_simp
  rintro e w2 ⟨rfl, rfl⟩
  go_wp2_with fail
  refine (st5 _ _ 0 true _ ?_ ?_).mono ?_
  · go_simp
  · go_simp
  rintro e w2 ⟨rfl, rfl⟩
  go_wp2_with fail
  refine (release_yes _ (w.heap.size + 1 + 1 + 1 + 1) (w.heap.size + 1 + 1) (w.heap.size + 1 + 1 + 1) (w.heap.size + 1) (w.heap.size) from_ v acks taken _ ?_ ?_ ?_ (by omega) (by omega) (by omega) (by omega) (by omega) (by omega) (cn := #[.pointer none, .int .i64 0, .string ⟨#[]⟩, .slice none 0 0, .slice none 0 0, .nilFunc, .nilFunc, .nilFunc, .slice none 0 0, .int .i64 0, .int .i32 0, .pointer none, .bool false, .slice none 0 0, .iface 23 (.pointer (some ⟨w.heap.size, 0, none⟩)), .map none, .slice none 0 0, .slice none 0 0, .slice none 0 0]) ?_ rfl ?_).mono ?_
  · rw [heap_drew]; exact heap_here _ _ _ (by simp only [World.size_alloc])
  · rw [heap_drew]; rw [heap_past _ _ _ (by simp only [World.size_alloc]; omega)]; exact heap_here _ _ _ (by simp only [World.size_alloc])
  · rw [heap_drew]; rw [heap_past _ _ _ (by simp only [World.size_alloc]; omega)]; rw [heap_past _ _ _ (by simp only [World.size_alloc]; omega)]; exact heap_here _ _ _ (by simp only [World.size_alloc])
  · rw [heap_drew]; rw [heap_past _ _ _ (by simp only [World.size_alloc]; omega)]; rw [heap_past _ _ _ (by simp only [World.size_alloc]; omega)]; rw [heap_past _ _ _ (by simp only [World.size_alloc]; omega)]; rw [heap_past _ _ _ (by simp only [World.size_alloc]; omega)]; exact heap_here _ _ _ (by simp only [World.size_alloc])
  · rw [heap_drew]; rw [heap_past _ _ _ (by simp only [World.size_alloc]; omega)]; rw [heap_past _ _ _ (by simp only [World.size_alloc]; omega)]; rw [heap_past _ _ _ (by simp only [World.size_alloc]; omega)]; rw [heap_past _ _ _ (by simp only [World.size_alloc]; omega)]; rw [heap_past _ _ _ (by simp only [World.size_alloc]; omega)]; exact heap_here _ _ _ rfl
  rintro e w2 ⟨rfl, w1, ⟨g, cap, hS, hg, hgs, hgr⟩, ⟨g2, cap2, hP2, hg2, hgs2, hgr2⟩⟩
  have hgs' : w.heap.size + 1 + 1 + 1 + 1 + 1 < g := by
    have := hgs
    simp only [heap_drew, World.size_alloc] at this
    omega
  have hglt : g < w1.heap.size := by
    rcases Nat.lt_or_ge g w1.heap.size with h | h
    · exact h
    · simp [World.cell?, Array.getElem?_eq_none h] at hg
  have hw1 : w.heap.size + 1 + 1 + 1 + 1 + 1 < w1.heap.size := by omega
  have old : ∀ k, k < w1.heap.size → ¬ k = w.heap.size + 1 + 1 + 1 → ¬ k = w.heap.size → w2.heap[k]? = w1.heap[k]? := fun k hk h1 h2 => by
    rw [hgr2.block k (by rw [heap_drew]; simpa using hk) (by simpa using h2), heap_drew, Below.heap_setCell _ _ _ _ h1, Below.heap_setCell _ _ _ _ h1]
  have hL : w1.heap[w.heap.size + 1 + 1 + 1]? = some (lnk (w.heap.size + 1) acks true) := by
    rw [hgr.block _ (by simp only [heap_drew, World.size_alloc]; omega) (by simp), heap_drew, heap_drew]; rw [heap_past _ _ _ (by simp only [World.size_alloc]; omega)]; rw [heap_past _ _ _ (by simp only [World.size_alloc]; omega)]; exact heap_here _ _ _ (by simp only [World.size_alloc])
  have hL2 : w2.heap[w.heap.size + 1 + 1 + 1]? = some (lnk (w.heap.size + 1) (IntKind.u64.wrap (acks + 1)) false) := by
    rw [hgr2.block _ (by rw [heap_drew]; simp; omega) (by simp; omega), heap_drew]
    exact lnk_waits (lnk_acks hL)
  have hI : w2.heap[w.heap.size + 1 + 1 + 1 + 1 + 1]? = some (.cells #[.pointer (some ⟨w.heap.size + 1 + 1, 0, none⟩), .string ⟨#[]⟩, .bool false, .iface 60 (.pointer (some ⟨w.heap.size + 1 + 1 + 1 + 1, 0, none⟩)), .int .i64 (-1), .bool taken, .int .i64 from_, .int .i64 v] 70 (0, 0)) := by
    rw [old _ (by omega) (by omega) (by omega), hgr.block _ (by simp only [heap_drew, World.size_alloc]; omega) (by simp), heap_drew, heap_drew]; exact heap_here _ _ _ (by simp only [World.size_alloc])
  have hS2 : w2.heap[w.heap.size + 1 + 1 + 1 + 1]? = some (.cells #[.pointer (some ⟨w.heap.size + 1 + 1 + 1, 0, none⟩), .slice (some ⟨g, 0, none⟩) 1 cap] 63 (0, 0)) := by rw [old _ (by omega) (by omega) (by omega)]; exact hS
  have g0 : w2.cell? ⟨g, 0, none⟩ = some (.int .i64 from_) := by rw [World.cell?_of_block (w := w1) (old g hglt (by omega) (by omega))]; exact hg
  have hend : Below w.heap.size w w2 := by
    refine Below.trans ?_ ((Below.refl _ _).grown hgr2 (by rw [heap_drew]; simp; omega) (by intro k h; cases h; exact Nat.le_refl _))
    refine Below.drew (Below.setCell (Below.setCell (Below.trans ?_ ((Below.refl _ _).grown hgr (by simp only [heap_drew, World.size_alloc]; omega) (by intro k h; cases h; omega))) (by show w.heap.size ≤ w.heap.size + 1 + 1 + 1; omega) _) (by show w.heap.size ≤ w.heap.size + 1 + 1 + 1; omega) _)
    exact (((((((Below.refl _ _).alloc (Nat.le_refl _) _).alloc (by simp) _).alloc (by simp; omega) _).alloc (by simp; omega) _).alloc (by simp; omega) _).alloc (by simp; omega) _).drew.drew
  have s1 : w2.cell? ⟨w.heap.size + 1 + 1 + 1 + 1, 1, none⟩ = some (.slice (some ⟨g, 0, none⟩) 1 cap) := Lib.cell_of_heap hS2 1
  have i0 : w2.cell? ⟨w.heap.size + 1 + 1 + 1 + 1 + 1, 0, none⟩ = some (.pointer (some ⟨w.heap.size + 1 + 1, 0, none⟩)) := Lib.cell_of_heap hI 0
  have i5 : w2.cell? ⟨w.heap.size + 1 + 1 + 1 + 1 + 1, 5, none⟩ = some (.bool taken) := Lib.cell_of_heap hI 5
  have i6 : w2.cell? ⟨w.heap.size + 1 + 1 + 1 + 1 + 1, 6, none⟩ = some (.int .i64 from_) := Lib.cell_of_heap hI 6
  have i7 : w2.cell? ⟨w.heap.size + 1 + 1 + 1 + 1 + 1, 7, none⟩ = some (.int .i64 v) := Lib.cell_of_heap hI 7
  have p0 : w2.cell? ⟨w.heap.size, 0, none⟩ = some (.slice (some ⟨g2, 0, none⟩) 1 cap2) := Lib.cell_of_heap hP2 0
  have l7 : w2.cell? ⟨w.heap.size + 1 + 1 + 1, 7, none⟩ = some (.int .u64 (IntKind.u64.wrap (acks + 1))) := Lib.cell_of_heap hL2 7
  have l10 : w2.cell? ⟨w.heap.size + 1 + 1 + 1, 10, none⟩ = some (.int .u32 (b2n false)) := Lib.cell_of_heap hL2 10
  have H7 : Hid (Calls Yba.prog 7 #[.pointer (some ⟨w.heap.size + 1 + 1 + 1, 7, none⟩)] w2 fun e w' => e = .returned (.int .u64 (IntKind.u64.wrap (acks + 1))) ∧ w' = w2) := ld7 _ 7 _ w2 l7
  have H8 : Hid (Calls Yba.prog 8 #[.pointer (some ⟨w.heap.size + 1 + 1 + 1, 10, none⟩)] w2 fun e w' => e = .returned (.bool false) ∧ w' = w2) := ld8 _ 10 false w2 l10
  clear hS hI hP2 hgr hgr2 hgs hgs2 old hL hL2 hS2 hg l7 l10
  go_wp2_with fail
  refine H7.out.mono ?_
  rintro e w3 ⟨rfl, rfl⟩
  go_wp2_with fail
  refine H8.out.mono ?_
  rintro e w3 ⟨rfl, rfl⟩
  go_wp2
  go_ret
  exact ⟨rfl, hend⟩

set_option maxRecDepth 100000 in
theorem lifted (os : Os) (started : os.Started) (H : Type) (enc : TypeId × Value → H) :
    ReturnsInHanded {} Yba.checked os 3 .any (Rows.lawS2433BAcksSpec.pre6 enc Yba.prog Yba.f3 Rows.lawS2433BAcksRow.domain false) (Rows.lawS2433BAcksSpec.post enc Yba.prog Yba.f3 false true false false) := by
  refine returnsInHanded_of_change (C := Yba.checked) own started (by kernel_rfl) Yba.func3
    (ChangeSpec.witness6 (enc := enc) (C := Yba.checked) false ⟨#[], #[.int .i64 0, .int .u64 0, .bool false, .bool false, .int .i64 0, .bool false], []⟩ 8 (by kernel_rfl) (by kernel_rfl) (by kernel_rfl) (by kernel_rfl)) ?_
  intro W base args ds gs before hval0 hW hcnd _
  have hval : ∀ (j : Nat) t v, Yba.f3.params[j]? = some t → args[j]? = some v → Value.okWide Yba.prog W .any base t v := hval0
  have hW' := hW
  obtain ⟨p, q, hA0, hV, rfl, hfz, hnd⟩ := hW
  have hA : DataW.TrodAll enc Yba.prog W 0 (fun _ => true) true Yba.f3.params.toList args.toList ds p := hA0
  rw [Yba.params3] at hA hval
  obtain ⟨v0, vs0, d0, ds0, p0, q0, hargs, rfl, rfl, h0, r0⟩ := trodAll_cons hA
  obtain ⟨v1, vs1, d1, ds1, p1, q1, rfl, rfl, rfl, h1, r1⟩ := trodAll_cons r0
  obtain ⟨v2, vs2, d2, ds2, p2, q2, rfl, rfl, rfl, h2, r2⟩ := trodAll_cons r1
  obtain ⟨v3, vs3, d3, ds3, p3, q3, rfl, rfl, rfl, h3, r3⟩ := trodAll_cons r2
  obtain ⟨v4, vs4, d4, ds4, p4, q4, rfl, rfl, rfl, h4, r4⟩ := trodAll_cons r3
  obtain ⟨v5, vs5, d5, ds5, p5, q5, rfl, rfl, rfl, h5, r5⟩ := trodAll_cons r4
  obtain ⟨rfl, rfl, rfl⟩ := trodAll_nil r5
  obtain rfl : args = #[v0, v1, v2, v3, v4, v5] := by cases args; simp_all
  obtain ⟨rfl, rfl⟩ := trodVars_none hV
  obtain ⟨a0, rfl, rfl, rfl, w0⟩ := open_int Yba.underlying3 (hval 0 3 v0 rfl rfl) h0
  obtain ⟨a1, rfl, rfl, rfl, w1⟩ := open_int Yba.underlying22 (hval 1 22 v1 rfl rfl) h1
  obtain ⟨a2, rfl, rfl, rfl⟩ := open_bool Yba.underlying4 (hval 2 4 v2 rfl rfl) h2
  obtain ⟨a3, rfl, rfl, rfl⟩ := open_bool Yba.underlying4 (hval 3 4 v3 rfl rfl) h3
  obtain ⟨a4, rfl, rfl, rfl, w4⟩ := open_int Yba.underlying3 (hval 4 3 v4 rfl rfl) h4
  obtain ⟨a5, rfl, rfl, rfl⟩ := open_bool Yba.underlying4 (hval 5 4 v5 rfl rfl) h5
  clear hA0 hval0
  simp only [List.append_nil] at hW'
  have hw : Calls Yba.prog 3 #[.int .i64 a0, .int .u64 a1, .bool a2, .bool a3, .int .i64 a4, .bool a5] W fun e w' => e = .returned (.bool true) ∧ Below W.heap.size W w' := by
    cases a3 with
    | true => exact walk_none a0 a1 a2 a4 a5 W
    | false =>
      cases a2 with
      | true => exact walk_yes a0 a1 a4 a5 W
      | false => exact walk_no a0 a1 a4 a5 W
  refine hw.mono fun e W' ⟨he, hb⟩ => ?_
  subst he
  refine ⟨_, rfl, _, _, _, [], [], [], hW', ?_, ?_, rfl, hb.frame _, fun h => by cases h⟩
  · exact trodAll_cons_mk (shut_bool Yba.underlying4 _) trodAll_mk0
  · exact trodAll_cons_mk (shut_int Yba.underlying3 w0) (trodAll_cons_mk (shut_int Yba.underlying22 w1) (trodAll_cons_mk (shut_bool Yba.underlying4 _) (trodAll_cons_mk (shut_bool Yba.underlying4 _) (trodAll_cons_mk (shut_int Yba.underlying3 w4) (trodAll_cons_mk (shut_bool Yba.underlying4 _) trodAll_mk0)))))

theorem over : Rows.lawS2433BAcksRow.holds Yba.pinned (OpenSpec.ofChange Rows.lawS2433BAcksSpec) :=
  OpenClaim.holds_of_wide 3 Yba.f3 rfl rfl rfl rfl rfl rfl rfl ⟨rfl, rfl, rfl, rfl, rfl⟩ rfl rfl rfl rfl rfl (by kernel_rfl) Yba.func3 (by kernel_rfl)
    (of_decide_eq_true (by kernel_rfl)) (by unfold Func.isWrapper; first | (rw [if_pos (by decide +kernel)]; kernel_rfl) | (rw [if_neg (by decide +kernel)]; exact ⟨rfl, rfl⟩))
    (fun os started H enc _ => lifted os started H enc)

end Acks
theorem lawS2433BAcks_proved : Rows.LawS2433BAcksSaid := Acks.over
end Go.Proofs.Ybulkaxjc
