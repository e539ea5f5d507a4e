/-
  'Rows.LawS2437AErrorsSaid' proved.
-/
import Derived.Test.YbulkaxlgHolds
import Derived.Test.YbulkaxlgRows
import Derived.ProofKit
import Derived.OpenShut
import Derived.LaidEql
namespace Go.Proofs.Ybulkaxlg
namespace Err
open Go.ChangeShapes Go.WideShapes Go.ChangeAt Go.RowKit Rel

theorem own : ownKnob Yba.prog.godebug = none := by kernel_rfl
theorem heap_here (w : World) (o : Obj) (k : Nat) (h : k = w.heap.size) : (w.alloc o).heap[k]? = some o := by
  subst h
  show (w.heap.push o)[w.heap.size]? = _
  simp
theorem heap_past (w : World) (o : Obj) (k : Nat) (h : k < w.heap.size) : (w.alloc o).heap[k]? = w.heap[k]? := Below.heap_alloc w o k h

theorem isComp : (Yba.prog.info? 65).map (·.comparable) = some true := by kernel_rfl
theorem isSize : (Yba.prog.info? 67).map (·.size) = some 1 := by kernel_rfl
/-- '==' of two errors that are one pointer. -/
theorem eql25 (a : Addr) (w : World) : (binOp .eql 25 (.iface 65 (.pointer (some a))) (.iface 65 (.pointer (some a)))).run Yba.prog w = .ok (.bool true) w := by
  obtain ⟨i, hi, hcmp⟩ := Option.map_eq_some_iff.1 isComp
  obtain ⟨j, hj, _⟩ := Option.map_eq_some_iff.1 isSize
  exact run_eql_iface_ptr_same (P := Yba.prog) w a Yba.underlying25 Yba.underlying65 hi hcmp hj

set_option maxHeartbeats 4000000 in
theorem walk_errors (a b : Nat) (r q : Int) (h0 : 0 ≤ r) (h1 : r ≤ 255) (g0 : 0 ≤ q) (g1 : q ≤ 255) (w : World) :
    Calls Yba.prog 4 #[.float .f64 a, .float .f64 b, .int .u8 r, .int .u8 q] w fun e w' => e = .returned (.bool true) ∧ Grown w w' := by
  have heq := eql25
  have hm : q % 3 = 0 ∨ q % 3 = 1 ∨ q % 3 = 2 := by omega
  rcases hm with hm | hm | hm
  · go_enter Yba.func4, Yba.ntmps4
    go_wp2_with (go_at_call 6; go_in)
    refine (holds_left (w.heap.size + 1 + 1 + 1 + 1) (w.heap.size + 1 + 1) (w.heap.size + 1 + 1 + 1) a (r % 6) 65 (.pointer (some ⟨w.heap.size, 0, none⟩)) _ _ ?_ ?_).mono ?_
    · rw [heap_past _ _ _ (by simp only [World.size_alloc]; omega)]; exact heap_here _ _ _ (by simp only [World.size_alloc])
    · rw [heap_past _ _ _ (by simp only [World.size_alloc]; omega), heap_past _ _ _ (by simp only [World.size_alloc]; omega), heap_past _ _ _ (by simp only [World.size_alloc]; omega)]; exact heap_here _ _ _ (by simp only [World.size_alloc])
    rintro e w2 ⟨rfl, rfl⟩
    go_wp2
    go_ret
    exact ⟨rfl, by repeat (first | exact Grown.refl _ | apply Grown.drew | apply Grown.alloc)⟩
  · go_enter Yba.func4, Yba.ntmps4
    go_wp2_with (go_at_call 6; go_in)
    refine (holds_right (w.heap.size + 1 + 1 + 1 + 1) (w.heap.size + 1 + 1) (w.heap.size + 1 + 1 + 1) a b (r % 6) 65 (.pointer (some ⟨w.heap.size + 1, 0, none⟩)) _ _ ?_ ?_ ?_ (by omega)).mono ?_
    · rw [heap_past _ _ _ (by simp only [World.size_alloc]; omega)]; exact heap_here _ _ _ (by simp only [World.size_alloc])
    · rw [heap_past _ _ _ (by simp only [World.size_alloc]; omega), heap_past _ _ _ (by simp only [World.size_alloc]; omega), heap_past _ _ _ (by simp only [World.size_alloc]; omega)]; exact heap_here _ _ _ (by simp only [World.size_alloc])
    · rw [heap_past _ _ _ (by simp only [World.size_alloc]; omega), heap_past _ _ _ (by simp only [World.size_alloc]; omega)]; exact heap_here _ _ _ (by simp only [World.size_alloc])
    rintro e w2 ⟨rfl, rfl⟩
    go_wp2
    go_ret
    exact ⟨rfl, by repeat (first | exact Grown.refl _ | apply Grown.drew | apply Grown.alloc)⟩
  · go_enter Yba.func4, Yba.ntmps4
    go_wp2_with (go_at_call 6; go_in)
    refine (holds_left (w.heap.size + 1 + 1 + 1 + 1) (w.heap.size + 1 + 1) (w.heap.size + 1 + 1 + 1) a (r % 6) 65 (.pointer (some ⟨w.heap.size, 0, none⟩)) _ _ ?_ ?_).mono ?_
    · rw [heap_past _ _ _ (by simp only [World.size_alloc]; omega)]; exact heap_here _ _ _ (by simp only [World.size_alloc])
    · rw [heap_past _ _ _ (by simp only [World.size_alloc]; omega), heap_past _ _ _ (by simp only [World.size_alloc]; omega), heap_past _ _ _ (by simp only [World.size_alloc]; omega)]; exact heap_here _ _ _ (by simp only [World.size_alloc])
    rintro e w2 ⟨rfl, rfl⟩
    go_wp2
    go_ret
    exact ⟨rfl, by repeat (first | exact Grown.refl _ | apply Grown.drew | apply Grown.alloc)⟩

set_option maxRecDepth 100000 in
theorem lifted_errors (os : Os) (started : os.Started) (H : Type) (enc : TypeId × Value → H) :
    ReturnsInHanded {} Yba.checked os 4 .any (Rows.lawS2437AErrorsSpec.pre6 enc Yba.prog Yba.f4 Rows.lawS2437AErrorsRow.domain false) (Rows.lawS2437AErrorsSpec.post enc Yba.prog Yba.f4 false true false false) := by
  refine returnsInHanded_of_change (C := Yba.checked) own started (by kernel_rfl) Yba.func4
    (ChangeSpec.witness6 (enc := enc) (C := Yba.checked) false ⟨#[], #[.float .f64 0, .float .f64 0, .int .u8 0, .int .u8 0], []⟩ 8 (by kernel_rfl) (by kernel_rfl) (by kernel_rfl) (by kernel_rfl)) ?_
  intro W base args ds gs before hval0 hW hcnd _
  have hval : ∀ (j : Nat) t v, Yba.f4.params[j]? = some t → args[j]? = some v → Value.okWide Yba.prog W .any base t v := hval0
  have hW' := hW
  obtain ⟨p, q, hA0, hV, rfl, hfz, hnd⟩ := hW
  have hA : DataW.TrodAll enc Yba.prog W 0 (fun _ => true) true Yba.f4.params.toList args.toList ds p := hA0
  rw [Yba.params4] at hA hval
  obtain ⟨v0, vs0, d0, ds0, p0, q0, hargs, rfl, rfl, h0, r0⟩ := trodAll_cons hA
  obtain ⟨v1, vs1, d1, ds1, p1, q1, rfl, rfl, rfl, h1, r1⟩ := trodAll_cons r0
  obtain ⟨v2, vs2, d2, ds2, p2, q2, rfl, rfl, rfl, h2, r2⟩ := trodAll_cons r1
  obtain ⟨v3, vs3, d3, ds3, p3, q3, rfl, rfl, rfl, h3, r3⟩ := trodAll_cons r2
  obtain ⟨rfl, rfl, rfl⟩ := trodAll_nil r3
  obtain rfl : args = #[v0, v1, v2, v3] := by cases args; simp_all
  obtain ⟨rfl, rfl⟩ := trodVars_none hV
  obtain ⟨a0, rfl, rfl, rfl, w0⟩ := open_float Yba.underlying22 (hval 0 22 v0 rfl rfl) h0
  obtain ⟨a1, rfl, rfl, rfl, w1⟩ := open_float Yba.underlying22 (hval 1 22 v1 rfl rfl) h1
  obtain ⟨a2, rfl, rfl, rfl, w2⟩ := open_int Yba.underlying5 (hval 2 5 v2 rfl rfl) h2
  obtain ⟨a3, rfl, rfl, rfl, w3⟩ := open_int Yba.underlying5 (hval 3 5 v3 rfl rfl) h3
  have b2 := bounds_u8 w2
  have b3 := bounds_u8 w3
  clear hA0 hval0
  simp only [List.append_nil] at hW'
  refine (walk_errors a0 a1 a2 a3 b2.1 b2.2 b3.1 b3.2 W).mono fun e W' ⟨he, hg⟩ => ?_
  subst he
  exact ⟨_, rfl, post_of_same (pa := []) (pv := []) hW' (fun _ _ _ => (trodAll_cons_mk (shut_bool Yba.underlying4 _) trodAll_mk0)) (fun sp _ => (trodAll_cons_mk (shut_float Yba.underlying22 w0) (trodAll_cons_mk (shut_float Yba.underlying22 w1) (trodAll_cons_mk (shut_int Yba.underlying5 w2) (trodAll_cons_mk (shut_int Yba.underlying5 w3) trodAll_mk0))))) (fun _ _ => rfl) rfl
    (hg.frame _) hg.2.1 (ok_one (by kernel_rfl) rfl (okWide_bool_mk Yba.underlying4 _))⟩

theorem over_errors : Rows.lawS2437AErrorsRow.holds Yba.pinned (OpenSpec.ofChange Rows.lawS2437AErrorsSpec) :=
  OpenClaim.holds_of_wide 4 Yba.f4 rfl rfl rfl rfl rfl rfl rfl ⟨rfl, rfl, rfl, rfl, rfl⟩ rfl rfl rfl rfl rfl (by kernel_rfl) Yba.func4 (by kernel_rfl)
    (of_decide_eq_true (by kernel_rfl)) (by unfold Func.isWrapper; first | (rw [if_pos (by decide +kernel)]; kernel_rfl) | (rw [if_neg (by decide +kernel)]; exact ⟨rfl, rfl⟩))
    (fun os started H enc _ => lifted_errors os started H enc)

end Err
theorem lawS2437AErrors_proved : Rows.LawS2437AErrorsSaid := Err.over_errors
end Go.Proofs.Ybulkaxlg
