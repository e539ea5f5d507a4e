/-
  'Rows.LawS2428CTableSaid' proved: for a token of each dynamic type TokenKind names the kind of the table.
-/
import Derived.Test.YbulkaxgkRows
import Derived.WalkKit
import Derived.WalkSpells
import Derived.WalkLawsBesides
import Derived.ProofKit
import Derived.OpenShut
import Derived.ShutString
import Derived.Laws.Cover2
namespace Go.Proofs.Ybulkaxgk
namespace Table
open Go.ChangeShapes Go.WideShapes Go.ChangeAt Go.RowKit
open Go.ChangeMaps (open_string shut_string)

theorem own : ownKnob Yba.prog.godebug = none := by kernel_rfl

set_option maxHeartbeats 1000000 in
/-- zzs2428cdelim hands back one of the four delimiters. -/
theorem delim4 (d : Int) (w : World) : Calls Yba.prog 4 #[.int .i32 d] w fun e w' => (e = .returned (.int .i32 91) ∨ e = .returned (.int .i32 93) ∨ e = .returned (.int .i32 123) ∨ e = .returned (.int .i32 125)) ∧ w' = w := by
  go_enter Yba.func4, Yba.ntmps4
  go_wp2
  all_goals (go_ret; simp)

/-! What TokenKind's type switch finds: 26: json.Delim; 9: string; 4: bool; 22: float64; 27: json.Number; 29: the law's own struct; 30: *string. -/
theorem as26_26 (x : Int) (w : World) : (Instr.typeAssert (.iface 26 (.int .i32 x)) 23 26 true).run Yba.prog w = .ok (.tuple #[(.int .i32 x), .bool true]) w := by kernel_rfl
theorem as26_9 (x : Int) (w : World) : (Instr.typeAssert (.iface 26 (.int .i32 x)) 23 9 true).run Yba.prog w = .ok (.tuple #[.string ⟨#[]⟩, .bool false]) w := by kernel_rfl
theorem as26_4 (x : Int) (w : World) : (Instr.typeAssert (.iface 26 (.int .i32 x)) 23 4 true).run Yba.prog w = .ok (.tuple #[.bool false, .bool false]) w := by kernel_rfl
theorem as9_26 (x : ByteArray) (w : World) : (Instr.typeAssert (.iface 9 (.string x)) 23 26 true).run Yba.prog w = .ok (.tuple #[.int .i32 0, .bool false]) w := by kernel_rfl
theorem as9_9 (x : ByteArray) (w : World) : (Instr.typeAssert (.iface 9 (.string x)) 23 9 true).run Yba.prog w = .ok (.tuple #[(.string x), .bool true]) w := by kernel_rfl
theorem as9_4 (x : ByteArray) (w : World) : (Instr.typeAssert (.iface 9 (.string x)) 23 4 true).run Yba.prog w = .ok (.tuple #[.bool false, .bool false]) w := by kernel_rfl
theorem as4_26 (x : Bool) (w : World) : (Instr.typeAssert (.iface 4 (.bool x)) 23 26 true).run Yba.prog w = .ok (.tuple #[.int .i32 0, .bool false]) w := by kernel_rfl
theorem as4_9 (x : Bool) (w : World) : (Instr.typeAssert (.iface 4 (.bool x)) 23 9 true).run Yba.prog w = .ok (.tuple #[.string ⟨#[]⟩, .bool false]) w := by kernel_rfl
theorem as4_4 (x : Bool) (w : World) : (Instr.typeAssert (.iface 4 (.bool x)) 23 4 true).run Yba.prog w = .ok (.tuple #[(.bool x), .bool true]) w := by kernel_rfl
theorem as22_26 (x : Nat) (w : World) : (Instr.typeAssert (.iface 22 (.float .f64 x)) 23 26 true).run Yba.prog w = .ok (.tuple #[.int .i32 0, .bool false]) w := by kernel_rfl
theorem as22_9 (x : Nat) (w : World) : (Instr.typeAssert (.iface 22 (.float .f64 x)) 23 9 true).run Yba.prog w = .ok (.tuple #[.string ⟨#[]⟩, .bool false]) w := by kernel_rfl
theorem as22_4 (x : Nat) (w : World) : (Instr.typeAssert (.iface 22 (.float .f64 x)) 23 4 true).run Yba.prog w = .ok (.tuple #[.bool false, .bool false]) w := by kernel_rfl
theorem as27_26 (x : ByteArray) (w : World) : (Instr.typeAssert (.iface 27 (.string x)) 23 26 true).run Yba.prog w = .ok (.tuple #[.int .i32 0, .bool false]) w := by kernel_rfl
theorem as27_9 (x : ByteArray) (w : World) : (Instr.typeAssert (.iface 27 (.string x)) 23 9 true).run Yba.prog w = .ok (.tuple #[.string ⟨#[]⟩, .bool false]) w := by kernel_rfl
theorem as27_4 (x : ByteArray) (w : World) : (Instr.typeAssert (.iface 27 (.string x)) 23 4 true).run Yba.prog w = .ok (.tuple #[.bool false, .bool false]) w := by kernel_rfl
theorem as29_26 (x : Int) (w : World) : (Instr.typeAssert (.iface 29 (.agg #[.int .i64 x])) 23 26 true).run Yba.prog w = .ok (.tuple #[.int .i32 0, .bool false]) w := by kernel_rfl
theorem as29_9 (x : Int) (w : World) : (Instr.typeAssert (.iface 29 (.agg #[.int .i64 x])) 23 9 true).run Yba.prog w = .ok (.tuple #[.string ⟨#[]⟩, .bool false]) w := by kernel_rfl
theorem as29_4 (x : Int) (w : World) : (Instr.typeAssert (.iface 29 (.agg #[.int .i64 x])) 23 4 true).run Yba.prog w = .ok (.tuple #[.bool false, .bool false]) w := by kernel_rfl
theorem as30_26  (w : World) : (Instr.typeAssert (.iface 30 (.pointer none)) 23 26 true).run Yba.prog w = .ok (.tuple #[.int .i32 0, .bool false]) w := by kernel_rfl
theorem as30_9  (w : World) : (Instr.typeAssert (.iface 30 (.pointer none)) 23 9 true).run Yba.prog w = .ok (.tuple #[.string ⟨#[]⟩, .bool false]) w := by kernel_rfl
theorem as30_4  (w : World) : (Instr.typeAssert (.iface 30 (.pointer none)) 23 4 true).run Yba.prog w = .ok (.tuple #[.bool false, .bool false]) w := by kernel_rfl
theorem asNil_26 (w : World) : (Instr.typeAssert .nilIface 23 26 true).run Yba.prog w = .ok (.tuple #[.int .i32 0, .bool false]) w := by kernel_rfl
theorem asNil_9 (w : World) : (Instr.typeAssert .nilIface 23 9 true).run Yba.prog w = .ok (.tuple #[.string ⟨#[]⟩, .bool false]) w := by kernel_rfl
theorem asNil_4 (w : World) : (Instr.typeAssert .nilIface 23 4 true).run Yba.prog w = .ok (.tuple #[.bool false, .bool false]) w := by kernel_rfl
attribute [local go_sem] as26_26 as26_9 as26_4 as9_26 as9_9 as9_4 as4_26 as4_9 as4_4 as22_26 as22_9 as22_4 as27_26 as27_9 as27_4 as29_26 as29_9 as29_4 as30_26 as30_9 as30_4 asNil_26 asNil_9 asNil_4

set_option maxHeartbeats 4000000 in
theorem walk (a0 a1 : Int) (a2 : ByteArray) (a3 : Bool) (a4 : Nat) (a5 : ByteArray) (a6 : Int) (h0 : 0 ≤ a0) (h1 : a0 ≤ 255) (w : World) :
    Calls Yba.prog 3 #[.int .u8 a0, .int .i32 a1, .string a2, .bool a3, .float .f64 a4, .string a5, .int .i64 a6] w fun e w' => e = .returned (.bool true) ∧ Grown w w' := by
  have hm : a0 % 9 = 0 ∨ a0 % 9 = 1 ∨ a0 % 9 = 2 ∨ a0 % 9 = 3 ∨ a0 % 9 = 4 ∨ a0 % 9 = 5 ∨ a0 % 9 = 6 ∨ a0 % 9 = 7 ∨ a0 % 9 = 8 := by omega
  rcases hm with hm | hm | hm | hm | hm | hm | hm | hm | hm
  · have e0 : (a0 % 9 == 0) = true := beq_iff_eq.2 hm
    clear hm
    go_enter Yba.func3, Yba.ntmps3
    go_wp2_with fail
    refine (delim4 a1 w).mono ?_
    rintro e w2 ⟨he, rfl⟩
    rcases he with rfl | rfl | rfl | rfl
    all_goals
      go_wp2
      go_ret
      exact ⟨rfl, by repeat (first | exact Grown.refl _ | apply Grown.drew | apply Grown.alloc)⟩
  · have e0 : (a0 % 9 == 0) = false := beq_eq_false_iff_ne.2 (by omega)
    have e1 : (a0 % 9 == 1) = true := beq_iff_eq.2 hm
    clear hm
    cases hd : (a1 == 91) with
    | true =>
      go_enter Yba.func3, Yba.ntmps3
      go_wp2
      go_ret
      exact ⟨rfl, by repeat (first | exact Grown.refl _ | apply Grown.drew | apply Grown.alloc)⟩
    | false =>
      go_enter Yba.func3, Yba.ntmps3
      go_wp2
      go_ret
      exact ⟨rfl, by repeat (first | exact Grown.refl _ | apply Grown.drew | apply Grown.alloc)⟩
  · have e0 : (a0 % 9 == 0) = false := beq_eq_false_iff_ne.2 (by omega)
    have e1 : (a0 % 9 == 1) = false := beq_eq_false_iff_ne.2 (by omega)
    have e2 : (a0 % 9 == 2) = true := beq_iff_eq.2 hm
    clear hm
    go_enter Yba.func3, Yba.ntmps3
    go_wp2
    go_ret
    exact ⟨rfl, by repeat (first | exact Grown.refl _ | apply Grown.drew | apply Grown.alloc)⟩
  · have e0 : (a0 % 9 == 0) = false := beq_eq_false_iff_ne.2 (by omega)
    have e1 : (a0 % 9 == 1) = false := beq_eq_false_iff_ne.2 (by omega)
    have e2 : (a0 % 9 == 2) = false := beq_eq_false_iff_ne.2 (by omega)
    have e3 : (a0 % 9 == 3) = true := beq_iff_eq.2 hm
    clear hm
    go_enter Yba.func3, Yba.ntmps3
    go_wp2
    go_ret
    exact ⟨rfl, by repeat (first | exact Grown.refl _ | apply Grown.drew | apply Grown.alloc)⟩
  · have e0 : (a0 % 9 == 0) = false := beq_eq_false_iff_ne.2 (by omega)
    have e1 : (a0 % 9 == 1) = false := beq_eq_false_iff_ne.2 (by omega)
    have e2 : (a0 % 9 == 2) = false := beq_eq_false_iff_ne.2 (by omega)
    have e3 : (a0 % 9 == 3) = false := beq_eq_false_iff_ne.2 (by omega)
    have e4 : (a0 % 9 == 4) = true := beq_iff_eq.2 hm
    clear hm
    go_enter Yba.func3, Yba.ntmps3
    go_wp2
    go_ret
    exact ⟨rfl, by repeat (first | exact Grown.refl _ | apply Grown.drew | apply Grown.alloc)⟩
  · have e0 : (a0 % 9 == 0) = false := beq_eq_false_iff_ne.2 (by omega)
    have e1 : (a0 % 9 == 1) = false := beq_eq_false_iff_ne.2 (by omega)
    have e2 : (a0 % 9 == 2) = false := beq_eq_false_iff_ne.2 (by omega)
    have e3 : (a0 % 9 == 3) = false := beq_eq_false_iff_ne.2 (by omega)
    have e4 : (a0 % 9 == 4) = false := beq_eq_false_iff_ne.2 (by omega)
    have e5 : (a0 % 9 == 5) = true := beq_iff_eq.2 hm
    clear hm
    go_enter Yba.func3, Yba.ntmps3
    go_wp2
    go_ret
    exact ⟨rfl, by repeat (first | exact Grown.refl _ | apply Grown.drew | apply Grown.alloc)⟩
  · have e0 : (a0 % 9 == 0) = false := beq_eq_false_iff_ne.2 (by omega)
    have e1 : (a0 % 9 == 1) = false := beq_eq_false_iff_ne.2 (by omega)
    have e2 : (a0 % 9 == 2) = false := beq_eq_false_iff_ne.2 (by omega)
    have e3 : (a0 % 9 == 3) = false := beq_eq_false_iff_ne.2 (by omega)
    have e4 : (a0 % 9 == 4) = false := beq_eq_false_iff_ne.2 (by omega)
    have e5 : (a0 % 9 == 5) = false := beq_eq_false_iff_ne.2 (by omega)
    have e6 : (a0 % 9 == 6) = true := beq_iff_eq.2 hm
    clear hm
    go_enter Yba.func3, Yba.ntmps3
    go_wp2
    go_ret
    exact ⟨rfl, by repeat (first | exact Grown.refl _ | apply Grown.drew | apply Grown.alloc)⟩
  · have e0 : (a0 % 9 == 0) = false := beq_eq_false_iff_ne.2 (by omega)
    have e1 : (a0 % 9 == 1) = false := beq_eq_false_iff_ne.2 (by omega)
    have e2 : (a0 % 9 == 2) = false := beq_eq_false_iff_ne.2 (by omega)
    have e3 : (a0 % 9 == 3) = false := beq_eq_false_iff_ne.2 (by omega)
    have e4 : (a0 % 9 == 4) = false := beq_eq_false_iff_ne.2 (by omega)
    have e5 : (a0 % 9 == 5) = false := beq_eq_false_iff_ne.2 (by omega)
    have e6 : (a0 % 9 == 6) = false := beq_eq_false_iff_ne.2 (by omega)
    have e7 : (a0 % 9 == 7) = true := beq_iff_eq.2 hm
    clear hm
    go_enter Yba.func3, Yba.ntmps3
    go_wp2
    go_ret
    exact ⟨rfl, by repeat (first | exact Grown.refl _ | apply Grown.drew | apply Grown.alloc)⟩
  · have e0 : (a0 % 9 == 0) = false := beq_eq_false_iff_ne.2 (by omega)
    have e1 : (a0 % 9 == 1) = false := beq_eq_false_iff_ne.2 (by omega)
    have e2 : (a0 % 9 == 2) = false := beq_eq_false_iff_ne.2 (by omega)
    have e3 : (a0 % 9 == 3) = false := beq_eq_false_iff_ne.2 (by omega)
    have e4 : (a0 % 9 == 4) = false := beq_eq_false_iff_ne.2 (by omega)
    have e5 : (a0 % 9 == 5) = false := beq_eq_false_iff_ne.2 (by omega)
    have e6 : (a0 % 9 == 6) = false := beq_eq_false_iff_ne.2 (by omega)
    have e7 : (a0 % 9 == 7) = false := beq_eq_false_iff_ne.2 (by omega)
    clear hm
    go_enter Yba.func3, Yba.ntmps3
    go_wp2
    go_ret
    exact ⟨rfl, by repeat (first | exact Grown.refl _ | apply Grown.drew | apply Grown.alloc)⟩

set_option maxRecDepth 100000 in
theorem lifted (os : Os) (started : os.Started) (H : Type) (enc : TypeId × Value → H) :
    ReturnsInHanded {} Yba.checked os 3 .any (Rows.lawS2428CTableSpec.pre6 enc Yba.prog Yba.f3 Rows.lawS2428CTableRow.domain false) (Rows.lawS2428CTableSpec.post enc Yba.prog Yba.f3 false true false false) := by
  refine returnsInHanded_of_change (C := Yba.checked) own started (by kernel_rfl) Yba.func3
    (ChangeSpec.witness6 (enc := enc) (C := Yba.checked) false ⟨#[], #[.int .u8 0, .int .i32 0, .string ⟨#[]⟩, .bool false, .float .f64 0, .string ⟨#[]⟩, .int .i64 0], []⟩ 8 (by kernel_rfl) (by kernel_rfl) (by kernel_rfl) (by kernel_rfl)) ?_
  intro W base args ds gs before hval0 hW hcnd _
  have hval : ∀ (j : Nat) t v, Yba.f3.params[j]? = some t → args[j]? = some v → Value.okWide Yba.prog W .any base t v := hval0
  have hW' := hW
  obtain ⟨p, q, hA0, hV, rfl, hfz, hnd⟩ := hW
  have hA : DataW.TrodAll enc Yba.prog W 0 (fun _ => true) true Yba.f3.params.toList args.toList ds p := hA0
  rw [Yba.params3] at hA hval
  obtain ⟨v0, vs0, d0, ds0, p0, q0, hargs, rfl, rfl, h0, r0⟩ := trodAll_cons hA
  obtain ⟨v1, vs1, d1, ds1, p1, q1, rfl, rfl, rfl, h1, r1⟩ := trodAll_cons r0
  obtain ⟨v2, vs2, d2, ds2, p2, q2, rfl, rfl, rfl, h2, r2⟩ := trodAll_cons r1
  obtain ⟨v3, vs3, d3, ds3, p3, q3, rfl, rfl, rfl, h3, r3⟩ := trodAll_cons r2
  obtain ⟨v4, vs4, d4, ds4, p4, q4, rfl, rfl, rfl, h4, r4⟩ := trodAll_cons r3
  obtain ⟨v5, vs5, d5, ds5, p5, q5, rfl, rfl, rfl, h5, r5⟩ := trodAll_cons r4
  obtain ⟨v6, vs6, d6, ds6, p6, q6, rfl, rfl, rfl, h6, r6⟩ := trodAll_cons r5
  obtain ⟨rfl, rfl, rfl⟩ := trodAll_nil r6
  obtain rfl : args = #[v0, v1, v2, v3, v4, v5, v6] := by cases args; simp_all
  obtain ⟨rfl, rfl⟩ := trodVars_none hV
  obtain ⟨a0, rfl, rfl, rfl, w0⟩ := open_int Yba.underlying5 (hval 0 5 v0 rfl rfl) h0
  obtain ⟨a1, rfl, rfl, rfl, w1⟩ := open_int Yba.underlying21 (hval 1 21 v1 rfl rfl) h1
  obtain ⟨a2, rfl, rfl, rfl, w2⟩ := open_string Yba.underlying9 (hval 2 9 v2 rfl rfl) h2
  obtain ⟨a3, rfl, rfl, rfl⟩ := open_bool Yba.underlying4 (hval 3 4 v3 rfl rfl) h3
  obtain ⟨a4, rfl, rfl, rfl, w4⟩ := open_float Yba.underlying22 (hval 4 22 v4 rfl rfl) h4
  obtain ⟨a5, rfl, rfl, rfl, w5⟩ := open_string Yba.underlying9 (hval 5 9 v5 rfl rfl) h5
  obtain ⟨a6, rfl, rfl, rfl, w6⟩ := open_int Yba.underlying3 (hval 6 3 v6 rfl rfl) h6
  have hb := bounds_u8 w0
  clear hA0 hval0
  simp only [List.append_nil] at hW'
  refine (walk a0 a1 a2 a3 a4 a5 a6 hb.1 hb.2 W).mono fun e W' ⟨he, hg⟩ => ?_
  subst he
  exact ⟨_, rfl, post_of_same (pa := []) (pv := []) hW' (fun _ _ _ => (trodAll_cons_mk (shut_bool Yba.underlying4 _) trodAll_mk0)) (fun sp _ => (trodAll_cons_mk (shut_int Yba.underlying5 w0) (trodAll_cons_mk (shut_int Yba.underlying21 w1) (trodAll_cons_mk (shut_string Yba.underlying9 w2) (trodAll_cons_mk (shut_bool Yba.underlying4 _) (trodAll_cons_mk (shut_float Yba.underlying22 w4) (trodAll_cons_mk (shut_string Yba.underlying9 w5) (trodAll_cons_mk (shut_int Yba.underlying3 w6) trodAll_mk0)))))))) (fun _ _ => rfl) rfl
    (hg.frame _) hg.2.1 (ok_one (by kernel_rfl) rfl (okWide_bool_mk Yba.underlying4 _))⟩

theorem over : Rows.lawS2428CTableRow.holds Yba.pinned (OpenSpec.ofChange Rows.lawS2428CTableSpec) :=
  OpenClaim.holds_of_wide 3 Yba.f3 rfl rfl rfl rfl rfl rfl rfl ⟨rfl, rfl, rfl, rfl, rfl⟩ rfl rfl rfl rfl rfl (by kernel_rfl) Yba.func3 (by kernel_rfl)
    (of_decide_eq_true (by kernel_rfl)) (by unfold Func.isWrapper; first | (rw [if_pos (by decide +kernel)]; kernel_rfl) | (rw [if_neg (by decide +kernel)]; exact ⟨rfl, rfl⟩))
    (fun os started H enc _ => lifted os started H enc)

end Table
theorem lawS2428CTable_proved : Rows.LawS2428CTableSaid := Table.over
end Go.Proofs.Ybulkaxgk
