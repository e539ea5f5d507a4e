/-
  THE CONTRACT of the project's own 'attributes' (function 7): it computes 'scan'; where the words are not well formed it hands back a new error that wraps the sentinel.
-/
import Derived.Test.YbulkaxeuFmtModel
import Derived.Test.YbulkaxeuFmtErrorf
import Derived.Deep.RegionWith
namespace Go.Proofs.YbulkaxeuFmt
namespace Att
open Go.RowKit Go.Extern.Stop Go.Stop Go.Extern

/-- The entry that 'attributes' hands back. -/
def ent (x : Int × Int × ByteArray × Bool) : Value := .agg #[.string ⟨#[]⟩, .int .u8 x.1, .int .u8 x.2.1, .string x.2.2.1]
/-- The error: nil where all is well; else one that wraps the sentinel. -/
def ErrIs (ok : Bool) (err : Value) (a0 : Addr) (w : World) : Prop :=
  (ok = true ∧ err = .nilIface) ∨ (ok = false ∧ ∃ p, err = .iface 54 (.pointer (some ⟨p, 0, none⟩)) ∧ w.cell? ⟨p, 1, none⟩ = some (.iface 70 (.pointer (some a0))))

theorem cell_first (w : World) (x y : Value) (t : TypeId) : (w.alloc (.cells #[x, y] t)).drew.cell? ⟨w.heap.size, 0, none⟩ = some x := by go_simp
theorem cell_second (w : World) (x y : Value) (t : TypeId) : (w.alloc (.cells #[x, y] t)).drew.cell? ⟨w.heap.size, 1, none⟩ = some y := by go_simp
theorem cell_only (w : World) (x : Value) (t : TypeId) : (w.alloc (.cells #[x] t)).drew.cell? ⟨w.heap.size, 0, none⟩ = some x := by go_simp
theorem two_cell (w : World) (o1 o2 : Obj) {p : Addr} (h : p.block < w.heap.size) : ((w.alloc o1).alloc o2).cell? p = w.cell? p :=
  (((Below.refl w.heap.size w).alloc (Nat.le_refl _) o1).alloc (by simp) o2).cell h
theorem two_frozen (w : World) (o1 o2 : Obj) {p : Addr} (h : p.block < w.heap.size) : ((w.alloc o1).alloc o2).frozen? p = w.frozen? p :=
  (((Below.refl w.heap.size w).alloc (Nat.le_refl _) o1).alloc (by simp) o2).frozen h
/-- The world at an error's return: one block for fmt's operands, one for the error, the entry stored into the result's block. -/
theorem err_end {w wr : World} {o1 : Obj} {tx : ByteArray} {a0 : Addr} {x0 x1 x2 x3 : Value} (hnx : Below w.heap.size w wr) (hsz : w.heap.size + 1 < wr.heap.size) :
    Below w.heap.size w ((((((wr.alloc o1).alloc (.cells #[.string tx, .iface 70 (.pointer (some a0))] 98)).setCell ⟨w.heap.size, 0, none⟩ x0).setCell ⟨w.heap.size, 1, none⟩ x1).setCell ⟨w.heap.size, 2, none⟩ x2).setCell ⟨w.heap.size, 3, none⟩ x3).drew.drew ∧
    ((((((wr.alloc o1).alloc (.cells #[.string tx, .iface 70 (.pointer (some a0))] 98)).setCell ⟨w.heap.size, 0, none⟩ x0).setCell ⟨w.heap.size, 1, none⟩ x1).setCell ⟨w.heap.size, 2, none⟩ x2).setCell ⟨w.heap.size, 3, none⟩ x3).drew.drew.cell? ⟨wr.heap.size + 1, 1, none⟩ = some (.iface 70 (.pointer (some a0))) := by
  have h1 : ¬ wr.heap.size + 1 = w.heap.size := by omega
  constructor
  · exact (((((((hnx.alloc (by omega) _).alloc (by simp; omega) _).setCell (Nat.le_refl _) _).setCell (Nat.le_refl _) _).setCell (Nat.le_refl _) _).setCell (Nat.le_refl _) _).drew).drew
  · go_simp
/-- A store into one field of the entry. -/
theorem set_kind {w : World} {B : Nat} {x0 x1 x2 x3 v : Value} (h : w.heap[B]? = some (.cells #[x0, x1, x2, x3] 30 (0, 0))) : (w.setCell ⟨B, 1, none⟩ v).heap[B]? = some (.cells #[x0, v, x2, x3] 30 (0, 0)) := by
  simp [World.setCell, Array.getElem?_modify, h]
theorem set_flags {w : World} {B : Nat} {x0 x1 x2 x3 v : Value} (h : w.heap[B]? = some (.cells #[x0, x1, x2, x3] 30 (0, 0))) : (w.setCell ⟨B, 2, none⟩ v).heap[B]? = some (.cells #[x0, x1, v, x3] 30 (0, 0)) := by
  simp [World.setCell, Array.getElem?_modify, h]
theorem set_target {w : World} {B : Nat} {x0 x1 x2 x3 v : Value} (h : w.heap[B]? = some (.cells #[x0, x1, x2, x3] 30 (0, 0))) : (w.setCell ⟨B, 3, none⟩ v).heap[B]? = some (.cells #[x0, x1, x2, v] 30 (0, 0)) := by
  simp [World.setCell, Array.getElem?_modify, h]
theorem set_entry {w : World} {B : Nat} {o : Obj} {j : Nat} {v : Value} (h : w.heap[B]? = some o) : (w.setCell ⟨B + 1, j, none⟩ v).heap[B]? = some o := by
  rw [Below.heap_setCell _ _ _ _ (by simp), h]
theorem heap_two_at (w : World) (o1 o2 : Obj) : ((w.alloc o1).alloc o2).heap[w.heap.size + 1]? = some o2 := by
  have := heap_alloc_new (w.alloc o1) o2
  simpa using this
theorem heap_two_below (w : World) (o1 o2 : Obj) : ((w.alloc o1).alloc o2).heap[w.heap.size]? = some o1 := by
  rw [Below.heap_alloc _ _ _ (by simp)]
  exact heap_alloc_new w o1

set_option maxRecDepth 100000 in
set_option maxHeartbeats 16000000 in
theorem attr7 (F : Interp) (ws : List ByteArray) (block : ByteArray) (g cap : Nat) (a0 : Addr) (s0 : ByteArray) (w : World) (hF : F.answers w.tape) (hn : ws.length ≤ 1024) (hb : block.size ≤ 140737488351232) (hg : g < w.heap.size)
    (hc : ∀ j (h : j < ws.length), w.cell? ⟨g, j, none⟩ = some (.string ws[j])) (hs : ∀ s ∈ ws, s.size ≤ 140737488351232)
    (hg0 : w.cell? ⟨0, 0, none⟩ = some (.iface 70 (.pointer (some a0)))) (ha0 : w.cell? a0 = some (.string s0)) (h0w : 0 < w.heap.size) (haw : a0.block < w.heap.size) :
    Calls Ybaf.prog 7 #[.slice (some ⟨g, 0, none⟩) ws.length cap, .string block] w fun e w' => ∃ err, e = .returned (.tuple #[ent (scan block ws 0 false false ⟨#[]⟩), err]) ∧ ErrIs (scan block ws 0 false false ⟨#[]⟩).2.2.2 err a0 w' ∧ Below w.heap.size w w' := by
  have HC : Hid (∀ j (h : j < ws.length), w.cell? ⟨g, j, none⟩ = some (.string ws[j])) := hc
  have HS : Hid (∀ s ∈ ws, s.size ≤ 140737488351232) := hs
  have HF : Hid (F.answers w.tape) := hF
  have HG : Hid (w.cell? ⟨0, 0, none⟩ = some (.iface 70 (.pointer (some a0)))) := hg0
  have HA : Hid (w.cell? a0 = some (.string s0)) := ha0
  clear hc hs hF hg0 ha0
  go_enter Ybaf.func7, Ybaf.ntmps7
  go_wp2
  go_loopw [7] (fun iv wr => ∃ (i : Nat) (k : Int) (a b : Bool) (t : ByteArray), i ≤ ws.length ∧ iv = .int .i64 i ∧ wr.heap[w.heap.size + 1]? = some (.cells #[.string ⟨#[]⟩, .int .u8 k, .int .u8 (fl a b), .string t] 30 (0, 0)) ∧ wr.heap[w.heap.size]? = some (.cells #[.string ⟨#[]⟩, .int .u8 0, .int .u8 0, .string ⟨#[]⟩] 30 (0, 0)) ∧ Below w.heap.size w wr ∧ Hid (scan block (ws.drop i) k a b t = scan block ws 0 false false ⟨#[]⟩)) (fun iv _ => ws.length - (intOf iv).toNat)
  case atStart =>
    refine ⟨0, 0, false, false, ⟨#[]⟩, Nat.zero_le _, rfl, ?_, ?_, ?_, rfl⟩
    · exact heap_two_at w _ _
    · exact heap_two_below w _ _
    · exact ((Below.refl _ _).alloc (Nat.le_refl _) _).alloc (by simp) _
  case round =>
    obtain ⟨i, k, a, b, t, hi, rfl, hE, hR, hnx, HD⟩ := hrel
    have hE0 : wr.cell? ⟨w.heap.size + 1, 0, none⟩ = some (.string ⟨#[]⟩) := Lib.cell_of_heap hE 0
    have hE1 : wr.cell? ⟨w.heap.size + 1, 1, none⟩ = some (.int .u8 k) := Lib.cell_of_heap hE 1
    have hE2 : wr.cell? ⟨w.heap.size + 1, 2, none⟩ = some (.int .u8 (fl a b)) := Lib.cell_of_heap hE 2
    have hE3 : wr.cell? ⟨w.heap.size + 1, 3, none⟩ = some (.string t) := Lib.cell_of_heap hE 3
    have fE1 : wr.frozen? ⟨w.heap.size + 1, 1, none⟩ = false := Lib.frozen_of_heap hE 1
    have fE2 : wr.frozen? ⟨w.heap.size + 1, 2, none⟩ = false := Lib.frozen_of_heap hE 2
    have fE3 : wr.frozen? ⟨w.heap.size + 1, 3, none⟩ = false := Lib.frozen_of_heap hE 3
    have hR0 : wr.cell? ⟨w.heap.size, 0, none⟩ = some (.string ⟨#[]⟩) := Lib.cell_of_heap hR 0
    have hR1 : wr.cell? ⟨w.heap.size, 1, none⟩ = some (.int .u8 0) := Lib.cell_of_heap hR 1
    have hR2 : wr.cell? ⟨w.heap.size, 2, none⟩ = some (.int .u8 0) := Lib.cell_of_heap hR 2
    have hR3 : wr.cell? ⟨w.heap.size, 3, none⟩ = some (.string ⟨#[]⟩) := Lib.cell_of_heap hR 3
    have fR0 : wr.frozen? ⟨w.heap.size, 0, none⟩ = false := Lib.frozen_of_heap hR 0
    have fR1 : wr.frozen? ⟨w.heap.size, 1, none⟩ = false := Lib.frozen_of_heap hR 1
    have fR2 : wr.frozen? ⟨w.heap.size, 2, none⟩ = false := Lib.frozen_of_heap hR 2
    have fR3 : wr.frozen? ⟨w.heap.size, 3, none⟩ = false := Lib.frozen_of_heap hR 3
    have hsz : w.heap.size + 1 < wr.heap.size := lt_of_block hE
    have HE5 : Hid (wr.heap[w.heap.size + 1]? = some (.cells #[.string ⟨#[]⟩, .int .u8 k, .int .u8 (fl a b), .string t] 30 (0, 0))) := hE
    have HR5 : Hid (wr.heap[w.heap.size]? = some (.cells #[.string ⟨#[]⟩, .int .u8 0, .int .u8 0, .string ⟨#[]⟩] 30 (0, 0))) := hR
    clear hE hR
    by_cases hlt : i < ws.length
    · have hcx : wr.cell? ⟨g, i, none⟩ = some (.string ws[i]) := (hnx.cell (by exact hg)).trans (HC.out i hlt)
      have hgr : wr.cell? ⟨0, 0, none⟩ = some (.iface 70 (.pointer (some a0))) := (hnx.cell (by exact h0w)).trans HG.out
      have har : wr.cell? a0 = some (.string s0) := (hnx.cell haw).trans HA.out
      have hFr : F.answers wr.tape := by rw [hnx.tape]; exact HF.out
      have HFr : Hid (F.answers wr.tape) := hFr
      have HL : Hid (∀ o : Obj, (wr.alloc o).cell? a0 = some (.string s0)) := fun o => (((Below.refl wr.heap.size wr).alloc (Nat.le_refl _) o).cell (by omega)).trans har
      clear hFr
      have HD2 := HD.out
      rw [drop_cons hlt] at HD2
      obtain ⟨s, hse⟩ : ∃ s, s = ws[i] := ⟨_, rfl⟩
      rw [← hse] at hcx HD2
      have HDR : Hid (scan block (s :: ws.drop (i + 1)) k a b t = scan block ws 0 false false ⟨#[]⟩) := HD2
      clear hse HD HD2
      by_cases c_gsm : s.toList = gsmL
      · have q_gsm : (s.toList == [103, 115, 109, 45, 115, 117, 98]) = true := beq_iff_eq.2 c_gsm
        by_cases hk : k = 0
        · subst hk
          have HN : Hid (scan block (ws.drop (i + 1)) 1 a b t = scan block ws 0 false false ⟨#[]⟩) := by
            have := HDR.out
            rw [scan_gsm c_gsm] at this
            exact this
          clear HDR
          clear c_gsm
          go_wp2
          go_roundw
          case rel => exact ⟨i + 1, 1, a, b, t, by omega, by go_num, set_kind HE5.out, set_entry HR5.out, hnx.setCell (by simp) _, HN⟩
          case measure => simp [intOf]; omega
        · have hk' : (k != 0) = true := bne_iff_ne.2 hk
          have HE : Hid (scan block ws 0 false false ⟨#[]⟩ = (k, fl a b, t, false)) := by show _ = _; rw [← HDR.out, scan_gsm_no c_gsm hk]
          clear HDR
          clear c_gsm hk
          have hq0 : ∀ o1 o2 : Obj, ((wr.alloc o1).alloc o2).cell? ⟨w.heap.size, 0, none⟩ = some (.string ⟨#[]⟩) := fun o1 o2 => (two_cell wr o1 o2 (by show w.heap.size < wr.heap.size; omega)).trans hR0
          have hf0 : ∀ o1 o2 : Obj, ((wr.alloc o1).alloc o2).frozen? ⟨w.heap.size, 0, none⟩ = false := fun o1 o2 => (two_frozen wr o1 o2 (by show w.heap.size < wr.heap.size; omega)).trans fR0
          have he0 : ∀ o1 o2 : Obj, ((wr.alloc o1).alloc o2).cell? ⟨w.heap.size + 1, 0, none⟩ = some (.string ⟨#[]⟩) := fun o1 o2 => (two_cell wr o1 o2 hsz).trans hE0
          have hq1 : ∀ o1 o2 : Obj, ((wr.alloc o1).alloc o2).cell? ⟨w.heap.size, 1, none⟩ = some (.int .u8 0) := fun o1 o2 => (two_cell wr o1 o2 (by show w.heap.size < wr.heap.size; omega)).trans hR1
          have hf1 : ∀ o1 o2 : Obj, ((wr.alloc o1).alloc o2).frozen? ⟨w.heap.size, 1, none⟩ = false := fun o1 o2 => (two_frozen wr o1 o2 (by show w.heap.size < wr.heap.size; omega)).trans fR1
          have he1 : ∀ o1 o2 : Obj, ((wr.alloc o1).alloc o2).cell? ⟨w.heap.size + 1, 1, none⟩ = some (.int .u8 k) := fun o1 o2 => (two_cell wr o1 o2 hsz).trans hE1
          have hq2 : ∀ o1 o2 : Obj, ((wr.alloc o1).alloc o2).cell? ⟨w.heap.size, 2, none⟩ = some (.int .u8 0) := fun o1 o2 => (two_cell wr o1 o2 (by show w.heap.size < wr.heap.size; omega)).trans hR2
          have hf2 : ∀ o1 o2 : Obj, ((wr.alloc o1).alloc o2).frozen? ⟨w.heap.size, 2, none⟩ = false := fun o1 o2 => (two_frozen wr o1 o2 (by show w.heap.size < wr.heap.size; omega)).trans fR2
          have he2 : ∀ o1 o2 : Obj, ((wr.alloc o1).alloc o2).cell? ⟨w.heap.size + 1, 2, none⟩ = some (.int .u8 (fl a b)) := fun o1 o2 => (two_cell wr o1 o2 hsz).trans hE2
          have hq3 : ∀ o1 o2 : Obj, ((wr.alloc o1).alloc o2).cell? ⟨w.heap.size, 3, none⟩ = some (.string ⟨#[]⟩) := fun o1 o2 => (two_cell wr o1 o2 (by show w.heap.size < wr.heap.size; omega)).trans hR3
          have hf3 : ∀ o1 o2 : Obj, ((wr.alloc o1).alloc o2).frozen? ⟨w.heap.size, 3, none⟩ = false := fun o1 o2 => (two_frozen wr o1 o2 (by show w.heap.size < wr.heap.size; omega)).trans fR3
          have he3 : ∀ o1 o2 : Obj, ((wr.alloc o1).alloc o2).cell? ⟨w.heap.size + 1, 3, none⟩ = some (.string t) := fun o1 o2 => (two_cell wr o1 o2 hsz).trans hE3
          go_wp2
          go_region_with (go_at_call 12; refine (errorfA F a0 s0 s _ _ ?_ ?_ ?_ ?_).mono ?_; exact HFr.out; exact cell_first wr _ _ _; exact cell_second wr _ _ _; exact HL.out _; rintro e w' ⟨rfl, tx, rfl⟩)
          all_goals (try go_wp2)
          all_goals exact bodyPost_ret (v := .tuple #[ent (k, fl a b, t, false), .iface 54 (.pointer (some ⟨wr.heap.size + 1, 0, none⟩))]) (by simp [results, Ybaf.results7, go_sem, ent, hq0, hq1, hq2, hq3]) rfl ⟨_, by rw [HE.out], Or.inr ⟨by rw [HE.out], _, rfl, (err_end hnx hsz).2⟩, (err_end hnx hsz).1⟩
      by_cases c_map : s.toList = mapL
      · have q_gsm : (s.toList == [103, 115, 109, 45, 115, 117, 98]) = false := beq_eq_false_iff_ne.2 c_gsm
        have q_map : (s.toList == [109, 97, 112, 45, 116, 111]) = true := beq_iff_eq.2 c_map
        by_cases hk : k = 0
        · subst hk
          by_cases hi2 : i + 1 < ws.length
          · have hcd : wr.cell? ⟨g, i + 1, none⟩ = some (.string ws[i + 1]) := (hnx.cell (by exact hg)).trans (HC.out (i + 1) hi2)
            have hds := HS.out ws[i + 1] (List.getElem_mem hi2)
            have HD2 := HDR.out
            rw [drop_cons hi2] at HD2
            obtain ⟨d, hde⟩ : ∃ d, d = ws[i + 1] := ⟨_, rfl⟩
            rw [← hde] at hcd HD2 hds
            have HDR : Hid (scan block (s :: d :: ws.drop (i + 2)) 0 a b t = scan block ws 0 false false ⟨#[]⟩) := HD2
            clear hde HD2
            have hi3 : ((i : Int) + 1 == (ws.length : Int)) = false := beq_eq_false_iff_ne.2 (by omega)
            have hi4 : (i : Int) + 1 < (ws.length : Int) := by omega
            have hdl := dstr_size d.data.toList
            have hdl2 : d.data.toList.length = d.size := by simp
            rw [hdl2] at hdl
            clear hdl2
            have CM : Hid (s.toList = mapL) := c_map
            clear c_gsm c_map
            go_wp2_with fail
            refine (dig13 d wr hds).mono ?_
            rintro e w2 ⟨rfl, hb2⟩
            have hb3 := hnx.trans (hb2.mono hnx.size)
            have gsz : w.heap.size + 1 < w2.heap.size := by have := hb2.size; omega
            have HG5 : Hid (w2.heap[w.heap.size + 1]? = some (.cells #[.string ⟨#[]⟩, .int .u8 0, .int .u8 (fl a b), .string t] 30 (0, 0))) := (hb2.block _ hsz).trans HE5.out
            have HQ5 : Hid (w2.heap[w.heap.size]? = some (.cells #[.string ⟨#[]⟩, .int .u8 0, .int .u8 0, .string ⟨#[]⟩] 30 (0, 0))) := (hb2.block _ (by omega)).trans HR5.out
            have gE0 : w2.cell? ⟨w.heap.size + 1, 0, none⟩ = some (.string ⟨#[]⟩) := Lib.cell_of_heap HG5.out 0
            have gE1 : w2.cell? ⟨w.heap.size + 1, 1, none⟩ = some (.int .u8 0) := Lib.cell_of_heap HG5.out 1
            have gE2 : w2.cell? ⟨w.heap.size + 1, 2, none⟩ = some (.int .u8 (fl a b)) := Lib.cell_of_heap HG5.out 2
            have gE3 : w2.cell? ⟨w.heap.size + 1, 3, none⟩ = some (.string t) := Lib.cell_of_heap HG5.out 3
            have gF1 : w2.frozen? ⟨w.heap.size + 1, 1, none⟩ = false := Lib.frozen_of_heap HG5.out 1
            have gF3 : w2.frozen? ⟨w.heap.size + 1, 3, none⟩ = false := Lib.frozen_of_heap HG5.out 3
            have gR0 : w2.cell? ⟨w.heap.size, 0, none⟩ = some (.string ⟨#[]⟩) := Lib.cell_of_heap HQ5.out 0
            have gR1 : w2.cell? ⟨w.heap.size, 1, none⟩ = some (.int .u8 0) := Lib.cell_of_heap HQ5.out 1
            have gR2 : w2.cell? ⟨w.heap.size, 2, none⟩ = some (.int .u8 0) := Lib.cell_of_heap HQ5.out 2
            have gR3 : w2.cell? ⟨w.heap.size, 3, none⟩ = some (.string ⟨#[]⟩) := Lib.cell_of_heap HQ5.out 3
            have gf0 : w2.frozen? ⟨w.heap.size, 0, none⟩ = false := Lib.frozen_of_heap HQ5.out 0
            have gf1 : w2.frozen? ⟨w.heap.size, 1, none⟩ = false := Lib.frozen_of_heap HQ5.out 1
            have gf2 : w2.frozen? ⟨w.heap.size, 2, none⟩ = false := Lib.frozen_of_heap HQ5.out 2
            have gf3 : w2.frozen? ⟨w.heap.size, 3, none⟩ = false := Lib.frozen_of_heap HQ5.out 3
            have gcd : w2.cell? ⟨g, i + 1, none⟩ = some (.string d) := (hb2.cell (by show g < wr.heap.size; omega)).trans hcd
            have ggr : w2.cell? ⟨0, 0, none⟩ = some (.iface 70 (.pointer (some a0))) := (hb2.cell (by show 0 < wr.heap.size; omega)).trans hgr
            have gar : w2.cell? a0 = some (.string s0) := (hb2.cell (by omega)).trans har
            have HFg : Hid (F.answers w2.tape) := by show F.answers w2.tape; rw [hb2.tape]; exact HFr.out
            have HLg : Hid (∀ o : Obj, (w2.alloc o).cell? a0 = some (.string s0)) := fun o => (((Below.refl w2.heap.size w2).alloc (Nat.le_refl _) o).cell (by omega)).trans gar
            clear hE0 hE1 hE2 hE3 fE1 fE2 fE3 hR0 hR1 hR2 hR3 fR0 fR1 fR2 fR3 HE5 HR5 hcd hgr har HFr HL hcx
            obtain ⟨D, hD⟩ : ∃ D, D = dstr (digs d.data.toList) := ⟨_, rfl⟩
            obtain ⟨O, hO⟩ : ∃ O, O = dok (digs d.data.toList) := ⟨_, rfl⟩
            rw [← hD, ← hO]
            rw [← hD] at hdl
            have HD : Hid (D = dstr (digs d.data.toList)) := hD
            have HO : Hid (O = dok (digs d.data.toList)) := hO
            clear hD hO
            cases O with
            | false =>
              have HE : Hid (scan block ws 0 false false ⟨#[]⟩ = (0, fl a b, t, false)) := by show _ = _; rw [← HDR.out, scan_map_none CM.out (tgt_bad HO.out.symm)]
              clear HDR
              have hq0 : ∀ o1 o2 : Obj, ((w2.alloc o1).alloc o2).cell? ⟨w.heap.size, 0, none⟩ = some (.string ⟨#[]⟩) := fun o1 o2 => (two_cell w2 o1 o2 (by show w.heap.size < w2.heap.size; omega)).trans gR0
              have hf0 : ∀ o1 o2 : Obj, ((w2.alloc o1).alloc o2).frozen? ⟨w.heap.size, 0, none⟩ = false := fun o1 o2 => (two_frozen w2 o1 o2 (by show w.heap.size < w2.heap.size; omega)).trans gf0
              have he0 : ∀ o1 o2 : Obj, ((w2.alloc o1).alloc o2).cell? ⟨w.heap.size + 1, 0, none⟩ = some (.string ⟨#[]⟩) := fun o1 o2 => (two_cell w2 o1 o2 gsz).trans gE0
              have hq1 : ∀ o1 o2 : Obj, ((w2.alloc o1).alloc o2).cell? ⟨w.heap.size, 1, none⟩ = some (.int .u8 0) := fun o1 o2 => (two_cell w2 o1 o2 (by show w.heap.size < w2.heap.size; omega)).trans gR1
              have hf1 : ∀ o1 o2 : Obj, ((w2.alloc o1).alloc o2).frozen? ⟨w.heap.size, 1, none⟩ = false := fun o1 o2 => (two_frozen w2 o1 o2 (by show w.heap.size < w2.heap.size; omega)).trans gf1
              have he1 : ∀ o1 o2 : Obj, ((w2.alloc o1).alloc o2).cell? ⟨w.heap.size + 1, 1, none⟩ = some (.int .u8 0) := fun o1 o2 => (two_cell w2 o1 o2 gsz).trans gE1
              have hq2 : ∀ o1 o2 : Obj, ((w2.alloc o1).alloc o2).cell? ⟨w.heap.size, 2, none⟩ = some (.int .u8 0) := fun o1 o2 => (two_cell w2 o1 o2 (by show w.heap.size < w2.heap.size; omega)).trans gR2
              have hf2 : ∀ o1 o2 : Obj, ((w2.alloc o1).alloc o2).frozen? ⟨w.heap.size, 2, none⟩ = false := fun o1 o2 => (two_frozen w2 o1 o2 (by show w.heap.size < w2.heap.size; omega)).trans gf2
              have he2 : ∀ o1 o2 : Obj, ((w2.alloc o1).alloc o2).cell? ⟨w.heap.size + 1, 2, none⟩ = some (.int .u8 (fl a b)) := fun o1 o2 => (two_cell w2 o1 o2 gsz).trans gE2
              have hq3 : ∀ o1 o2 : Obj, ((w2.alloc o1).alloc o2).cell? ⟨w.heap.size, 3, none⟩ = some (.string ⟨#[]⟩) := fun o1 o2 => (two_cell w2 o1 o2 (by show w.heap.size < w2.heap.size; omega)).trans gR3
              have hf3 : ∀ o1 o2 : Obj, ((w2.alloc o1).alloc o2).frozen? ⟨w.heap.size, 3, none⟩ = false := fun o1 o2 => (two_frozen w2 o1 o2 (by show w.heap.size < w2.heap.size; omega)).trans gf3
              have he3 : ∀ o1 o2 : Obj, ((w2.alloc o1).alloc o2).cell? ⟨w.heap.size + 1, 3, none⟩ = some (.string t) := fun o1 o2 => (two_cell w2 o1 o2 gsz).trans gE3
              go_wp2
              go_region_with (go_at_call 12; refine (errorfC F a0 s0 d _ _ ?_ ?_ ?_ ?_).mono ?_; exact HFg.out; exact cell_first w2 _ _ _; exact cell_second w2 _ _ _; exact HLg.out _; rintro e w' ⟨rfl, tx, rfl⟩)
              all_goals (try go_wp2)
              all_goals exact bodyPost_ret (v := .tuple #[ent (0, fl a b, t, false), .iface 54 (.pointer (some ⟨w2.heap.size + 1, 0, none⟩))]) (by simp [results, Ybaf.results7, go_sem, ent, hq0, hq1, hq2, hq3]) rfl ⟨_, by rw [HE.out], Or.inr ⟨by rw [HE.out], _, rfl, (err_end hb3 gsz).2⟩, (err_end hb3 gsz).1⟩
            | true =>
              by_cases h10 : D.size = 10
              · have hd10 : ((D.size : Int) == 10) = true := beq_iff_eq.2 (by omega)
                have HN : Hid (scan block (ws.drop (i + 2)) 2 a b D = scan block ws 0 false false ⟨#[]⟩) := by
                  have := HDR.out
                  rw [scan_map_yes CM.out (tgt_ten HO.out.symm (by rw [← HD.out]; exact h10)), ← HD.out] at this
                  exact this
                clear HDR
                clear h10
                go_wp2
                go_roundw
                case rel => exact ⟨i + 2, 2, a, b, D, by omega, by go_num, set_target (set_kind HG5.out), set_entry (set_entry HQ5.out), (hb3.setCell (by simp) _).setCell (by simp) _, HN⟩
                case measure => simp [intOf]; omega
              · have hd10 : ((D.size : Int) == 10) = false := beq_eq_false_iff_ne.2 (by omega)
                by_cases h4 : D.size = 4
                · have hd4 : ((D.size : Int) == 4) = true := beq_iff_eq.2 (by omega)
                  by_cases hbk : block.toList = []
                  · have hbe : block.toList.isEmpty = true := by rw [hbk]; rfl
                    have HE : Hid (scan block ws 0 false false ⟨#[]⟩ = (0, fl a b, t, false)) := by show _ = _; rw [← HDR.out, scan_map_none CM.out (tgt_nofour HO.out.symm (by rw [← HD.out]; exact h10) (fun h => h.2 hbk))]
                    clear HDR
                    clear h10 h4 hbk
                    have hq0 : ∀ o1 o2 : Obj, ((w2.alloc o1).alloc o2).cell? ⟨w.heap.size, 0, none⟩ = some (.string ⟨#[]⟩) := fun o1 o2 => (two_cell w2 o1 o2 (by show w.heap.size < w2.heap.size; omega)).trans gR0
                    have hf0 : ∀ o1 o2 : Obj, ((w2.alloc o1).alloc o2).frozen? ⟨w.heap.size, 0, none⟩ = false := fun o1 o2 => (two_frozen w2 o1 o2 (by show w.heap.size < w2.heap.size; omega)).trans gf0
                    have he0 : ∀ o1 o2 : Obj, ((w2.alloc o1).alloc o2).cell? ⟨w.heap.size + 1, 0, none⟩ = some (.string ⟨#[]⟩) := fun o1 o2 => (two_cell w2 o1 o2 gsz).trans gE0
                    have hq1 : ∀ o1 o2 : Obj, ((w2.alloc o1).alloc o2).cell? ⟨w.heap.size, 1, none⟩ = some (.int .u8 0) := fun o1 o2 => (two_cell w2 o1 o2 (by show w.heap.size < w2.heap.size; omega)).trans gR1
                    have hf1 : ∀ o1 o2 : Obj, ((w2.alloc o1).alloc o2).frozen? ⟨w.heap.size, 1, none⟩ = false := fun o1 o2 => (two_frozen w2 o1 o2 (by show w.heap.size < w2.heap.size; omega)).trans gf1
                    have he1 : ∀ o1 o2 : Obj, ((w2.alloc o1).alloc o2).cell? ⟨w.heap.size + 1, 1, none⟩ = some (.int .u8 0) := fun o1 o2 => (two_cell w2 o1 o2 gsz).trans gE1
                    have hq2 : ∀ o1 o2 : Obj, ((w2.alloc o1).alloc o2).cell? ⟨w.heap.size, 2, none⟩ = some (.int .u8 0) := fun o1 o2 => (two_cell w2 o1 o2 (by show w.heap.size < w2.heap.size; omega)).trans gR2
                    have hf2 : ∀ o1 o2 : Obj, ((w2.alloc o1).alloc o2).frozen? ⟨w.heap.size, 2, none⟩ = false := fun o1 o2 => (two_frozen w2 o1 o2 (by show w.heap.size < w2.heap.size; omega)).trans gf2
                    have he2 : ∀ o1 o2 : Obj, ((w2.alloc o1).alloc o2).cell? ⟨w.heap.size + 1, 2, none⟩ = some (.int .u8 (fl a b)) := fun o1 o2 => (two_cell w2 o1 o2 gsz).trans gE2
                    have hq3 : ∀ o1 o2 : Obj, ((w2.alloc o1).alloc o2).cell? ⟨w.heap.size, 3, none⟩ = some (.string ⟨#[]⟩) := fun o1 o2 => (two_cell w2 o1 o2 (by show w.heap.size < w2.heap.size; omega)).trans gR3
                    have hf3 : ∀ o1 o2 : Obj, ((w2.alloc o1).alloc o2).frozen? ⟨w.heap.size, 3, none⟩ = false := fun o1 o2 => (two_frozen w2 o1 o2 (by show w.heap.size < w2.heap.size; omega)).trans gf3
                    have he3 : ∀ o1 o2 : Obj, ((w2.alloc o1).alloc o2).cell? ⟨w.heap.size + 1, 3, none⟩ = some (.string t) := fun o1 o2 => (two_cell w2 o1 o2 gsz).trans gE3
                    go_wp2
                    go_region_with (go_at_call 12; refine (errorfC F a0 s0 d _ _ ?_ ?_ ?_ ?_).mono ?_; exact HFg.out; exact cell_first w2 _ _ _; exact cell_second w2 _ _ _; exact HLg.out _; rintro e w' ⟨rfl, tx, rfl⟩)
                    all_goals (try go_wp2)
                    all_goals exact bodyPost_ret (v := .tuple #[ent (0, fl a b, t, false), .iface 54 (.pointer (some ⟨w2.heap.size + 1, 0, none⟩))]) (by simp [results, Ybaf.results7, go_sem, ent, hq0, hq1, hq2, hq3]) rfl ⟨_, by rw [HE.out], Or.inr ⟨by rw [HE.out], _, rfl, (err_end hb3 gsz).2⟩, (err_end hb3 gsz).1⟩
                  · have hbe : block.toList.isEmpty = false := by simpa using hbk
                    have HN : Hid (scan block (ws.drop (i + 2)) 2 a b (block ++ D) = scan block ws 0 false false ⟨#[]⟩) := by
                      have := HDR.out
                      rw [scan_map_yes CM.out (tgt_four HO.out.symm (by rw [← HD.out]; exact h4) hbk), ← HD.out] at this
                      exact this
                    clear HDR
                    clear h10 h4 hbk
                    go_wp2
                    go_roundw
                    case rel => exact ⟨i + 2, 2, a, b, (block ++ D), by omega, by go_num, set_target (set_kind HG5.out), set_entry (set_entry HQ5.out), (hb3.setCell (by simp) _).setCell (by simp) _, HN⟩
                    case measure => simp [intOf]; omega
                · have hd4 : ((D.size : Int) == 4) = false := beq_eq_false_iff_ne.2 (by omega)
                  have HE : Hid (scan block ws 0 false false ⟨#[]⟩ = (0, fl a b, t, false)) := by show _ = _; rw [← HDR.out, scan_map_none CM.out (tgt_nofour HO.out.symm (by rw [← HD.out]; exact h10) (fun h => h4 (by rw [HD.out]; exact h.1)))]
                  clear HDR
                  clear h10 h4
                  have hq0 : ∀ o1 o2 : Obj, ((w2.alloc o1).alloc o2).cell? ⟨w.heap.size, 0, none⟩ = some (.string ⟨#[]⟩) := fun o1 o2 => (two_cell w2 o1 o2 (by show w.heap.size < w2.heap.size; omega)).trans gR0
                  have hf0 : ∀ o1 o2 : Obj, ((w2.alloc o1).alloc o2).frozen? ⟨w.heap.size, 0, none⟩ = false := fun o1 o2 => (two_frozen w2 o1 o2 (by show w.heap.size < w2.heap.size; omega)).trans gf0
                  have he0 : ∀ o1 o2 : Obj, ((w2.alloc o1).alloc o2).cell? ⟨w.heap.size + 1, 0, none⟩ = some (.string ⟨#[]⟩) := fun o1 o2 => (two_cell w2 o1 o2 gsz).trans gE0
                  have hq1 : ∀ o1 o2 : Obj, ((w2.alloc o1).alloc o2).cell? ⟨w.heap.size, 1, none⟩ = some (.int .u8 0) := fun o1 o2 => (two_cell w2 o1 o2 (by show w.heap.size < w2.heap.size; omega)).trans gR1
                  have hf1 : ∀ o1 o2 : Obj, ((w2.alloc o1).alloc o2).frozen? ⟨w.heap.size, 1, none⟩ = false := fun o1 o2 => (two_frozen w2 o1 o2 (by show w.heap.size < w2.heap.size; omega)).trans gf1
                  have he1 : ∀ o1 o2 : Obj, ((w2.alloc o1).alloc o2).cell? ⟨w.heap.size + 1, 1, none⟩ = some (.int .u8 0) := fun o1 o2 => (two_cell w2 o1 o2 gsz).trans gE1
                  have hq2 : ∀ o1 o2 : Obj, ((w2.alloc o1).alloc o2).cell? ⟨w.heap.size, 2, none⟩ = some (.int .u8 0) := fun o1 o2 => (two_cell w2 o1 o2 (by show w.heap.size < w2.heap.size; omega)).trans gR2
                  have hf2 : ∀ o1 o2 : Obj, ((w2.alloc o1).alloc o2).frozen? ⟨w.heap.size, 2, none⟩ = false := fun o1 o2 => (two_frozen w2 o1 o2 (by show w.heap.size < w2.heap.size; omega)).trans gf2
                  have he2 : ∀ o1 o2 : Obj, ((w2.alloc o1).alloc o2).cell? ⟨w.heap.size + 1, 2, none⟩ = some (.int .u8 (fl a b)) := fun o1 o2 => (two_cell w2 o1 o2 gsz).trans gE2
                  have hq3 : ∀ o1 o2 : Obj, ((w2.alloc o1).alloc o2).cell? ⟨w.heap.size, 3, none⟩ = some (.string ⟨#[]⟩) := fun o1 o2 => (two_cell w2 o1 o2 (by show w.heap.size < w2.heap.size; omega)).trans gR3
                  have hf3 : ∀ o1 o2 : Obj, ((w2.alloc o1).alloc o2).frozen? ⟨w.heap.size, 3, none⟩ = false := fun o1 o2 => (two_frozen w2 o1 o2 (by show w.heap.size < w2.heap.size; omega)).trans gf3
                  have he3 : ∀ o1 o2 : Obj, ((w2.alloc o1).alloc o2).cell? ⟨w.heap.size + 1, 3, none⟩ = some (.string t) := fun o1 o2 => (two_cell w2 o1 o2 gsz).trans gE3
                  go_wp2
                  go_region_with (go_at_call 12; refine (errorfC F a0 s0 d _ _ ?_ ?_ ?_ ?_).mono ?_; exact HFg.out; exact cell_first w2 _ _ _; exact cell_second w2 _ _ _; exact HLg.out _; rintro e w' ⟨rfl, tx, rfl⟩)
                  all_goals (try go_wp2)
                  all_goals exact bodyPost_ret (v := .tuple #[ent (0, fl a b, t, false), .iface 54 (.pointer (some ⟨w2.heap.size + 1, 0, none⟩))]) (by simp [results, Ybaf.results7, go_sem, ent, hq0, hq1, hq2, hq3]) rfl ⟨_, by rw [HE.out], Or.inr ⟨by rw [HE.out], _, rfl, (err_end hb3 gsz).2⟩, (err_end hb3 gsz).1⟩
          · have hi3 : ((i : Int) + 1 == (ws.length : Int)) = true := beq_iff_eq.2 (by omega)
            have hdn : ws.drop (i + 1) = [] := List.drop_eq_nil_iff.2 (by omega)
            have HE : Hid (scan block ws 0 false false ⟨#[]⟩ = (0, fl a b, t, false)) := by show _ = _; rw [← HDR.out, hdn, scan_map_end c_map]
            clear HDR
            clear c_gsm c_map hdn
            have hq0 : ∀ o1 o2 : Obj, ((wr.alloc o1).alloc o2).cell? ⟨w.heap.size, 0, none⟩ = some (.string ⟨#[]⟩) := fun o1 o2 => (two_cell wr o1 o2 (by show w.heap.size < wr.heap.size; omega)).trans hR0
            have hf0 : ∀ o1 o2 : Obj, ((wr.alloc o1).alloc o2).frozen? ⟨w.heap.size, 0, none⟩ = false := fun o1 o2 => (two_frozen wr o1 o2 (by show w.heap.size < wr.heap.size; omega)).trans fR0
            have he0 : ∀ o1 o2 : Obj, ((wr.alloc o1).alloc o2).cell? ⟨w.heap.size + 1, 0, none⟩ = some (.string ⟨#[]⟩) := fun o1 o2 => (two_cell wr o1 o2 hsz).trans hE0
            have hq1 : ∀ o1 o2 : Obj, ((wr.alloc o1).alloc o2).cell? ⟨w.heap.size, 1, none⟩ = some (.int .u8 0) := fun o1 o2 => (two_cell wr o1 o2 (by show w.heap.size < wr.heap.size; omega)).trans hR1
            have hf1 : ∀ o1 o2 : Obj, ((wr.alloc o1).alloc o2).frozen? ⟨w.heap.size, 1, none⟩ = false := fun o1 o2 => (two_frozen wr o1 o2 (by show w.heap.size < wr.heap.size; omega)).trans fR1
            have he1 : ∀ o1 o2 : Obj, ((wr.alloc o1).alloc o2).cell? ⟨w.heap.size + 1, 1, none⟩ = some (.int .u8 0) := fun o1 o2 => (two_cell wr o1 o2 hsz).trans hE1
            have hq2 : ∀ o1 o2 : Obj, ((wr.alloc o1).alloc o2).cell? ⟨w.heap.size, 2, none⟩ = some (.int .u8 0) := fun o1 o2 => (two_cell wr o1 o2 (by show w.heap.size < wr.heap.size; omega)).trans hR2
            have hf2 : ∀ o1 o2 : Obj, ((wr.alloc o1).alloc o2).frozen? ⟨w.heap.size, 2, none⟩ = false := fun o1 o2 => (two_frozen wr o1 o2 (by show w.heap.size < wr.heap.size; omega)).trans fR2
            have he2 : ∀ o1 o2 : Obj, ((wr.alloc o1).alloc o2).cell? ⟨w.heap.size + 1, 2, none⟩ = some (.int .u8 (fl a b)) := fun o1 o2 => (two_cell wr o1 o2 hsz).trans hE2
            have hq3 : ∀ o1 o2 : Obj, ((wr.alloc o1).alloc o2).cell? ⟨w.heap.size, 3, none⟩ = some (.string ⟨#[]⟩) := fun o1 o2 => (two_cell wr o1 o2 (by show w.heap.size < wr.heap.size; omega)).trans hR3
            have hf3 : ∀ o1 o2 : Obj, ((wr.alloc o1).alloc o2).frozen? ⟨w.heap.size, 3, none⟩ = false := fun o1 o2 => (two_frozen wr o1 o2 (by show w.heap.size < wr.heap.size; omega)).trans fR3
            have he3 : ∀ o1 o2 : Obj, ((wr.alloc o1).alloc o2).cell? ⟨w.heap.size + 1, 3, none⟩ = some (.string t) := fun o1 o2 => (two_cell wr o1 o2 hsz).trans hE3
            go_wp2
            go_region_with (go_at_call 12; refine (errorfB F a0 s0 _ _ ?_ ?_ ?_).mono ?_; exact HFr.out; exact cell_only wr _ _; exact HL.out _; rintro e w' ⟨rfl, tx, rfl⟩)
            all_goals (try go_wp2)
            all_goals exact bodyPost_ret (v := .tuple #[ent (0, fl a b, t, false), .iface 54 (.pointer (some ⟨wr.heap.size + 1, 0, none⟩))]) (by simp [results, Ybaf.results7, go_sem, ent, hq0, hq1, hq2, hq3]) rfl ⟨_, by rw [HE.out], Or.inr ⟨by rw [HE.out], _, rfl, (err_end hnx hsz).2⟩, (err_end hnx hsz).1⟩
        · have hk' : (k != 0) = true := bne_iff_ne.2 hk
          have HE : Hid (scan block ws 0 false false ⟨#[]⟩ = (k, fl a b, t, false)) := by show _ = _; rw [← HDR.out, scan_map_no c_map hk]
          clear HDR
          clear c_gsm c_map hk
          have hq0 : ∀ o1 o2 : Obj, ((wr.alloc o1).alloc o2).cell? ⟨w.heap.size, 0, none⟩ = some (.string ⟨#[]⟩) := fun o1 o2 => (two_cell wr o1 o2 (by show w.heap.size < wr.heap.size; omega)).trans hR0
          have hf0 : ∀ o1 o2 : Obj, ((wr.alloc o1).alloc o2).frozen? ⟨w.heap.size, 0, none⟩ = false := fun o1 o2 => (two_frozen wr o1 o2 (by show w.heap.size < wr.heap.size; omega)).trans fR0
          have he0 : ∀ o1 o2 : Obj, ((wr.alloc o1).alloc o2).cell? ⟨w.heap.size + 1, 0, none⟩ = some (.string ⟨#[]⟩) := fun o1 o2 => (two_cell wr o1 o2 hsz).trans hE0
          have hq1 : ∀ o1 o2 : Obj, ((wr.alloc o1).alloc o2).cell? ⟨w.heap.size, 1, none⟩ = some (.int .u8 0) := fun o1 o2 => (two_cell wr o1 o2 (by show w.heap.size < wr.heap.size; omega)).trans hR1
          have hf1 : ∀ o1 o2 : Obj, ((wr.alloc o1).alloc o2).frozen? ⟨w.heap.size, 1, none⟩ = false := fun o1 o2 => (two_frozen wr o1 o2 (by show w.heap.size < wr.heap.size; omega)).trans fR1
          have he1 : ∀ o1 o2 : Obj, ((wr.alloc o1).alloc o2).cell? ⟨w.heap.size + 1, 1, none⟩ = some (.int .u8 k) := fun o1 o2 => (two_cell wr o1 o2 hsz).trans hE1
          have hq2 : ∀ o1 o2 : Obj, ((wr.alloc o1).alloc o2).cell? ⟨w.heap.size, 2, none⟩ = some (.int .u8 0) := fun o1 o2 => (two_cell wr o1 o2 (by show w.heap.size < wr.heap.size; omega)).trans hR2
          have hf2 : ∀ o1 o2 : Obj, ((wr.alloc o1).alloc o2).frozen? ⟨w.heap.size, 2, none⟩ = false := fun o1 o2 => (two_frozen wr o1 o2 (by show w.heap.size < wr.heap.size; omega)).trans fR2
          have he2 : ∀ o1 o2 : Obj, ((wr.alloc o1).alloc o2).cell? ⟨w.heap.size + 1, 2, none⟩ = some (.int .u8 (fl a b)) := fun o1 o2 => (two_cell wr o1 o2 hsz).trans hE2
          have hq3 : ∀ o1 o2 : Obj, ((wr.alloc o1).alloc o2).cell? ⟨w.heap.size, 3, none⟩ = some (.string ⟨#[]⟩) := fun o1 o2 => (two_cell wr o1 o2 (by show w.heap.size < wr.heap.size; omega)).trans hR3
          have hf3 : ∀ o1 o2 : Obj, ((wr.alloc o1).alloc o2).frozen? ⟨w.heap.size, 3, none⟩ = false := fun o1 o2 => (two_frozen wr o1 o2 (by show w.heap.size < wr.heap.size; omega)).trans fR3
          have he3 : ∀ o1 o2 : Obj, ((wr.alloc o1).alloc o2).cell? ⟨w.heap.size + 1, 3, none⟩ = some (.string t) := fun o1 o2 => (two_cell wr o1 o2 hsz).trans hE3
          go_wp2
          go_region_with (go_at_call 12; refine (errorfA F a0 s0 s _ _ ?_ ?_ ?_ ?_).mono ?_; exact HFr.out; exact cell_first wr _ _ _; exact cell_second wr _ _ _; exact HL.out _; rintro e w' ⟨rfl, tx, rfl⟩)
          all_goals (try go_wp2)
          all_goals exact bodyPost_ret (v := .tuple #[ent (k, fl a b, t, false), .iface 54 (.pointer (some ⟨wr.heap.size + 1, 0, none⟩))]) (by simp [results, Ybaf.results7, go_sem, ent, hq0, hq1, hq2, hq3]) rfl ⟨_, by rw [HE.out], Or.inr ⟨by rw [HE.out], _, rfl, (err_end hnx hsz).2⟩, (err_end hnx hsz).1⟩
      by_cases c_e9 : s.toList = e9L
      · have q_gsm : (s.toList == [103, 115, 109, 45, 115, 117, 98]) = false := beq_eq_false_iff_ne.2 c_gsm
        have q_map : (s.toList == [109, 97, 112, 45, 116, 111]) = false := beq_eq_false_iff_ne.2 c_map
        have q_e9 : (s.toList == [101, 57, 49, 49]) = true := beq_iff_eq.2 c_e9
        have q_sms : (s.toList == [115, 109, 115]) = false := beq_eq_false_iff_ne.2 (by rw [c_e9]; decide)
        have ha := and1 a b
        cases a with
        | false =>
          have HN : Hid (scan block (ws.drop (i + 1)) k true b t = scan block ws 0 false false ⟨#[]⟩) := by
            have := HDR.out
            rw [scan_e9 c_e9] at this
            exact this
          clear HDR
          clear c_gsm c_map c_e9
          go_wp2
          go_roundw
          case rel => exact ⟨i + 1, k, true, b, t, by omega, by go_num, by rw [or1]; exact set_flags HE5.out, set_entry HR5.out, hnx.setCell (by simp) _, HN⟩
          case measure => simp [intOf]; omega
        | true =>
          have HE : Hid (scan block ws 0 false false ⟨#[]⟩ = (k, fl true b, t, false)) := by show _ = _; rw [← HDR.out, scan_e9_no c_e9]
          clear HDR
          clear c_gsm c_map c_e9
          have hq0 : ∀ o1 o2 : Obj, ((wr.alloc o1).alloc o2).cell? ⟨w.heap.size, 0, none⟩ = some (.string ⟨#[]⟩) := fun o1 o2 => (two_cell wr o1 o2 (by show w.heap.size < wr.heap.size; omega)).trans hR0
          have hf0 : ∀ o1 o2 : Obj, ((wr.alloc o1).alloc o2).frozen? ⟨w.heap.size, 0, none⟩ = false := fun o1 o2 => (two_frozen wr o1 o2 (by show w.heap.size < wr.heap.size; omega)).trans fR0
          have he0 : ∀ o1 o2 : Obj, ((wr.alloc o1).alloc o2).cell? ⟨w.heap.size + 1, 0, none⟩ = some (.string ⟨#[]⟩) := fun o1 o2 => (two_cell wr o1 o2 hsz).trans hE0
          have hq1 : ∀ o1 o2 : Obj, ((wr.alloc o1).alloc o2).cell? ⟨w.heap.size, 1, none⟩ = some (.int .u8 0) := fun o1 o2 => (two_cell wr o1 o2 (by show w.heap.size < wr.heap.size; omega)).trans hR1
          have hf1 : ∀ o1 o2 : Obj, ((wr.alloc o1).alloc o2).frozen? ⟨w.heap.size, 1, none⟩ = false := fun o1 o2 => (two_frozen wr o1 o2 (by show w.heap.size < wr.heap.size; omega)).trans fR1
          have he1 : ∀ o1 o2 : Obj, ((wr.alloc o1).alloc o2).cell? ⟨w.heap.size + 1, 1, none⟩ = some (.int .u8 k) := fun o1 o2 => (two_cell wr o1 o2 hsz).trans hE1
          have hq2 : ∀ o1 o2 : Obj, ((wr.alloc o1).alloc o2).cell? ⟨w.heap.size, 2, none⟩ = some (.int .u8 0) := fun o1 o2 => (two_cell wr o1 o2 (by show w.heap.size < wr.heap.size; omega)).trans hR2
          have hf2 : ∀ o1 o2 : Obj, ((wr.alloc o1).alloc o2).frozen? ⟨w.heap.size, 2, none⟩ = false := fun o1 o2 => (two_frozen wr o1 o2 (by show w.heap.size < wr.heap.size; omega)).trans fR2
          have he2 : ∀ o1 o2 : Obj, ((wr.alloc o1).alloc o2).cell? ⟨w.heap.size + 1, 2, none⟩ = some (.int .u8 (fl true b)) := fun o1 o2 => (two_cell wr o1 o2 hsz).trans hE2
          have hq3 : ∀ o1 o2 : Obj, ((wr.alloc o1).alloc o2).cell? ⟨w.heap.size, 3, none⟩ = some (.string ⟨#[]⟩) := fun o1 o2 => (two_cell wr o1 o2 (by show w.heap.size < wr.heap.size; omega)).trans hR3
          have hf3 : ∀ o1 o2 : Obj, ((wr.alloc o1).alloc o2).frozen? ⟨w.heap.size, 3, none⟩ = false := fun o1 o2 => (two_frozen wr o1 o2 (by show w.heap.size < wr.heap.size; omega)).trans fR3
          have he3 : ∀ o1 o2 : Obj, ((wr.alloc o1).alloc o2).cell? ⟨w.heap.size + 1, 3, none⟩ = some (.string t) := fun o1 o2 => (two_cell wr o1 o2 hsz).trans hE3
          go_wp2
          go_region_with (go_at_call 12; refine (errorfD F a0 s0 s _ _ ?_ ?_ ?_ ?_).mono ?_; exact HFr.out; exact cell_first wr _ _ _; exact cell_second wr _ _ _; exact HL.out _; rintro e w' ⟨rfl, tx, rfl⟩)
          all_goals (try go_wp2)
          all_goals exact bodyPost_ret (v := .tuple #[ent (k, fl true b, t, false), .iface 54 (.pointer (some ⟨wr.heap.size + 1, 0, none⟩))]) (by simp [results, Ybaf.results7, go_sem, ent, hq0, hq1, hq2, hq3]) rfl ⟨_, by rw [HE.out], Or.inr ⟨by rw [HE.out], _, rfl, (err_end hnx hsz).2⟩, (err_end hnx hsz).1⟩
      by_cases c_sms : s.toList = smsL
      · have q_gsm : (s.toList == [103, 115, 109, 45, 115, 117, 98]) = false := beq_eq_false_iff_ne.2 c_gsm
        have q_map : (s.toList == [109, 97, 112, 45, 116, 111]) = false := beq_eq_false_iff_ne.2 c_map
        have q_e9 : (s.toList == [101, 57, 49, 49]) = false := beq_eq_false_iff_ne.2 c_e9
        have q_sms : (s.toList == [115, 109, 115]) = true := beq_iff_eq.2 c_sms
        have ha := and2 a b
        cases b with
        | false =>
          have HN : Hid (scan block (ws.drop (i + 1)) k a true t = scan block ws 0 false false ⟨#[]⟩) := by
            have := HDR.out
            rw [scan_sms c_sms] at this
            exact this
          clear HDR
          clear c_gsm c_map c_e9 c_sms
          go_wp2
          go_roundw
          case rel => exact ⟨i + 1, k, a, true, t, by omega, by go_num, by rw [or2]; exact set_flags HE5.out, set_entry HR5.out, hnx.setCell (by simp) _, HN⟩
          case measure => simp [intOf]; omega
        | true =>
          have HE : Hid (scan block ws 0 false false ⟨#[]⟩ = (k, fl a true, t, false)) := by show _ = _; rw [← HDR.out, scan_sms_no c_sms]
          clear HDR
          clear c_gsm c_map c_e9 c_sms
          have hq0 : ∀ o1 o2 : Obj, ((wr.alloc o1).alloc o2).cell? ⟨w.heap.size, 0, none⟩ = some (.string ⟨#[]⟩) := fun o1 o2 => (two_cell wr o1 o2 (by show w.heap.size < wr.heap.size; omega)).trans hR0
          have hf0 : ∀ o1 o2 : Obj, ((wr.alloc o1).alloc o2).frozen? ⟨w.heap.size, 0, none⟩ = false := fun o1 o2 => (two_frozen wr o1 o2 (by show w.heap.size < wr.heap.size; omega)).trans fR0
          have he0 : ∀ o1 o2 : Obj, ((wr.alloc o1).alloc o2).cell? ⟨w.heap.size + 1, 0, none⟩ = some (.string ⟨#[]⟩) := fun o1 o2 => (two_cell wr o1 o2 hsz).trans hE0
          have hq1 : ∀ o1 o2 : Obj, ((wr.alloc o1).alloc o2).cell? ⟨w.heap.size, 1, none⟩ = some (.int .u8 0) := fun o1 o2 => (two_cell wr o1 o2 (by show w.heap.size < wr.heap.size; omega)).trans hR1
          have hf1 : ∀ o1 o2 : Obj, ((wr.alloc o1).alloc o2).frozen? ⟨w.heap.size, 1, none⟩ = false := fun o1 o2 => (two_frozen wr o1 o2 (by show w.heap.size < wr.heap.size; omega)).trans fR1
          have he1 : ∀ o1 o2 : Obj, ((wr.alloc o1).alloc o2).cell? ⟨w.heap.size + 1, 1, none⟩ = some (.int .u8 k) := fun o1 o2 => (two_cell wr o1 o2 hsz).trans hE1
          have hq2 : ∀ o1 o2 : Obj, ((wr.alloc o1).alloc o2).cell? ⟨w.heap.size, 2, none⟩ = some (.int .u8 0) := fun o1 o2 => (two_cell wr o1 o2 (by show w.heap.size < wr.heap.size; omega)).trans hR2
          have hf2 : ∀ o1 o2 : Obj, ((wr.alloc o1).alloc o2).frozen? ⟨w.heap.size, 2, none⟩ = false := fun o1 o2 => (two_frozen wr o1 o2 (by show w.heap.size < wr.heap.size; omega)).trans fR2
          have he2 : ∀ o1 o2 : Obj, ((wr.alloc o1).alloc o2).cell? ⟨w.heap.size + 1, 2, none⟩ = some (.int .u8 (fl a true)) := fun o1 o2 => (two_cell wr o1 o2 hsz).trans hE2
          have hq3 : ∀ o1 o2 : Obj, ((wr.alloc o1).alloc o2).cell? ⟨w.heap.size, 3, none⟩ = some (.string ⟨#[]⟩) := fun o1 o2 => (two_cell wr o1 o2 (by show w.heap.size < wr.heap.size; omega)).trans hR3
          have hf3 : ∀ o1 o2 : Obj, ((wr.alloc o1).alloc o2).frozen? ⟨w.heap.size, 3, none⟩ = false := fun o1 o2 => (two_frozen wr o1 o2 (by show w.heap.size < wr.heap.size; omega)).trans fR3
          have he3 : ∀ o1 o2 : Obj, ((wr.alloc o1).alloc o2).cell? ⟨w.heap.size + 1, 3, none⟩ = some (.string t) := fun o1 o2 => (two_cell wr o1 o2 hsz).trans hE3
          go_wp2
          go_region_with (go_at_call 12; refine (errorfD F a0 s0 s _ _ ?_ ?_ ?_ ?_).mono ?_; exact HFr.out; exact cell_first wr _ _ _; exact cell_second wr _ _ _; exact HL.out _; rintro e w' ⟨rfl, tx, rfl⟩)
          all_goals (try go_wp2)
          all_goals exact bodyPost_ret (v := .tuple #[ent (k, fl a true, t, false), .iface 54 (.pointer (some ⟨wr.heap.size + 1, 0, none⟩))]) (by simp [results, Ybaf.results7, go_sem, ent, hq0, hq1, hq2, hq3]) rfl ⟨_, by rw [HE.out], Or.inr ⟨by rw [HE.out], _, rfl, (err_end hnx hsz).2⟩, (err_end hnx hsz).1⟩
      have q_gsm : (s.toList == [103, 115, 109, 45, 115, 117, 98]) = false := beq_eq_false_iff_ne.2 c_gsm
      have q_map : (s.toList == [109, 97, 112, 45, 116, 111]) = false := beq_eq_false_iff_ne.2 c_map
      have q_e9 : (s.toList == [101, 57, 49, 49]) = false := beq_eq_false_iff_ne.2 c_e9
      have q_sms : (s.toList == [115, 109, 115]) = false := beq_eq_false_iff_ne.2 c_sms
      have HE : Hid (scan block ws 0 false false ⟨#[]⟩ = (k, fl a b, t, false)) := by show _ = _; rw [← HDR.out, scan_other c_gsm c_map c_e9 c_sms]
      clear HDR
      clear c_gsm c_map c_e9 c_sms
      have hq0 : ∀ o1 o2 : Obj, ((wr.alloc o1).alloc o2).cell? ⟨w.heap.size, 0, none⟩ = some (.string ⟨#[]⟩) := fun o1 o2 => (two_cell wr o1 o2 (by show w.heap.size < wr.heap.size; omega)).trans hR0
      have hf0 : ∀ o1 o2 : Obj, ((wr.alloc o1).alloc o2).frozen? ⟨w.heap.size, 0, none⟩ = false := fun o1 o2 => (two_frozen wr o1 o2 (by show w.heap.size < wr.heap.size; omega)).trans fR0
      have he0 : ∀ o1 o2 : Obj, ((wr.alloc o1).alloc o2).cell? ⟨w.heap.size + 1, 0, none⟩ = some (.string ⟨#[]⟩) := fun o1 o2 => (two_cell wr o1 o2 hsz).trans hE0
      have hq1 : ∀ o1 o2 : Obj, ((wr.alloc o1).alloc o2).cell? ⟨w.heap.size, 1, none⟩ = some (.int .u8 0) := fun o1 o2 => (two_cell wr o1 o2 (by show w.heap.size < wr.heap.size; omega)).trans hR1
      have hf1 : ∀ o1 o2 : Obj, ((wr.alloc o1).alloc o2).frozen? ⟨w.heap.size, 1, none⟩ = false := fun o1 o2 => (two_frozen wr o1 o2 (by show w.heap.size < wr.heap.size; omega)).trans fR1
      have he1 : ∀ o1 o2 : Obj, ((wr.alloc o1).alloc o2).cell? ⟨w.heap.size + 1, 1, none⟩ = some (.int .u8 k) := fun o1 o2 => (two_cell wr o1 o2 hsz).trans hE1
      have hq2 : ∀ o1 o2 : Obj, ((wr.alloc o1).alloc o2).cell? ⟨w.heap.size, 2, none⟩ = some (.int .u8 0) := fun o1 o2 => (two_cell wr o1 o2 (by show w.heap.size < wr.heap.size; omega)).trans hR2
      have hf2 : ∀ o1 o2 : Obj, ((wr.alloc o1).alloc o2).frozen? ⟨w.heap.size, 2, none⟩ = false := fun o1 o2 => (two_frozen wr o1 o2 (by show w.heap.size < wr.heap.size; omega)).trans fR2
      have he2 : ∀ o1 o2 : Obj, ((wr.alloc o1).alloc o2).cell? ⟨w.heap.size + 1, 2, none⟩ = some (.int .u8 (fl a b)) := fun o1 o2 => (two_cell wr o1 o2 hsz).trans hE2
      have hq3 : ∀ o1 o2 : Obj, ((wr.alloc o1).alloc o2).cell? ⟨w.heap.size, 3, none⟩ = some (.string ⟨#[]⟩) := fun o1 o2 => (two_cell wr o1 o2 (by show w.heap.size < wr.heap.size; omega)).trans hR3
      have hf3 : ∀ o1 o2 : Obj, ((wr.alloc o1).alloc o2).frozen? ⟨w.heap.size, 3, none⟩ = false := fun o1 o2 => (two_frozen wr o1 o2 (by show w.heap.size < wr.heap.size; omega)).trans fR3
      have he3 : ∀ o1 o2 : Obj, ((wr.alloc o1).alloc o2).cell? ⟨w.heap.size + 1, 3, none⟩ = some (.string t) := fun o1 o2 => (two_cell wr o1 o2 hsz).trans hE3
      go_wp2
      go_region_with (go_at_call 12; refine (errorfE F a0 s0 s _ _ ?_ ?_ ?_ ?_).mono ?_; exact HFr.out; exact cell_first wr _ _ _; exact cell_second wr _ _ _; exact HL.out _; rintro e w' ⟨rfl, tx, rfl⟩)
      all_goals (try go_wp2)
      all_goals exact bodyPost_ret (v := .tuple #[ent (k, fl a b, t, false), .iface 54 (.pointer (some ⟨wr.heap.size + 1, 0, none⟩))]) (by simp [results, Ybaf.results7, go_sem, ent, hq0, hq1, hq2, hq3]) rfl ⟨_, by rw [HE.out], Or.inr ⟨by rw [HE.out], _, rfl, (err_end hnx hsz).2⟩, (err_end hnx hsz).1⟩
    · have hdn : ws.drop i = [] := List.drop_eq_nil_iff.2 (by omega)
      have HE : Hid (scan block ws 0 false false ⟨#[]⟩ = (k, fl a b, t, true)) := by show _ = _; rw [← HD.out, hdn, scan_end]
      clear HD hdn
      go_wp2
      exact bodyPost_ret (v := .tuple #[ent (k, fl a b, t, true), .nilIface]) (by simp [results, Ybaf.results7, go_sem, ent, hR0, hR1, hR2, hR3]) rfl ⟨_, by rw [HE.out], Or.inl ⟨by rw [HE.out], rfl⟩, (((hnx.setCell (Nat.le_refl _) _).setCell (Nat.le_refl _) _).setCell (Nat.le_refl _) _).setCell (Nat.le_refl _) _⟩

end Att
end Go.Proofs.YbulkaxeuFmt
