/-
  THE WALK of LawS2425BAttributes (function 3), its first part: the loop that lays the words.
-/
import Derived.Test.YbulkaxeuFmtNum
import Derived.Test.YbulkaxeuFmtIs
import Derived.Test.YbulkaxeuFmtAttr
namespace Go.Proofs.YbulkaxeuFmt
namespace Att
open Go.RowKit Go.Extern.Stop Go.Stop Go.Extern

theorem info9 : (Ybaf.prog.info? 9).map (fun i => (i.zero, i.size, i.bytes)) = some (some (.string ⟨#[]⟩), 1, 16) := by kernel_rfl

/-- The words gathered so far lie in the call's own row. -/
def Rows1 (w : World) (np : Nat) (ws : List ByteArray) (wr : World) : Prop :=
  wr.ownsRow w.heap.size 9 1 (.slice (some ⟨w.heap.size, 0, none⟩) ws.length np) ws.length (ws.map Value.string)

theorem words_snoc {ws : List ByteArray} {x : ByteArray} (h : Hid (∀ s ∈ ws, s.size ≤ 140737488351232)) (hx : x.size ≤ 140737488351232) : Hid (∀ s ∈ ws ++ [x], s.size ≤ 140737488351232) := by
  intro s hs
  rcases List.mem_append.1 hs with h1 | h1
  · exact h.out s h1
  · simp at h1; subst h1; exact hx
theorem rows_snoc {w w2 : World} {np : Nat} {ws : List ByteArray} {x : ByteArray} (h : w2.ownsRow w.heap.size 9 1 (.slice (some ⟨w.heap.size, 0, none⟩) (ws.length + 1) np) (ws.length + 1) (ws.map Value.string ++ [.string x])) : Rows1 w np (ws ++ [x]) w2 := by
  simpa [Rows1] using h
theorem rows_block {w wr : World} {np : Nat} {ws : List ByteArray} (h : Rows1 w np ws wr) : ∃ cur, wr.heap[w.heap.size]? = some (.cells cur 9 (0, 0)) ∧ cur.toList.take ws.length = ws.map Value.string := by
  rcases h.2 with ⟨h, _⟩ | ⟨g, cap, cur, hv, _, hg, _, _, _, ht⟩
  · cases h
  · injection hv with h1 _ _
    injection h1 with h1
    injection h1 with h1 _ _
    subst h1
    exact ⟨cur, hg, by simpa using ht⟩
theorem rows_lt {w wr : World} {np : Nat} {ws : List ByteArray} (h : Rows1 w np ws wr) : w.heap.size < wr.heap.size := by
  obtain ⟨cur, hc, _⟩ := rows_block h
  exact lt_of_block hc
theorem rows_below {w wr w2 : World} {np : Nat} {ws : List ByteArray} (h : Rows1 w np ws wr) (hb : Below wr.heap.size wr w2) : Rows1 w np ws w2 := by
  have hlt := rows_lt h
  refine ⟨h.1, ?_⟩
  rcases h.2 with h' | ⟨g, cap, cur, hv, h1, hg, h2⟩
  · exact Or.inl h'
  · refine Or.inr ⟨g, cap, cur, hv, h1, ?_, h2⟩
    rw [hb.block g (lt_of_block hg)]
    exact hg
theorem two_less (w : World) (o : Obj) {p : Addr} (h : p.block < w.heap.size) : (w.alloc o).cell? p = w.cell? p :=
  ((Below.refl w.heap.size w).alloc (Nat.le_refl _) o).cell h
theorem rows_cell {w wr : World} {np : Nat} {ws : List ByteArray} (h : Rows1 w np ws wr) (j : Nat) (hj : j < ws.length) : wr.cell? ⟨w.heap.size, j, none⟩ = some (.string ws[j]) := by
  obtain ⟨cur, hc, ht⟩ := rows_block h
  rw [Lib.cell_of_heap hc j]
  have h1 : cur.toList[j]? = (cur.toList.take ws.length)[j]? := by rw [List.getElem?_take_of_lt hj]
  rw [← Array.getElem?_toList, h1, ht]
  simp [hj]

set_option maxRecDepth 100000 in
set_option maxHeartbeats 4000000 in
theorem law3 (F : Interp) (pa wa na : Option Addr) (np cp nw cw nn cn : Nat) (Px : Nat → Int) (Sx : Nat → ByteArray) (Zx : Nat → Int) (block : ByteArray) (a0 : Addr) (s0 : ByteArray) (w : World) (hF : F.answers w.tape)
    (hp : ∀ j, j < np → ∃ b o, pa = some ⟨b, o, none⟩ ∧ b < w.heap.size ∧ w.cell? ⟨b, o + j, none⟩ = some (.int .u8 (Px j)) ∧ 0 ≤ Px j ∧ Px j ≤ 255)
    (hw : ∀ j, j < nw → ∃ b o, wa = some ⟨b, o, none⟩ ∧ b < w.heap.size ∧ w.cell? ⟨b, o + j, none⟩ = some (.string (Sx j)) ∧ (Sx j).size ≤ 140737488351232)
    (hz : ∀ j, j < nn → ∃ b o, na = some ⟨b, o, none⟩ ∧ b < w.heap.size ∧ w.cell? ⟨b, o + j, none⟩ = some (.int .u64 (Zx j)) ∧ 0 ≤ Zx j ∧ Zx j ≤ 18446744073709551615)
    (hnp : np ≤ 140737488351232) (hnw : nw ≤ 140737488351232) (hnn : nn ≤ 140737488351232) (hb : block.size ≤ 140737488351232)
    (hg0 : w.cell? ⟨0, 0, none⟩ = some (.iface 70 (.pointer (some a0)))) (ha0 : w.cell? a0 = some (.string s0)) (h0w : 0 < w.heap.size) (haw : a0.block < w.heap.size) :
    Calls Ybaf.prog 3 #[.slice pa np cp, .slice wa nw cw, .slice na nn cn, .string block] w fun e w' => e = .returned (.bool true) ∧ Below w.heap.size w w' := by
  by_cases hbig : 1024 < np
  · go_enter Ybaf.func3, Ybaf.ntmps3
    go_wp2
    go_ret
    exact ⟨rfl, Below.refl _ _⟩
  obtain ⟨i0, hi, hz0, hz1, hz2⟩ := info_parts info9
  have HP : Hid (∀ j, j < np → ∃ b o, pa = some ⟨b, o, none⟩ ∧ b < w.heap.size ∧ w.cell? ⟨b, o + j, none⟩ = some (.int .u8 (Px j)) ∧ 0 ≤ Px j ∧ Px j ≤ 255) := hp
  have HW : Hid (∀ j, j < nw → ∃ b o, wa = some ⟨b, o, none⟩ ∧ b < w.heap.size ∧ w.cell? ⟨b, o + j, none⟩ = some (.string (Sx j)) ∧ (Sx j).size ≤ 140737488351232) := hw
  have HZ : Hid (∀ j, j < nn → ∃ b o, na = some ⟨b, o, none⟩ ∧ b < w.heap.size ∧ w.cell? ⟨b, o + j, none⟩ = some (.int .u64 (Zx j)) ∧ 0 ≤ Zx j ∧ Zx j ≤ 18446744073709551615) := hz
  have HF : Hid (F.answers w.tape) := hF
  have HG : Hid (w.cell? ⟨0, 0, none⟩ = some (.iface 70 (.pointer (some a0)))) := hg0
  have HA : Hid (w.cell? a0 = some (.string s0)) := ha0
  clear hp hw hz hF hg0 ha0
  go_enter Ybaf.func3, Ybaf.ntmps3
  go_wp2_with (at_make; refine wpList_make_own _ rfl _ _ 23 rfl w.heap.size 9 i0 (.string ⟨#[]⟩) 1 Ybaf.underlying23 hi hz0 hz1 .i64 .i64 _ np rfl rfl rfl (by rw [hz2]; omega) (by unfold maxLen; omega) (Nat.le_refl _) ?_)
  intro w1 hown1 hgrow1
  have hb1 : Below w.heap.size w w1 := (Below.refl _ _).grown hgrow1 (Nat.le_refl _) (by intro k h; cases h)
  clear hgrow1
  go_wp2
  go_loopw [9, 10] (fun av jv wr => ∃ ws : List ByteArray, ws.length ≤ np ∧ jv = .int .i64 (ws.length : Nat) ∧ av = .slice (some ⟨w.heap.size, 0, none⟩) ws.length np ∧ Rows1 w np ws wr ∧ Hid (∀ s ∈ ws, s.size ≤ 140737488351232) ∧ Below w.heap.size w wr) (fun _ jv _ => np - (intOf jv).toNat)
  case atStart => exact ⟨[], Nat.zero_le _, rfl, rfl, hown1, (fun s h => by cases h), hb1⟩
  case round =>
    obtain ⟨ws, hj, rfl, rfl, hown, HS, hnx⟩ := hrel
    have hsz := hnx.size
    by_cases hlt : ws.length < np
    · obtain ⟨pb, po, rfl, hpb, hpc, hP0, hP1⟩ := HP.out ws.length hlt
      have hpc' : wr.cell? ⟨pb, po + ws.length, none⟩ = some (.int .u8 (Px ws.length)) := (hnx.cell (by exact hpb)).trans hpc
      obtain ⟨P, hPe⟩ : ∃ P, P = Px ws.length := ⟨_, rfl⟩
      rw [← hPe] at hpc' hP0 hP1
      clear hPe hpc
      have hm : P % 6 = 0 ∨ P % 6 = 1 ∨ P % 6 = 2 ∨ P % 6 = 3 ∨ P % 6 = 4 ∨ P % 6 = 5 := by omega
      rcases hm with hm | hm | hm | hm | hm | hm
      · have e0 : (P % 6 == 0) = true := beq_iff_eq.2 hm
        clear hm
        go_wp2_with (at_builtin; refine wpList_append_fits _ rfl (.tmp 58) (.tmp 59) 23 rfl w.heap.size 9 i0 1 Ybaf.underlying23 hi hz1 w.heap.size ws.length np (ws.map Value.string) rfl (hown.alloc _) ⟨wr.heap.size, 0, none⟩ 1 1 [.string ⟨#[103, 115, 109, 45, 115, 117, 98]⟩] rfl rfl (cell_one_new _ _ _) (by intro u hu; simp at hu; subst hu; rfl) (by omega) ?_)
        intro w3 hown3 hgrow3
        have hb3 : Below w.heap.size w w3 := (hnx.alloc (by omega) _).grown hgrow3 (by simp; omega) (by intro k h; cases h; exact Nat.le_refl _)
        have hr3 := rows_snoc hown3
        have HS3 := words_snoc HS (x := ⟨#[103, 115, 109, 45, 115, 117, 98]⟩) (by decide)
        clear hgrow3 hown hown3 HS
        go_wp2
        go_roundw
        case rel => exact ⟨ws ++ [⟨#[103, 115, 109, 45, 115, 117, 98]⟩], by simp; omega, by simp, by simp, hr3, HS3, hb3⟩
        case measure => simp [intOf]; omega
      · have e0 : (P % 6 == 0) = false := beq_eq_false_iff_ne.2 (by omega)
        have e1 : (P % 6 == 1) = true := beq_iff_eq.2 hm
        clear hm
        go_wp2_with (at_builtin; refine wpList_append_fits _ rfl (.tmp 63) (.tmp 64) 23 rfl w.heap.size 9 i0 1 Ybaf.underlying23 hi hz1 w.heap.size ws.length np (ws.map Value.string) rfl (hown.alloc _) ⟨wr.heap.size, 0, none⟩ 1 1 [.string ⟨#[109, 97, 112, 45, 116, 111]⟩] rfl rfl (cell_one_new _ _ _) (by intro u hu; simp at hu; subst hu; rfl) (by omega) ?_)
        intro w3 hown3 hgrow3
        have hb3 : Below w.heap.size w w3 := (hnx.alloc (by omega) _).grown hgrow3 (by simp; omega) (by intro k h; cases h; exact Nat.le_refl _)
        have hr3 := rows_snoc hown3
        have HS3 := words_snoc HS (x := ⟨#[109, 97, 112, 45, 116, 111]⟩) (by decide)
        clear hgrow3 hown hown3 HS
        go_wp2
        go_roundw
        case rel => exact ⟨ws ++ [⟨#[109, 97, 112, 45, 116, 111]⟩], by simp; omega, by simp, by simp, hr3, HS3, hb3⟩
        case measure => simp [intOf]; omega
      · have e0 : (P % 6 == 0) = false := beq_eq_false_iff_ne.2 (by omega)
        have e1 : (P % 6 == 1) = false := beq_eq_false_iff_ne.2 (by omega)
        have e2 : (P % 6 == 2) = true := beq_iff_eq.2 hm
        clear hm
        go_wp2_with (at_builtin; refine wpList_append_fits _ rfl (.tmp 68) (.tmp 69) 23 rfl w.heap.size 9 i0 1 Ybaf.underlying23 hi hz1 w.heap.size ws.length np (ws.map Value.string) rfl (hown.alloc _) ⟨wr.heap.size, 0, none⟩ 1 1 [.string ⟨#[101, 57, 49, 49]⟩] rfl rfl (cell_one_new _ _ _) (by intro u hu; simp at hu; subst hu; rfl) (by omega) ?_)
        intro w3 hown3 hgrow3
        have hb3 : Below w.heap.size w w3 := (hnx.alloc (by omega) _).grown hgrow3 (by simp; omega) (by intro k h; cases h; exact Nat.le_refl _)
        have hr3 := rows_snoc hown3
        have HS3 := words_snoc HS (x := ⟨#[101, 57, 49, 49]⟩) (by decide)
        clear hgrow3 hown hown3 HS
        go_wp2
        go_roundw
        case rel => exact ⟨ws ++ [⟨#[101, 57, 49, 49]⟩], by simp; omega, by simp, by simp, hr3, HS3, hb3⟩
        case measure => simp [intOf]; omega
      · have e0 : (P % 6 == 0) = false := beq_eq_false_iff_ne.2 (by omega)
        have e1 : (P % 6 == 1) = false := beq_eq_false_iff_ne.2 (by omega)
        have e2 : (P % 6 == 2) = false := beq_eq_false_iff_ne.2 (by omega)
        have e3 : (P % 6 == 3) = true := beq_iff_eq.2 hm
        clear hm
        go_wp2_with (at_builtin; refine wpList_append_fits _ rfl (.tmp 73) (.tmp 74) 23 rfl w.heap.size 9 i0 1 Ybaf.underlying23 hi hz1 w.heap.size ws.length np (ws.map Value.string) rfl (hown.alloc _) ⟨wr.heap.size, 0, none⟩ 1 1 [.string ⟨#[115, 109, 115]⟩] rfl rfl (cell_one_new _ _ _) (by intro u hu; simp at hu; subst hu; rfl) (by omega) ?_)
        intro w3 hown3 hgrow3
        have hb3 : Below w.heap.size w w3 := (hnx.alloc (by omega) _).grown hgrow3 (by simp; omega) (by intro k h; cases h; exact Nat.le_refl _)
        have hr3 := rows_snoc hown3
        have HS3 := words_snoc HS (x := ⟨#[115, 109, 115]⟩) (by decide)
        clear hgrow3 hown hown3 HS
        go_wp2
        go_roundw
        case rel => exact ⟨ws ++ [⟨#[115, 109, 115]⟩], by simp; omega, by simp, by simp, hr3, HS3, hb3⟩
        case measure => simp [intOf]; omega
      · have e0 : (P % 6 == 0) = false := beq_eq_false_iff_ne.2 (by omega)
        have e1 : (P % 6 == 1) = false := beq_eq_false_iff_ne.2 (by omega)
        have e2 : (P % 6 == 2) = false := beq_eq_false_iff_ne.2 (by omega)
        have e3 : (P % 6 == 3) = false := beq_eq_false_iff_ne.2 (by omega)
        have e4 : (P % 6 == 4) = true := beq_iff_eq.2 hm
        clear hm
        by_cases hw0 : 0 < nw
        · have hw1 : ws.length % nw < nw := Nat.mod_lt _ hw0
          obtain ⟨wb, wo, rfl, hwb, hwc, hws⟩ := HW.out (ws.length % nw) hw1
          have hwc' : wr.cell? ⟨wb, wo + ws.length % nw, none⟩ = some (.string (Sx (ws.length % nw))) := (hnx.cell (by exact hwb)).trans hwc
          obtain ⟨x, hxe⟩ : ∃ x, x = Sx (ws.length % nw) := ⟨_, rfl⟩
          rw [← hxe] at hwc' hws
          clear hxe hwc
          have hw2 : (0 : Int) < (nw : Int) := by omega
          go_wp2_with (at_builtin; refine wpList_append_fits _ rfl (.tmp 81) (.tmp 89) 23 rfl w.heap.size 9 i0 1 Ybaf.underlying23 hi hz1 w.heap.size ws.length np (ws.map Value.string) rfl (hown.alloc _) ⟨wr.heap.size, 0, none⟩ 1 1 [.string x] rfl rfl (cell_one_new _ _ _) (by intro u hu; simp at hu; subst hu; rfl) (by omega) ?_)
          intro w3 hown3 hgrow3
          have hb3 : Below w.heap.size w w3 := (hnx.alloc (by omega) _).grown hgrow3 (by simp; omega) (by intro k h; cases h; exact Nat.le_refl _)
          have hr3 := rows_snoc hown3
          have HS3 := words_snoc HS (x := x) (hws)
          clear hgrow3 hown hown3 HS
          go_wp2
          go_roundw
          case rel => exact ⟨ws ++ [x], by simp; omega, by simp, by simp, hr3, HS3, hb3⟩
          case measure => simp [intOf]; omega
        · have hw2 : ¬ (0 : Int) < (nw : Int) := by omega
          go_wp2_with (at_builtin; refine wpList_append_fits _ rfl (.tmp 91) (.tmp 92) 23 rfl w.heap.size 9 i0 1 Ybaf.underlying23 hi hz1 w.heap.size ws.length np (ws.map Value.string) rfl (hown.alloc _) ⟨wr.heap.size, 0, none⟩ 1 1 [.string ⟨#[]⟩] rfl rfl (cell_one_new _ _ _) (by intro u hu; simp at hu; subst hu; rfl) (by omega) ?_)
          intro w3 hown3 hgrow3
          have hb3 : Below w.heap.size w w3 := (hnx.alloc (by omega) _).grown hgrow3 (by simp; omega) (by intro k h; cases h; exact Nat.le_refl _)
          have hr3 := rows_snoc hown3
          have HS3 := words_snoc HS (x := ⟨#[]⟩) (by decide)
          clear hgrow3 hown hown3 HS
          go_wp2
          go_roundw
          case rel => exact ⟨ws ++ [⟨#[]⟩], by simp; omega, by simp, by simp, hr3, HS3, hb3⟩
          case measure => simp [intOf]; omega
      · have e0 : (P % 6 == 0) = false := beq_eq_false_iff_ne.2 (by omega)
        have e1 : (P % 6 == 1) = false := beq_eq_false_iff_ne.2 (by omega)
        have e2 : (P % 6 == 2) = false := beq_eq_false_iff_ne.2 (by omega)
        have e3 : (P % 6 == 3) = false := beq_eq_false_iff_ne.2 (by omega)
        have e4 : (P % 6 == 4) = false := beq_eq_false_iff_ne.2 (by omega)
        clear hm
        by_cases hn0 : 0 < nn
        · have hn1 : ws.length % nn < nn := Nat.mod_lt _ hn0
          obtain ⟨zb, zo, rfl, hzb, hzc, hZ0, hZ1⟩ := HZ.out (ws.length % nn) hn1
          have hzc' : wr.cell? ⟨zb, zo + ws.length % nn, none⟩ = some (.int .u64 (Zx (ws.length % nn))) := (hnx.cell (by exact hzb)).trans hzc
          obtain ⟨z, hze⟩ : ∃ z, z = Zx (ws.length % nn) := ⟨_, rfl⟩
          rw [← hze] at hzc' hZ0 hZ1
          clear hze hzc
          have hn2 : (0 : Int) < (nn : Int) := by omega
          go_wp2_with fail
          refine (num6 z (P / 6 % 4) wr (by omega) (by omega) (by omega)).mono ?_
          rintro e w2 ⟨⟨l, rfl, hl⟩, hb2⟩
          have hown2 : w2.ownsRow w.heap.size 9 1 (.slice (some ⟨w.heap.size, 0, none⟩) ws.length np) ws.length (ws.map Value.string) := rows_below hown hb2
          have hnx2 : Below w.heap.size w w2 := hnx.trans (hb2.mono hsz)
          have hsz2 := hnx2.size
          have hls : (⟨l.toArray⟩ : ByteArray).size ≤ 140737488351232 := by simp [ByteArray.size]; omega
          clear hb2
          go_wp2_with (at_builtin; refine wpList_append_fits _ rfl (.tmp 47) (.tmp 54) 23 rfl w.heap.size 9 i0 1 Ybaf.underlying23 hi hz1 w.heap.size ws.length np (ws.map Value.string) rfl (hown2.alloc _) ⟨w2.heap.size, 0, none⟩ 1 1 [.string ⟨l.toArray⟩] rfl rfl (cell_one_new _ _ _) (by intro u hu; simp at hu; subst hu; rfl) (by omega) ?_)
          intro w3 hown3 hgrow3
          have hb3 : Below w.heap.size w w3 := (hnx2.alloc (by omega) _).grown hgrow3 (by simp; omega) (by intro k h; cases h; exact Nat.le_refl _)
          have hr3 := rows_snoc hown3
          have HS3 := words_snoc HS (x := ⟨l.toArray⟩) (hls)
          clear hgrow3 hown hown2 hown3 HS
          go_wp2
          go_roundw
          case rel => exact ⟨ws ++ [⟨l.toArray⟩], by simp; omega, by simp, by simp, hr3, HS3, hb3⟩
          case measure => simp [intOf]; omega
        · have hn2 : ¬ (0 : Int) < (nn : Int) := by omega
          go_wp2_with fail
          refine (num6 0 (P / 6 % 4) wr (by omega) (by omega) (by omega)).mono ?_
          rintro e w2 ⟨⟨l, rfl, hl⟩, hb2⟩
          have hown2 : w2.ownsRow w.heap.size 9 1 (.slice (some ⟨w.heap.size, 0, none⟩) ws.length np) ws.length (ws.map Value.string) := rows_below hown hb2
          have hnx2 : Below w.heap.size w w2 := hnx.trans (hb2.mono hsz)
          have hsz2 := hnx2.size
          have hls : (⟨l.toArray⟩ : ByteArray).size ≤ 140737488351232 := by simp [ByteArray.size]; omega
          clear hb2
          go_wp2_with (at_builtin; refine wpList_append_fits _ rfl (.tmp 47) (.tmp 54) 23 rfl w.heap.size 9 i0 1 Ybaf.underlying23 hi hz1 w.heap.size ws.length np (ws.map Value.string) rfl (hown2.alloc _) ⟨w2.heap.size, 0, none⟩ 1 1 [.string ⟨l.toArray⟩] rfl rfl (cell_one_new _ _ _) (by intro u hu; simp at hu; subst hu; rfl) (by omega) ?_)
          intro w3 hown3 hgrow3
          have hb3 : Below w.heap.size w w3 := (hnx2.alloc (by omega) _).grown hgrow3 (by simp; omega) (by intro k h; cases h; exact Nat.le_refl _)
          have hr3 := rows_snoc hown3
          have HS3 := words_snoc HS (x := ⟨l.toArray⟩) (hls)
          clear hgrow3 hown hown2 hown3 HS
          go_wp2
          go_roundw
          case rel => exact ⟨ws ++ [⟨l.toArray⟩], by simp; omega, by simp, by simp, hr3, HS3, hb3⟩
          case measure => simp [intOf]; omega
    · have HR : Hid (Rows1 w np ws wr) := hown
      have hlw : w.heap.size < wr.heap.size := rows_lt hown
      have hFr : F.answers wr.tape := by rw [hnx.tape]; exact HF.out
      have hgr : wr.cell? ⟨0, 0, none⟩ = some (.iface 70 (.pointer (some a0))) := (hnx.cell (by exact h0w)).trans HG.out
      have har : wr.cell? a0 = some (.string s0) := (hnx.cell haw).trans HA.out
      have HA7 := attr7 F ws block w.heap.size np a0 s0 wr hFr (by omega) hb hlw (rows_cell hown) HS.out hgr har (by omega) (by omega)
      have HX7 : Hid (Calls Ybaf.prog 7 #[.slice (some ⟨w.heap.size, 0, none⟩) ws.length np, .string block] wr fun e w' => ∃ err, e = .returned (.tuple #[ent (scan block ws 0 false false ⟨#[]⟩), err]) ∧ ErrIs (scan block ws 0 false false ⟨#[]⟩).2.2.2 err a0 w' ∧ Below wr.heap.size wr w') := HA7
      clear HA7 hFr hgr har hown
      go_wp2_with fail
      refine HX7.out.mono ?_
      rintro e w2 ⟨err, rfl, herr, hb2⟩
      clear HX7
      have HR2 : Hid (Rows1 w np ws w2) := rows_below HR.out hb2
      have hnx2 : Below w.heap.size w w2 := hnx.trans (hb2.mono hsz)
      have hsz2 := hb2.size
      rcases hX : scan block ws 0 false false ⟨#[]⟩ with ⟨k, f, t, ok⟩
      rw [hX] at herr
      simp only [ent]
      have HX : Hid (scan block ws 0 false false ⟨#[]⟩ = (k, f, t, ok)) := hX
      clear hX
      have HM : Hid (Calls Ybaf.prog 8 #[.slice (some ⟨w.heap.size, 0, none⟩) ws.length np, .string block] (w2.alloc (.cells #[.string ⟨#[]⟩, .int .u8 k, .int .u8 f, .string t] 30)) fun e w' => e = .returned (four (scan block ws 0 false false ⟨#[]⟩)) ∧ Below (w2.alloc (.cells #[.string ⟨#[]⟩, .int .u8 k, .int .u8 f, .string t] 30)).heap.size (w2.alloc (.cells #[.string ⟨#[]⟩, .int .u8 k, .int .u8 f, .string t] 30)) w') :=
        model8 ws block w.heap.size np (w2.alloc (.cells #[.string ⟨#[]⟩, .int .u8 k, .int .u8 f, .string t] 30)) (by omega) hb (by simp; omega) (fun j h => (two_less w2 _ (by show w.heap.size < w2.heap.size; omega)).trans (rows_cell HR2.out j h)) HS.out
      have hg2 : w2.cell? ⟨0, 0, none⟩ = some (.iface 70 (.pointer (some a0))) := (hnx2.cell (by exact h0w)).trans HG.out
      have HG2 : Hid (w2.cell? ⟨0, 0, none⟩ = some (.iface 70 (.pointer (some a0)))) := hg2
      clear hg2
      go_wp2_with fail
      refine HM.out.mono ?_
      rintro e w3 ⟨rfl, hb3⟩
      clear HM
      rw [HX.out]
      simp only [four]
      have k0 : w3.cell? ⟨w2.heap.size, 0, none⟩ = some (.string ⟨#[]⟩) := (hb3.cell (by simp)).trans (by go_simp)
      have k1 : w3.cell? ⟨w2.heap.size, 1, none⟩ = some (.int .u8 k) := (hb3.cell (by simp)).trans (by go_simp)
      have k2 : w3.cell? ⟨w2.heap.size, 2, none⟩ = some (.int .u8 f) := (hb3.cell (by simp)).trans (by go_simp)
      have k3 : w3.cell? ⟨w2.heap.size, 3, none⟩ = some (.string t) := (hb3.cell (by simp)).trans (by go_simp)
      have kg : w3.cell? ⟨0, 0, none⟩ = some (.iface 70 (.pointer (some a0))) := (hb3.cell (by show 0 < (w2.alloc _).heap.size; simp)).trans ((two_less w2 _ (by show 0 < w2.heap.size; omega)).trans HG2.out)
      have hend : Below w.heap.size w w3 := (hnx2.alloc (by omega) _).trans (hb3.mono (by simp; omega))
      rcases herr with ⟨hok, rfl⟩ | ⟨hok, pe, rfl, hpe⟩
      · obtain rfl : ok = true := hok
        clear hnx hnx2 hb2 hb3
        go_wp2
        go_ret
        exact ⟨rfl, hend⟩
      · obtain rfl : ok = false := hok
        have hplt : pe < w2.heap.size := by
          rcases Nat.lt_or_ge pe w2.heap.size with h | h
          · exact h
          · simp [World.cell?, Array.getElem?_eq_none h] at hpe
        have hpe3 : w3.cell? ⟨pe, 0 + 1, none⟩ = some (.iface 70 (.pointer (some a0))) := (hb3.cell (by show pe < (w2.alloc _).heap.size; simp; omega)).trans ((two_less w2 _ hplt).trans hpe)
        have HI : Hid (Calls Ybaf.prog 9 #[.iface 54 (.pointer (some ⟨pe, 0, none⟩)), .iface 70 (.pointer (some a0))] w3 fun e w' => e = .returned (.bool true) ∧ w' = w3) := is_wrap_same pe 0 a0 w3 hpe3
        clear hnx hnx2 hb2 hb3 hpe hpe3
        go_wp2_with fail
        refine HI.out.mono ?_
        rintro e w4 ⟨rfl, rfl⟩
        clear HI
        go_wp2
        go_ret
        exact ⟨rfl, hend⟩

end Att
end Go.Proofs.YbulkaxeuFmt
