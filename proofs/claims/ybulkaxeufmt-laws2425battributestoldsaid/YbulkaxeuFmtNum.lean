/-
  THE CONTRACT of zzs2425bnum (function 6): it hands back some short string; which one does not matter to the law.
-/
import Derived.Test.YbulkaxeuFmtDig
namespace Go.Proofs.YbulkaxeuFmt
namespace Att
open Go.RowKit

/-- string(b), b owned, nil or not. -/
theorem conv_any {w : World} {base : Nat} {v : Value} {l : List UInt8} (h : w.ownsRow base 5 1 v l.length (Lib.byteCells l)) :
    (convert 22 9 v).run Ybaf.prog w = .ok (.string ⟨l.toArray⟩) w := by
  rcases h.2 with ⟨rfl, h0⟩ | ⟨g', cap', cur, rfl, _⟩
  · obtain rfl : l = [] := List.length_eq_zero_iff.1 h0
    rw [Lib.run_convert_nil_bytes w 22 9 5 0 Ybaf.underlying22 Ybaf.underlying5 Ybaf.underlying9]
  · exact conv_own h

theorem own_push {w2 : World} {base : Nat} {v2 : Value} {l : List UInt8} {x : Int} (h0 : 0 ≤ x) (h1 : x ≤ 255) (h : w2.ownsRow base 5 1 v2 (l.length + 1) (Lib.byteCells l ++ [.int .u8 x])) :
    w2.ownsRow base 5 1 v2 (l ++ [UInt8.ofNat x.toNat]).length (Lib.byteCells (l ++ [UInt8.ofNat x.toNat])) := by
  have e : ((UInt8.ofNat x.toNat).toNat : Int) = x := by
    rw [UInt8.toNat_ofNat_of_lt' (by simp [UInt8.size]; omega)]; omega
  have : Lib.byteCells (l ++ [UInt8.ofNat x.toNat]) = Lib.byteCells l ++ [.int .u8 x] := by rw [← cells_snoc, e]
  rw [this]
  simpa using h

theorem own_ge {w : World} {base : Nat} {e : TypeId} {v : Value} {n : Nat} {xs : List Value} (h : w.ownsRow base e 1 v n xs) : ∀ k, v.ownBlock = some k → base ≤ k := by
  intro k hk
  rcases h.2 with ⟨rfl, _⟩ | ⟨g, cap, cur, rfl, hg, _⟩
  · cases hk
  · simp [Value.ownBlock] at hk; omega

set_option maxRecDepth 100000 in
set_option maxHeartbeats 2000000 in
theorem num6 (v shape : Int) (w : World) (hv0 : 0 ≤ v) (hv1 : v ≤ 18446744073709551615) (hsh : shape = 0 ∨ shape = 1 ∨ shape = 2 ∨ shape = 3) :
    Calls Ybaf.prog 6 #[.int .u64 v, .int .i64 shape] w fun e w' => (∃ l : List UInt8, e = .returned (.string ⟨l.toArray⟩) ∧ l.length ≤ 40) ∧ Below w.heap.size w w' := by
  obtain ⟨i0, hi, hz0, hz1, hz2⟩ := info_parts info5
  rcases hsh with rfl | rfl | rfl | rfl
  · go_enter Ybaf.func6, Ybaf.ntmps6
    go_wp2_with (at_make; refine wpList_make_own _ rfl _ _ 22 rfl w.heap.size 5 i0 (.int .u8 0) 1 Ybaf.underlying22 hi hz0 hz1 .i64 .i64 _ 14 rfl rfl rfl (by rw [hz2]; omega) (by unfold maxLen; omega) (Nat.le_refl _) ?_)
    intro w1 hown1 hgrow1
    have hb1 : Below w.heap.size w w1 := (Below.refl _ _).grown hgrow1 (Nat.le_refl _) (by intro k h; cases h)
    have hs1 := hb1.size
    clear hgrow1
    go_wp2
    go_loopw [0, 6, 7] (fun x b i wr => ∃ (k : Nat) (l : List UInt8) (y : Int), k ≤ 10 ∧ i = .int .i64 k ∧ x = .int .u64 y ∧ 0 ≤ y ∧ y ≤ 18446744073709551615 ∧ l.length ≤ 2 * k + 1 ∧ wr.ownsRow w.heap.size 5 1 b l.length (Lib.byteCells l) ∧ Below w.heap.size w wr) (fun _ _ i _ => 10 - (intOf i).toNat)
    case atStart => exact ⟨0, [], v, by omega, rfl, rfl, hv0, hv1, by simp, hown1, hb1⟩
    case round =>
      obtain ⟨k, l, y, hk, rfl, rfl, hy0, hy1, hl, hown, hnx⟩ := hrel
      have hsz := hnx.size
      by_cases hlt : k < 10
      · go_wp2_with (at_builtin; refine wpList_append_own _ rfl (.tmp 38) (.tmp 43) 22 rfl w.heap.size 5 i0 (.int .u8 0) 1 1 Ybaf.underlying22 hi hz0 hz1 hz2 rfl (by decide) _ _ _ rfl (hown.alloc _) ⟨wr.heap.size, 0, none⟩ 1 1 _ rfl rfl (cell_one_new _ _ _) (by intro u hu; simp at hu; subst hu; rfl) (by unfold maxLen; omega) (by omega) (by simp; omega) ?_)
        intro v5 w5 hown5 hgrow5 _
        have hb5 : Below w.heap.size w w5 := (hnx.alloc (by omega) _).grown hgrow5 (by simp; omega) (own_ge hown)
        have hown6 := own_push (l := l) (x := 48 + y % 10) (by omega) (by omega) hown5
        clear hgrow5 hown5
        go_wp2
        go_roundw
        case rel => exact ⟨k + 1, _, _, by omega, by go_num, rfl, by omega, by omega, by simp; omega, hown6, hb5⟩
        case measure => simp [intOf]; omega
      · have hc := conv_any hown
        go_wp2
        go_ret
        exact ⟨⟨l, rfl, by omega⟩, hnx⟩
  · go_enter Ybaf.func6, Ybaf.ntmps6
    go_wp2_with (at_make; refine wpList_make_own _ rfl _ _ 22 rfl w.heap.size 5 i0 (.int .u8 0) 1 Ybaf.underlying22 hi hz0 hz1 .i64 .i64 _ 14 rfl rfl rfl (by rw [hz2]; omega) (by unfold maxLen; omega) (Nat.le_refl _) ?_)
    intro w1 hown1 hgrow1
    have hb1 : Below w.heap.size w w1 := (Below.refl _ _).grown hgrow1 (Nat.le_refl _) (by intro k h; cases h)
    have hs1 := hb1.size
    clear hgrow1
    go_wp2
    go_loopw [0, 6, 7] (fun x b i wr => ∃ (k : Nat) (l : List UInt8) (y : Int), k ≤ 4 ∧ i = .int .i64 k ∧ x = .int .u64 y ∧ 0 ≤ y ∧ y ≤ 18446744073709551615 ∧ l.length ≤ 2 * k + 1 ∧ wr.ownsRow w.heap.size 5 1 b l.length (Lib.byteCells l) ∧ Below w.heap.size w wr) (fun _ _ i _ => 4 - (intOf i).toNat)
    case atStart => exact ⟨0, [], v, by omega, rfl, rfl, hv0, hv1, by simp, hown1, hb1⟩
    case round =>
      obtain ⟨k, l, y, hk, rfl, rfl, hy0, hy1, hl, hown, hnx⟩ := hrel
      have hsz := hnx.size
      by_cases hlt : k < 4
      · go_wp2_with (at_builtin; refine wpList_append_own _ rfl (.tmp 38) (.tmp 43) 22 rfl w.heap.size 5 i0 (.int .u8 0) 1 1 Ybaf.underlying22 hi hz0 hz1 hz2 rfl (by decide) _ _ _ rfl (hown.alloc _) ⟨wr.heap.size, 0, none⟩ 1 1 _ rfl rfl (cell_one_new _ _ _) (by intro u hu; simp at hu; subst hu; rfl) (by unfold maxLen; omega) (by omega) (by simp; omega) ?_)
        intro v5 w5 hown5 hgrow5 _
        have hb5 : Below w.heap.size w w5 := (hnx.alloc (by omega) _).grown hgrow5 (by simp; omega) (own_ge hown)
        have hown6 := own_push (l := l) (x := 48 + y % 10) (by omega) (by omega) hown5
        clear hgrow5 hown5
        go_wp2
        go_roundw
        case rel => exact ⟨k + 1, _, _, by omega, by go_num, rfl, by omega, by omega, by simp; omega, hown6, hb5⟩
        case measure => simp [intOf]; omega
      · have hc := conv_any hown
        go_wp2
        go_ret
        exact ⟨⟨l, rfl, by omega⟩, hnx⟩
  · go_enter Ybaf.func6, Ybaf.ntmps6
    go_wp2_with (at_make; refine wpList_make_own _ rfl _ _ 22 rfl w.heap.size 5 i0 (.int .u8 0) 1 Ybaf.underlying22 hi hz0 hz1 .i64 .i64 _ 14 rfl rfl rfl (by rw [hz2]; omega) (by unfold maxLen; omega) (Nat.le_refl _) ?_)
    intro w1 hown1 hgrow1
    have hb1 : Below w.heap.size w w1 := (Below.refl _ _).grown hgrow1 (Nat.le_refl _) (by intro k h; cases h)
    have hs1 := hb1.size
    clear hgrow1
    go_wp2
    go_loopw [0, 6, 7] (fun x b i wr => ∃ (k : Nat) (l : List UInt8) (y : Int), k ≤ 10 ∧ i = .int .i64 k ∧ x = .int .u64 y ∧ 0 ≤ y ∧ y ≤ 18446744073709551615 ∧ l.length ≤ 2 * k + 1 ∧ wr.ownsRow w.heap.size 5 1 b l.length (Lib.byteCells l) ∧ Below w.heap.size w wr) (fun _ _ i _ => 10 - (intOf i).toNat)
    case atStart => exact ⟨0, [], v, by omega, rfl, rfl, hv0, hv1, by simp, hown1, hb1⟩
    case round =>
      obtain ⟨k, l, y, hk, rfl, rfl, hy0, hy1, hl, hown, hnx⟩ := hrel
      have hsz := hnx.size
      by_cases hlt : k < 10
      · by_cases hq : k = 3 ∨ k = 6
        · rcases hq with rfl | rfl
          · go_wp2_with (at_builtin; refine wpList_append_own _ rfl (.tmp 35) (.tmp 36) 22 rfl w.heap.size 5 i0 (.int .u8 0) 1 1 Ybaf.underlying22 hi hz0 hz1 hz2 rfl (by decide) _ _ _ rfl (hown.alloc _) ⟨wr.heap.size, 0, none⟩ 1 1 _ rfl rfl (cell_one_new _ _ _) (by intro u hu; simp at hu; subst hu; rfl) (by unfold maxLen; omega) (by omega) (by simp; omega) ?_)
            intro v2 w2 hown2 hgrow2 _
            have hb2 : Below w.heap.size w w2 := (hnx.alloc hsz _).grown hgrow2 (by simp; omega) (own_ge hown)
            have hs2 := hb2.size
            have hown3 := own_push (l := l) (x := 45) (by omega) (by omega) hown2
            clear hgrow2 hown2
            go_wp2_with (at_builtin; refine wpList_append_own _ rfl (.tmp 38) (.tmp 43) 22 rfl w.heap.size 5 i0 (.int .u8 0) 1 1 Ybaf.underlying22 hi hz0 hz1 hz2 rfl (by decide) _ _ _ rfl (hown3.alloc _) ⟨w2.heap.size, 0, none⟩ 1 1 _ rfl rfl (cell_one_new _ _ _) (by intro u hu; simp at hu; subst hu; rfl) (by unfold maxLen; simp; omega) (by simp; omega) (by simp; omega) ?_)
            intro v5 w5 hown5 hgrow5 _
            have hb5 : Below w.heap.size w w5 := (hb2.alloc (by omega) _).grown hgrow5 (by simp; omega) (own_ge hown3)
            have hown6 := own_push (l := l ++ [45]) (x := 48 + y % 10) (by omega) (by omega) (by simpa using hown5)
            clear hgrow5 hown5
            go_wp2
            go_roundw
            case rel => exact ⟨4, _, _, by omega, by go_num, rfl, by omega, by omega, by simp; omega, hown6, hb5⟩
            case measure => simp [intOf]
          · go_wp2_with (at_builtin; refine wpList_append_own _ rfl (.tmp 35) (.tmp 36) 22 rfl w.heap.size 5 i0 (.int .u8 0) 1 1 Ybaf.underlying22 hi hz0 hz1 hz2 rfl (by decide) _ _ _ rfl (hown.alloc _) ⟨wr.heap.size, 0, none⟩ 1 1 _ rfl rfl (cell_one_new _ _ _) (by intro u hu; simp at hu; subst hu; rfl) (by unfold maxLen; omega) (by omega) (by simp; omega) ?_)
            intro v2 w2 hown2 hgrow2 _
            have hb2 : Below w.heap.size w w2 := (hnx.alloc hsz _).grown hgrow2 (by simp; omega) (own_ge hown)
            have hs2 := hb2.size
            have hown3 := own_push (l := l) (x := 45) (by omega) (by omega) hown2
            clear hgrow2 hown2
            go_wp2_with (at_builtin; refine wpList_append_own _ rfl (.tmp 38) (.tmp 43) 22 rfl w.heap.size 5 i0 (.int .u8 0) 1 1 Ybaf.underlying22 hi hz0 hz1 hz2 rfl (by decide) _ _ _ rfl (hown3.alloc _) ⟨w2.heap.size, 0, none⟩ 1 1 _ rfl rfl (cell_one_new _ _ _) (by intro u hu; simp at hu; subst hu; rfl) (by unfold maxLen; simp; omega) (by simp; omega) (by simp; omega) ?_)
            intro v5 w5 hown5 hgrow5 _
            have hb5 : Below w.heap.size w w5 := (hb2.alloc (by omega) _).grown hgrow5 (by simp; omega) (own_ge hown3)
            have hown6 := own_push (l := l ++ [45]) (x := 48 + y % 10) (by omega) (by omega) (by simpa using hown5)
            clear hgrow5 hown5
            go_wp2
            go_roundw
            case rel => exact ⟨7, _, _, by omega, by go_num, rfl, by omega, by omega, by simp; omega, hown6, hb5⟩
            case measure => simp [intOf]
        · have hk3 : ((k : Int) == 3) = false := beq_eq_false_iff_ne.2 (by omega)
          have hk6 : ((k : Int) == 6) = false := beq_eq_false_iff_ne.2 (by omega)
          go_wp2_with (at_builtin; refine wpList_append_own _ rfl (.tmp 38) (.tmp 43) 22 rfl w.heap.size 5 i0 (.int .u8 0) 1 1 Ybaf.underlying22 hi hz0 hz1 hz2 rfl (by decide) _ _ _ rfl (hown.alloc _) ⟨wr.heap.size, 0, none⟩ 1 1 _ rfl rfl (cell_one_new _ _ _) (by intro u hu; simp at hu; subst hu; rfl) (by unfold maxLen; omega) (by omega) (by simp; omega) ?_)
          intro v5 w5 hown5 hgrow5 _
          have hb5 : Below w.heap.size w w5 := (hnx.alloc (by omega) _).grown hgrow5 (by simp; omega) (own_ge hown)
          have hown6 := own_push (l := l) (x := 48 + y % 10) (by omega) (by omega) hown5
          clear hgrow5 hown5
          go_wp2
          go_roundw
          case rel => exact ⟨k + 1, _, _, by omega, by go_num, rfl, by omega, by omega, by simp; omega, hown6, hb5⟩
          case measure => simp [intOf]; omega
      · have hc := conv_any hown
        go_wp2
        go_ret
        exact ⟨⟨l, rfl, by omega⟩, hnx⟩
  · go_enter Ybaf.func6, Ybaf.ntmps6
    go_wp2_with (at_make; refine wpList_make_own _ rfl _ _ 22 rfl w.heap.size 5 i0 (.int .u8 0) 1 Ybaf.underlying22 hi hz0 hz1 .i64 .i64 _ 14 rfl rfl rfl (by rw [hz2]; omega) (by unfold maxLen; omega) (Nat.le_refl _) ?_)
    intro w1 hown1 hgrow1
    have hb1 : Below w.heap.size w w1 := (Below.refl _ _).grown hgrow1 (Nat.le_refl _) (by intro k h; cases h)
    have hs1 := hb1.size
    clear hgrow1
    have hown1 : w1.ownsRow w.heap.size 5 1 (.slice (some ⟨w.heap.size, 0, none⟩) 0 14) ([] : List UInt8).length (Lib.byteCells []) := hown1
    go_wp2_with (at_builtin; refine wpList_append_own _ rfl (.tmp 17) (.tmp 18) 22 rfl w.heap.size 5 i0 (.int .u8 0) 1 1 Ybaf.underlying22 hi hz0 hz1 hz2 rfl (by decide) _ _ _ rfl (hown1.alloc _) ⟨w1.heap.size, 0, none⟩ 1 1 _ rfl rfl (cell_one_new _ _ _) (by intro u hu; simp at hu; subst hu; rfl) (by unfold maxLen; simp) (by simp) (by simp; omega) ?_)
    intro v2 w2 hown2 hgrow2 _
    have hb2 : Below w.heap.size w w2 := (hb1.alloc hs1 _).grown hgrow2 (by simp; omega) (own_ge hown1)
    have hown3 := own_push (l := []) (x := 45) (by omega) (by omega) hown2
    clear hgrow2 hown2
    go_wp2
    go_loopw [0, 6, 7] (fun x b i wr => ∃ (k : Nat) (l : List UInt8) (y : Int), k ≤ 4 ∧ i = .int .i64 k ∧ x = .int .u64 y ∧ 0 ≤ y ∧ y ≤ 18446744073709551615 ∧ l.length ≤ 2 * k + 1 ∧ wr.ownsRow w.heap.size 5 1 b l.length (Lib.byteCells l) ∧ Below w.heap.size w wr) (fun _ _ i _ => 4 - (intOf i).toNat)
    case atStart => exact ⟨0, _, v, by omega, rfl, rfl, hv0, hv1, by simp, hown3, hb2⟩
    case round =>
      obtain ⟨k, l, y, hk, rfl, rfl, hy0, hy1, hl, hown, hnx⟩ := hrel
      have hsz := hnx.size
      by_cases hlt : k < 4
      · go_wp2_with (at_builtin; refine wpList_append_own _ rfl (.tmp 38) (.tmp 43) 22 rfl w.heap.size 5 i0 (.int .u8 0) 1 1 Ybaf.underlying22 hi hz0 hz1 hz2 rfl (by decide) _ _ _ rfl (hown.alloc _) ⟨wr.heap.size, 0, none⟩ 1 1 _ rfl rfl (cell_one_new _ _ _) (by intro u hu; simp at hu; subst hu; rfl) (by unfold maxLen; omega) (by omega) (by simp; omega) ?_)
        intro v5 w5 hown5 hgrow5 _
        have hb5 : Below w.heap.size w w5 := (hnx.alloc (by omega) _).grown hgrow5 (by simp; omega) (own_ge hown)
        have hown6 := own_push (l := l) (x := 48 + y % 10) (by omega) (by omega) hown5
        clear hgrow5 hown5
        go_wp2
        go_roundw
        case rel => exact ⟨k + 1, _, _, by omega, by go_num, rfl, by omega, by omega, by simp; omega, hown6, hb5⟩
        case measure => simp [intOf]; omega
      · have hc := conv_any hown
        go_wp2
        go_ret
        exact ⟨⟨l, rfl, by omega⟩, hnx⟩

end Att
end Go.Proofs.YbulkaxeuFmt
