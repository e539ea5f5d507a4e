/-
  THE CONTRACTS of the two functions on digits: zzs2425bdig (function 14) and Digits (function 13): both compute 'digs'.
-/
import Derived.Test.YbulkaxeuFmtChecked
import Derived.Test.YbulkaxeuFmtPlain
import Derived.Test.YbulkaxeuFmtShelf
import Derived.WalkKit
import Derived.WalkSpells
import Derived.Lib.SlBytesRow
import Derived.Lib.BufferRead
import Derived.Lib.VarintMem
namespace Go.Proofs.YbulkaxeuFmt
namespace Att
open Go.RowKit

theorem info5 : (Ybaf.prog.info? 5).map (fun i => (i.zero, i.size, i.bytes)) = some (some (.int .u8 0), 1, 1) := by kernel_rfl

theorem cells_snoc (acc : List UInt8) (c : UInt8) : Lib.byteCells acc ++ [Value.int .u8 (c.toNat : Int)] = Lib.byteCells (acc ++ [c]) := by
  simp [Lib.byteCells]

/-- string(out), out a row of the call's own. -/
theorem conv_own {w : World} {base g cap : Nat} {l : List UInt8} (h : w.ownsRow base 5 1 (.slice (some ⟨g, 0, none⟩) l.length cap) l.length (Lib.byteCells l)) :
    (convert 22 9 (.slice (some ⟨g, 0, none⟩) l.length cap)).run Ybaf.prog w = .ok (.string ⟨l.toArray⟩) w := by
  rcases h.2 with ⟨h, _⟩ | ⟨g', cap', cur, hv, _, hg, _, _, _, htk⟩
  · cases h
  · injection hv with h1 _ _
    injection h1 with h1
    injection h1 with h1 _ _
    subst h1
    have hb := Lib.bytes_of_row hg (by simpa using htk)
    have hb : Lib.Bytes w g 0 ⟨l.toArray⟩ := fun i hi => by
      have := hb i (by simpa [ByteArray.size] using hi)
      have e : (⟨g, 0, none⟩ : Addr).add i = ⟨g, 0 + i, none⟩ := by cases i <;> simp [Addr.add]
      rw [e] at this
      exact this
    have := Lib.run_convert_whole (P := Ybaf.prog) w 22 5 9 Ybaf.underlying22 Ybaf.underlying5 Ybaf.underlying9 g 0 ⟨l.toArray⟩ hb cap
    simpa [ByteArray.size] using this

set_option maxRecDepth 100000 in
set_option maxHeartbeats 1000000 in
theorem dig14 (s : ByteArray) (w : World) (hs : s.size ≤ 140737488351232) :
    Calls Ybaf.prog 14 #[.string s] w fun e w' => e = .returned (.tuple #[.string (dstr (digs s.data.toList)), .bool (dok (digs s.data.toList))]) ∧ Below w.heap.size w w' := by
  obtain ⟨i0, hi, hz0, hz1, hz2⟩ := info_parts info5
  go_enter Ybaf.func14, Ybaf.ntmps14
  go_wp2_with (at_make; refine wpList_make_own _ rfl _ _ 22 rfl w.heap.size 5 i0 (.int .u8 0) 1 Ybaf.underlying22 hi hz0 hz1 .i64 .i64 _ s.size rfl rfl rfl (by rw [hz2]; omega) (by unfold maxLen; omega) (Nat.le_refl _) ?_)
  intro w1 hown1 hgrow1
  have hb1 : Below w.heap.size w w1 := (Below.refl _ _).grown hgrow1 (Nat.le_refl _) (by intro k h; cases h)
  clear hgrow1
  go_wp2
  go_loopw [4, 5] (fun v i wr => ∃ (k : Nat) (acc : List UInt8), k ≤ s.size ∧ i = .int .i64 k ∧ v = .slice (some ⟨w.heap.size, 0, none⟩) acc.length s.size ∧ acc.length ≤ k ∧ wr.ownsRow w.heap.size 5 1 (.slice (some ⟨w.heap.size, 0, none⟩) acc.length s.size) acc.length (Lib.byteCells acc) ∧ Below w.heap.size w wr ∧ Hid (digsFrom s.size k (s.data.toList.drop k) acc = digs s.data.toList)) (fun _ i _ => s.size - (intOf i).toNat)
  case atStart => exact ⟨0, [], Nat.zero_le _, rfl, rfl, Nat.le_refl _, hown1, hb1, rfl⟩
  case round =>
    obtain ⟨k, acc, hk, rfl, rfl, hacc, hown, hnx, HD⟩ := hrel
    by_cases hlt : k < s.size
    · have hdr := drop_at s k hlt
      have HR : Hid (s.data.toList.drop k = s[k] :: s.data.toList.drop (k + 1)) := hdr
      clear hdr
      have hc256 : s[k].toNat < 256 := s[k].toNat_lt
      by_cases hd1 : (48 : Int) ≤ (s[k].toNat : Int) ∧ (s[k].toNat : Int) ≤ 57
      · have hd : dgt s[k] = true := by simp [dgt]; omega
        have HN : Hid (digsFrom s.size (k + 1) (s.data.toList.drop (k + 1)) (acc ++ [s[k]]) = digs s.data.toList) := by
          have := HD.out
          rw [HR.out, digsFrom_digit hd] at this
          exact this
        clear hd HD HR
        obtain ⟨hd1, hd2⟩ := hd1
        go_wp2_with (at_builtin; refine wpList_append_fits _ rfl (.tmp 25) (.tmp 27) 22 rfl w.heap.size 5 i0 1 Ybaf.underlying22 hi hz1 w.heap.size acc.length s.size (Lib.byteCells acc) rfl (hown.alloc _) ⟨wr.heap.size, 0, none⟩ 1 1 [.int .u8 s[k].toNat] rfl rfl (cell_one_new _ _ _) (by intro u hu; simp at hu; subst hu; rfl) (by omega) ?_)
        intro w2 hown2 hgrow2
        rw [cells_snoc] at hown2
        have hb2 : Below w.heap.size w w2 := (hnx.alloc hnx.size _).grown hgrow2 (by have := hnx.size; simp; omega) (by intro k h; cases h; exact Nat.le_refl _)
        clear hgrow2 hown
        go_wp2
        go_roundw
        case rel => exact ⟨k + 1, acc ++ [s[k]], by omega, by go_num, by simp, by simp; omega, by simpa using hown2, hb2, HN⟩
        case measure => simp [intOf]; omega
      · have hd : dgt s[k] = false := by
          simp [dgt]; omega
        by_cases hh : (s[k].toNat : Int) = 45 ∧ 0 < k ∧ k + 1 < s.size
        · obtain ⟨hc45, hk0, hkn⟩ := hh
          have hh : hyp s.size k s[k] = true := by simp [hyp]; omega
          have HN : Hid (digsFrom s.size (k + 1) (s.data.toList.drop (k + 1)) acc = digs s.data.toList) := by
            have := HD.out
            rw [HR.out, digsFrom_hyphen hd hh] at this
            exact this
          have hle : (s[k].toNat : Int) ≤ 45 := by omega
          have hge : 45 ≤ (s[k].toNat : Int) := by omega
          clear hd hh HD HR hc45 hd1
          go_wp2
          go_roundw
          case rel => exact ⟨k + 1, acc, by omega, by go_num, rfl, by omega, hown, hnx, HN⟩
          case measure => simp [intOf]; omega
        · have hh' : hyp s.size k s[k] = false := by simp [hyp]; omega
          have HE : Hid (digs s.data.toList = none) := by
            have := HD.out
            rw [HR.out, digsFrom_bad hd hh'] at this
            exact this.symm
          have hways : (s[k].toNat : Int) < 45 ∨ (45 ≤ (s[k].toNat : Int) ∧ (s[k].toNat : Int) ≤ 45 ∧ k < 1) ∨ (45 ≤ (s[k].toNat : Int) ∧ (s[k].toNat : Int) ≤ 45 ∧ 0 < k ∧ s.size ≤ k + 1) ∨ (46 ≤ (s[k].toNat : Int) ∧ (s[k].toNat : Int) < 48) ∨ 58 ≤ (s[k].toNat : Int) := by omega
          clear hd hh' HD HR hown hh hd1
          rcases hways with h | ⟨h, h2, h3⟩ | ⟨h, h2, h3, h4⟩ | ⟨h, h2⟩ | h
          all_goals
            go_wp2
            go_ret2
            exact ⟨by rw [HE.out]; rfl, hnx⟩
    · have hkn : k = s.size := by omega
      have hc := conv_own hown
      have HE : Hid (digs s.data.toList = some acc) := by
        have := HD.out
        rw [drop_end s k (by omega)] at this
        exact this.symm
      clear HD
      go_wp2
      go_ret2
      exact ⟨by rw [HE.out]; rfl, hnx⟩

set_option maxRecDepth 100000 in
set_option maxHeartbeats 1000000 in
theorem dig13 (s : ByteArray) (w : World) (hs : s.size ≤ 140737488351232) :
    Calls Ybaf.prog 13 #[.string s] w fun e w' => e = .returned (.tuple #[.string (dstr (digs s.data.toList)), .bool (dok (digs s.data.toList))]) ∧ Below w.heap.size w w' := by
  have hB0 := Lib.fresh_isBuilder 57 5 w
  go_enter Ybaf.func13, Ybaf.ntmps13
  go_wp2
  go_loopw [9] (fun i wr => ∃ (k : Nat) (acc : List UInt8), k ≤ s.size ∧ i = .int .i64 k ∧ acc.length ≤ k ∧ Lib.IsBuilder 57 5 w.heap.size w.heap.size (Lib.byteCells acc) wr ∧ Below w.heap.size w wr ∧ Hid (digsFrom s.size k (s.data.toList.drop k) acc = digs s.data.toList)) (fun i _ => s.size - (intOf i).toNat)
  case atStart => exact ⟨0, [], Nat.zero_le _, rfl, Nat.le_refl _, hB0, (Below.refl _ _).alloc (Nat.le_refl _) _, rfl⟩
  case round =>
    obtain ⟨k, acc, hk, rfl, hacc, hown, hnx, HD⟩ := hrel
    have hsz := hnx.size
    by_cases hlt : k < s.size
    · have hdr := drop_at s k hlt
      have HR : Hid (s.data.toList.drop k = s[k] :: s.data.toList.drop (k + 1)) := hdr
      clear hdr
      have hc256 : s[k].toNat < 256 := s[k].toNat_lt
      by_cases hd1 : (48 : Int) ≤ (s[k].toNat : Int) ∧ (s[k].toNat : Int) ≤ 57
      · have hd : dgt s[k] = true := by simp [dgt]; omega
        have HN : Hid (digsFrom s.size (k + 1) (s.data.toList.drop (k + 1)) (acc ++ [s[k]]) = digs s.data.toList) := by
          have := HD.out
          rw [HR.out, digsFrom_digit hd] at this
          exact this
        clear hd HD HR
        obtain ⟨hd1, hd2⟩ := hd1
        have HO : Hid (Lib.IsBuilder 57 5 w.heap.size w.heap.size (Lib.byteCells acc) wr) := hown
        clear hown hB0
        go_wp2_with fail
        refine (Ybaf.Builder_WriteByte w.heap.size w.heap.size (Lib.byteCells acc) _ wr HO.out (by rw [Lib.byteCells_length]; omega) hsz).mono ?_
        rintro e w2 ⟨rfl, hown2, hb2⟩
        rw [cells_snoc] at hown2
        have hb3 := hnx.trans hb2
        clear hb2 HO
        go_wp2
        go_roundw
        case rel => exact ⟨k + 1, acc ++ [s[k]], by omega, by go_num, by simp; omega, Or.inr hown2, hb3, HN⟩
        case measure => simp [intOf]; omega
      · have hd : dgt s[k] = false := by
          simp [dgt]; omega
        by_cases hh : (s[k].toNat : Int) = 45 ∧ 0 < k ∧ k + 1 < s.size
        · obtain ⟨hc45, hk0, hkn⟩ := hh
          have hh : hyp s.size k s[k] = true := by simp [hyp]; omega
          have HN : Hid (digsFrom s.size (k + 1) (s.data.toList.drop (k + 1)) acc = digs s.data.toList) := by
            have := HD.out
            rw [HR.out, digsFrom_hyphen hd hh] at this
            exact this
          have hle : (s[k].toNat : Int) ≤ 45 := by omega
          have hge : 45 ≤ (s[k].toNat : Int) := by omega
          clear hd hh HD HR hc45 hd1
          go_wp2
          go_roundw
          case rel => exact ⟨k + 1, acc, by omega, by go_num, by omega, hown, hnx, HN⟩
          case measure => simp [intOf]; omega
        · have hh' : hyp s.size k s[k] = false := by simp [hyp]; omega
          have HE : Hid (digs s.data.toList = none) := by
            have := HD.out
            rw [HR.out, digsFrom_bad hd hh'] at this
            exact this.symm
          have hways : (s[k].toNat : Int) < 45 ∨ (45 ≤ (s[k].toNat : Int) ∧ (s[k].toNat : Int) ≤ 45 ∧ k < 1) ∨ (45 ≤ (s[k].toNat : Int) ∧ (s[k].toNat : Int) ≤ 45 ∧ 0 < k ∧ s.size ≤ k + 1) ∨ (46 ≤ (s[k].toNat : Int) ∧ (s[k].toNat : Int) < 48) ∨ 58 ≤ (s[k].toNat : Int) := by omega
          clear hd hh' HD HR hown hh hd1
          rcases hways with h | ⟨h, h2, h3⟩ | ⟨h, h2, h3, h4⟩ | ⟨h, h2⟩ | h
          all_goals
            go_wp2
            go_ret2
            exact ⟨by rw [HE.out]; rfl, hnx⟩
    · have HE : Hid (digs s.data.toList = some acc) := by
        have := HD.out
        rw [drop_end s k (by omega)] at this
        exact this.symm
      have HO : Hid (Lib.IsBuilder 57 5 w.heap.size w.heap.size (Lib.byteCells acc) wr) := hown
      clear HD hown hB0
      go_wp2_with fail
      refine (Ybaf.Builder_String_any w.heap.size w.heap.size acc wr HO.out hsz).mono ?_
      rintro e w2 ⟨rfl, hb2⟩
      have hb3 := hnx.trans hb2
      go_wp2
      go_ret2
      exact ⟨by rw [HE.out]; rfl, hb3⟩

end Att
end Go.Proofs.YbulkaxeuFmt
