/-
  THE CONTRACT of the law's own model, zzs2425bmodel (function 8): it computes 'scan'.
-/
import Derived.Test.YbulkaxeuFmtDig
import Derived.Test.YbulkaxeuFmtScan
namespace Go.Proofs.YbulkaxeuFmt
namespace Att
open Go.RowKit

/-- The four results. -/
def four (x : Int × Int × ByteArray × Bool) : Value := .tuple #[.int .u8 x.1, .int .u8 x.2.1, .string x.2.2.1, .bool x.2.2.2]

theorem and1 (a b : Bool) : (bits BinOp.and IntKind.u8 (fl a b) 1 != 0) = a := by cases a <;> cases b <;> rfl
theorem and2 (a b : Bool) : (bits BinOp.and IntKind.u8 (fl a b) 2 != 0) = b := by cases a <;> cases b <;> rfl
theorem or1 (b : Bool) : bits BinOp.or IntKind.u8 (fl false b) 1 = fl true b := by cases b <;> rfl
theorem or2 (a : Bool) : bits BinOp.or IntKind.u8 (fl a false) 2 = fl a true := by cases a <;> rfl

set_option maxRecDepth 100000 in
set_option maxHeartbeats 4000000 in
theorem model8 (ws : List ByteArray) (block : ByteArray) (g cap : Nat) (w : World) (hn : ws.length ≤ 1024) (hb : block.size ≤ 140737488351232) (hg : g < w.heap.size)
    (hc : ∀ j (h : j < ws.length), w.cell? ⟨g, j, none⟩ = some (.string ws[j])) (hs : ∀ s ∈ ws, s.size ≤ 140737488351232) :
    Calls Ybaf.prog 8 #[.slice (some ⟨g, 0, none⟩) ws.length cap, .string block] w fun e w' => e = .returned (four (scan block ws 0 false false ⟨#[]⟩)) ∧ Below w.heap.size w w' := by
  have HC : Hid (∀ j (h : j < ws.length), w.cell? ⟨g, j, none⟩ = some (.string ws[j])) := hc
  have HS : Hid (∀ s ∈ ws, s.size ≤ 140737488351232) := hs
  clear hc hs
  go_enter Ybaf.func8, Ybaf.ntmps8
  go_wp2
  go_loopw [8, 9, 10, 11] (fun kv fv tv iv wr => ∃ (i : Nat) (k : Int) (a b : Bool) (t : ByteArray), i ≤ ws.length ∧ iv = .int .i64 i ∧ kv = .int .u8 k ∧ fv = .int .u8 (fl a b) ∧ tv = .string t ∧ Below w.heap.size w wr ∧ Hid (scan block (ws.drop i) k a b t = scan block ws 0 false false ⟨#[]⟩)) (fun _ _ _ iv _ => ws.length - (intOf iv).toNat)
  case atStart => exact ⟨0, 0, false, false, ⟨#[]⟩, Nat.zero_le _, rfl, rfl, rfl, rfl, Below.refl _ _, rfl⟩
  case round =>
    obtain ⟨i, k, a, b, t, hi, rfl, rfl, rfl, rfl, hnx, HD⟩ := hrel
    by_cases hlt : i < ws.length
    · have hcx : wr.cell? ⟨g, i, none⟩ = some (.string ws[i]) := (hnx.cell (by exact hg)).trans (HC.out i hlt)
      have HD2 := HD.out
      rw [drop_cons hlt] at HD2
      obtain ⟨s, hse⟩ : ∃ s, s = ws[i] := ⟨_, rfl⟩
      rw [← hse] at hcx HD2
      have HDR : Hid (scan block (s :: ws.drop (i + 1)) k a b t = scan block ws 0 false false ⟨#[]⟩) := HD2
      clear hse HD HD2
      by_cases c_gsm : s.toList = gsmL
      · by_cases hk : k = 0
        · subst hk
          have HN : Hid (scan block (ws.drop (i + 1)) 1 a b t = scan block ws 0 false false ⟨#[]⟩) := by
            have := HDR.out
            rw [scan_gsm c_gsm] at this
            exact this
          clear HDR
          have q_gsm : (s.toList == [103, 115, 109, 45, 115, 117, 98]) = true := beq_iff_eq.2 c_gsm
          clear c_gsm
          go_wp2
          go_roundw
          case rel => exact ⟨i + 1, 1, a, b, t, by omega, by go_num, rfl, rfl, rfl, hnx, HN⟩
          case measure => simp [intOf]; omega
        · have hk' : (k != 0) = true := bne_iff_ne.2 hk
          have HE : Hid (scan block ws 0 false false ⟨#[]⟩ = (k, fl a b, t, false)) := by show _ = _; rw [← HDR.out, scan_gsm_no c_gsm hk]
          clear HDR
          have q_gsm : (s.toList == [103, 115, 109, 45, 115, 117, 98]) = true := beq_iff_eq.2 c_gsm
          clear c_gsm hk
          go_wp2
          exact bodyPost_ret (v := four (k, fl a b, t, false)) (by simp [results, Ybaf.results8, go_sem, four]) rfl ⟨by rw [HE.out], hnx⟩
      by_cases c_map : s.toList = mapL
      · have q_gsm : (s.toList == [103, 115, 109, 45, 115, 117, 98]) = false := beq_eq_false_iff_ne.2 c_gsm
        have q_map : (s.toList == [109, 97, 112, 45, 116, 111]) = true := beq_iff_eq.2 c_map
        by_cases hk : k = 0
        · subst hk
          by_cases hi2 : i + 1 < ws.length
          · have hcd : wr.cell? ⟨g, i + 1, none⟩ = some (.string ws[i + 1]) := (hnx.cell (by exact hg)).trans (HC.out (i + 1) hi2)
            have hds := HS.out ws[i + 1] (List.getElem_mem hi2)
            have HD2 := HDR.out
            rw [drop_cons hi2] at HD2
            obtain ⟨d, hde⟩ : ∃ d, d = ws[i + 1] := ⟨_, rfl⟩
            rw [← hde] at hcd HD2 hds
            have HDR : Hid (scan block (s :: d :: ws.drop (i + 2)) 0 a b t = scan block ws 0 false false ⟨#[]⟩) := HD2
            clear hde HD2
            have hi3 : ¬ (ws.length : Int) ≤ (i : Int) + 1 := by omega
            have hdl := dstr_size d.data.toList
            have hdl2 : d.data.toList.length = d.size := by simp
            rw [hdl2] at hdl
            clear hdl2
            have CM : Hid (s.toList = mapL) := c_map
            clear c_gsm c_map
            go_wp2_with fail
            refine (dig14 d wr hds).mono ?_
            rintro e w2 ⟨rfl, hb2⟩
            have hb3 := hnx.trans (hb2.mono hnx.size)
            clear hb2
            obtain ⟨D, hD⟩ : ∃ D, D = dstr (digs d.data.toList) := ⟨_, rfl⟩
            obtain ⟨O, hO⟩ : ∃ O, O = dok (digs d.data.toList) := ⟨_, rfl⟩
            rw [← hD, ← hO]
            rw [← hD] at hdl
            have HD : Hid (D = dstr (digs d.data.toList)) := hD
            have HO : Hid (O = dok (digs d.data.toList)) := hO
            clear hD hO
            cases O with
            | false =>
              have HE : Hid (scan block ws 0 false false ⟨#[]⟩ = (0, fl a b, t, false)) := by show _ = _; rw [← HDR.out, scan_map_none CM.out (tgt_bad HO.out.symm)]
              clear HDR
              go_wp2
              exact bodyPost_ret (v := four (0, fl a b, t, false)) (by simp [results, Ybaf.results8, go_sem, four]) rfl ⟨by rw [HE.out], hb3⟩
            | true =>
              by_cases h10 : D.size = 10
              · have hd10 : ((D.size : Int) == 10) = true := beq_iff_eq.2 (by omega)
                have HN : Hid (scan block (ws.drop (i + 2)) 2 a b D = scan block ws 0 false false ⟨#[]⟩) := by
                  have := HDR.out
                  rw [scan_map_yes CM.out (tgt_ten HO.out.symm (by rw [← HD.out]; exact h10)), ← HD.out] at this
                  exact this
                clear HDR
                clear h10
                go_wp2
                go_roundw
                case rel => exact ⟨i + 2, 2, a, b, D, by omega, by go_num, rfl, rfl, rfl, hb3, HN⟩
                case measure => simp [intOf]; omega
              · have hd10 : ((D.size : Int) == 10) = false := beq_eq_false_iff_ne.2 (by omega)
                by_cases h4 : D.size = 4
                · have hd4 : ((D.size : Int) == 4) = true := beq_iff_eq.2 (by omega)
                  by_cases hbk : block.toList = []
                  · have hbe : block.toList.isEmpty = true := by rw [hbk]; rfl
                    have HE : Hid (scan block ws 0 false false ⟨#[]⟩ = (0, fl a b, t, false)) := by show _ = _; rw [← HDR.out, scan_map_none CM.out (tgt_nofour HO.out.symm (by rw [← HD.out]; exact h10) (fun h => h.2 hbk))]
                    clear HDR
                    clear h10 h4 hbk
                    go_wp2
                    exact bodyPost_ret (v := four (0, fl a b, t, false)) (by simp [results, Ybaf.results8, go_sem, four]) rfl ⟨by rw [HE.out], hb3⟩
                  · have hbe : block.toList.isEmpty = false := by simpa using hbk
                    have HN : Hid (scan block (ws.drop (i + 2)) 2 a b (block ++ D) = scan block ws 0 false false ⟨#[]⟩) := by
                      have := HDR.out
                      rw [scan_map_yes CM.out (tgt_four HO.out.symm (by rw [← HD.out]; exact h4) hbk), ← HD.out] at this
                      exact this
                    clear HDR
                    clear h10 h4 hbk
                    go_wp2
                    go_roundw
                    case rel => exact ⟨i + 2, 2, a, b, (block ++ D), by omega, by go_num, rfl, rfl, rfl, hb3, HN⟩
                    case measure => simp [intOf]; omega
                · have hd4 : ((D.size : Int) == 4) = false := beq_eq_false_iff_ne.2 (by omega)
                  have HE : Hid (scan block ws 0 false false ⟨#[]⟩ = (0, fl a b, t, false)) := by show _ = _; rw [← HDR.out, scan_map_none CM.out (tgt_nofour HO.out.symm (by rw [← HD.out]; exact h10) (fun h => h4 (by rw [HD.out]; exact h.1)))]
                  clear HDR
                  clear h10 h4
                  go_wp2
                  exact bodyPost_ret (v := four (0, fl a b, t, false)) (by simp [results, Ybaf.results8, go_sem, four]) rfl ⟨by rw [HE.out], hb3⟩
          · have hi3 : (ws.length : Int) ≤ (i : Int) + 1 := by omega
            have hdn : ws.drop (i + 1) = [] := List.drop_eq_nil_iff.2 (by omega)
            have HE : Hid (scan block ws 0 false false ⟨#[]⟩ = (0, fl a b, t, false)) := by show _ = _; rw [← HDR.out, hdn, scan_map_end c_map]
            clear HDR
            clear c_gsm c_map hdn
            go_wp2
            exact bodyPost_ret (v := four (0, fl a b, t, false)) (by simp [results, Ybaf.results8, go_sem, four]) rfl ⟨by rw [HE.out], hnx⟩
        · have hk' : (k != 0) = true := bne_iff_ne.2 hk
          have HE : Hid (scan block ws 0 false false ⟨#[]⟩ = (k, fl a b, t, false)) := by show _ = _; rw [← HDR.out, scan_map_no c_map hk]
          clear HDR
          clear c_gsm c_map hk
          go_wp2
          exact bodyPost_ret (v := four (k, fl a b, t, false)) (by simp [results, Ybaf.results8, go_sem, four]) rfl ⟨by rw [HE.out], hnx⟩
      by_cases c_e9 : s.toList = e9L
      · have q_gsm : (s.toList == [103, 115, 109, 45, 115, 117, 98]) = false := beq_eq_false_iff_ne.2 c_gsm
        have q_map : (s.toList == [109, 97, 112, 45, 116, 111]) = false := beq_eq_false_iff_ne.2 c_map
        have q_e9 : (s.toList == [101, 57, 49, 49]) = true := beq_iff_eq.2 c_e9
        have ha := and1 a b
        cases a with
        | false =>
          have HN : Hid (scan block (ws.drop (i + 1)) k true b t = scan block ws 0 false false ⟨#[]⟩) := by
            have := HDR.out
            rw [scan_e9 c_e9] at this
            exact this
          clear HDR
          clear c_gsm c_map c_e9
          go_wp2
          go_roundw
          case rel => exact ⟨i + 1, k, true, b, t, by omega, by go_num, rfl, by rw [or1], rfl, hnx, HN⟩
          case measure => simp [intOf]; omega
        | true =>
          have HE : Hid (scan block ws 0 false false ⟨#[]⟩ = (k, fl true b, t, false)) := by show _ = _; rw [← HDR.out, scan_e9_no c_e9]
          clear HDR
          clear c_gsm c_map c_e9
          go_wp2
          exact bodyPost_ret (v := four (k, fl true b, t, false)) (by simp [results, Ybaf.results8, go_sem, four]) rfl ⟨by rw [HE.out], hnx⟩
      by_cases c_sms : s.toList = smsL
      · have q_gsm : (s.toList == [103, 115, 109, 45, 115, 117, 98]) = false := beq_eq_false_iff_ne.2 c_gsm
        have q_map : (s.toList == [109, 97, 112, 45, 116, 111]) = false := beq_eq_false_iff_ne.2 c_map
        have q_e9 : (s.toList == [101, 57, 49, 49]) = false := beq_eq_false_iff_ne.2 c_e9
        have q_sms : (s.toList == [115, 109, 115]) = true := beq_iff_eq.2 c_sms
        have ha := and2 a b
        cases b with
        | false =>
          have HN : Hid (scan block (ws.drop (i + 1)) k a true t = scan block ws 0 false false ⟨#[]⟩) := by
            have := HDR.out
            rw [scan_sms c_sms] at this
            exact this
          clear HDR
          clear c_gsm c_map c_e9 c_sms
          go_wp2
          go_roundw
          case rel => exact ⟨i + 1, k, a, true, t, by omega, by go_num, rfl, by rw [or2], rfl, hnx, HN⟩
          case measure => simp [intOf]; omega
        | true =>
          have HE : Hid (scan block ws 0 false false ⟨#[]⟩ = (k, fl a true, t, false)) := by show _ = _; rw [← HDR.out, scan_sms_no c_sms]
          clear HDR
          clear c_gsm c_map c_e9 c_sms
          go_wp2
          exact bodyPost_ret (v := four (k, fl a true, t, false)) (by simp [results, Ybaf.results8, go_sem, four]) rfl ⟨by rw [HE.out], hnx⟩
      have q_gsm : (s.toList == [103, 115, 109, 45, 115, 117, 98]) = false := beq_eq_false_iff_ne.2 c_gsm
      have q_map : (s.toList == [109, 97, 112, 45, 116, 111]) = false := beq_eq_false_iff_ne.2 c_map
      have q_e9 : (s.toList == [101, 57, 49, 49]) = false := beq_eq_false_iff_ne.2 c_e9
      have q_sms : (s.toList == [115, 109, 115]) = false := beq_eq_false_iff_ne.2 c_sms
      have HE : Hid (scan block ws 0 false false ⟨#[]⟩ = (k, fl a b, t, false)) := by show _ = _; rw [← HDR.out, scan_other c_gsm c_map c_e9 c_sms]
      clear HDR
      clear c_gsm c_map c_e9 c_sms
      go_wp2
      exact bodyPost_ret (v := four (k, fl a b, t, false)) (by simp [results, Ybaf.results8, go_sem, four]) rfl ⟨by rw [HE.out], hnx⟩
    · have hdn : ws.drop i = [] := List.drop_eq_nil_iff.2 (by omega)
      have HE : Hid (scan block ws 0 false false ⟨#[]⟩ = (k, fl a b, t, true)) := by show _ = _; rw [← HD.out, hdn, scan_end]
      clear HD hdn
      go_wp2
      exact bodyPost_ret (v := four (k, fl a b, t, true)) (by simp [results, Ybaf.results8, go_sem, four]) rfl ⟨by rw [HE.out], hnx⟩

end Att
end Go.Proofs.YbulkaxeuFmt
