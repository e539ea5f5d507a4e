/-
  OURS. The law's own walk.
-/
import Derived.Test.YbulkaxjcFmtPre
namespace Go.Proofs.YbulkaxjcFmt
open Go.RowKit Go.Extern.Stop Go.Stop

set_option maxRecDepth 100000 in
set_option maxHeartbeats 8000000 in
theorem law3 (F : Interp) (ap : Option Addr) (len cap : Nat) (S Fl : Nat → Bool) (w : World) (hF : F.answers w.tape) (hlen : len ≤ 140737488351232)
    (hc : ∀ i, i < len → ∃ b off, ap = some ⟨b, off, none⟩ ∧ b < w.heap.size ∧ w.cell? ⟨b, off + i * 2, none⟩ = some (.bool (S i)) ∧ w.cell? ⟨b, off + i * 2 + 1, none⟩ = some (.bool (Fl i))) :
    Calls Ybaf.prog 3 #[.slice ap len cap] w fun e w' => e = .returned (.bool true) ∧ Below w.heap.size w w' := by
  have HF : Hid (F.answers w.tape) := hF
  have HC : Hid (∀ i, i < len → ∃ b off, ap = some ⟨b, off, none⟩ ∧ b < w.heap.size ∧ w.cell? ⟨b, off + i * 2, none⟩ = some (.bool (S i)) ∧ w.cell? ⟨b, off + i * 2 + 1, none⟩ = some (.bool (Fl i))) := hc
  obtain ⟨i0, hi, hz0, hz1, hz2⟩ := info_parts info51
  clear hF hc
  by_cases h1024 : 1024 < len
  · go_enter Ybaf.func3, Ybaf.ntmps3
    go_wp2_with (fail)
    go_ret
    exact ⟨rfl, Below.refl _ _⟩
  go_enter Ybaf.func3, Ybaf.ntmps3
  go_wp2_with (go_at_call 4; refine (newGraph4 w).mono ?_; rintro e W1 ⟨gb, rfl, hgb', hG1, hK1⟩; have hgb : Hid (w.heap.size ≤ gb) := hgb'; clear hgb')
  go_loopw [5, 6] (fun wv iv wr => ∃ k n m L st, k ≤ len ∧ iv = .int .i64 (k : Nat) ∧ Rel w gb W1.heap.size k wv n m L st wr)
    (fun _ iv _ => len - (intOf iv).toNat)
  case atStart =>
    refine ⟨0, 0, .slice none 0 0, [], false, Nat.zero_le _, rfl, Nat.le_refl _, Nat.le_refl _, hgb.out, hK1.size, ?_, ?_, World.ownsRow_nil _ _ _ _, World.ownsRow_nil _ _ _ _, ?_, ?_, ?_⟩
    · exact hG1.of (Below.heap_alloc W1 _ gb hG1.lt)
    · exact heap_alloc_new W1 _
    · simp [Value.ownBlock]
    · simp
    · exact ((hK1.alloc _).below (Nat.le_refl _) (fun _ h => h.elim))
  case round =>
    obtain ⟨k, n, m, L, st, hk, rfl, R⟩ := hrel
    by_cases hlt : k < len
    · obtain ⟨b, off, rfl, hadb, hs0, hf0⟩ := HC.out k hlt
      have hs : wr.cell? ⟨b, off + k * 2, none⟩ = some (.bool (S k)) := (R.below.cell hadb).trans hs0
      have hf : wr.cell? ⟨b, off + k * 2 + 1, none⟩ = some (.bool (Fl k)) := (R.below.cell hadb).trans hf0
      have hn100 : n ≤ 100000 := by have := R.hn; omega
      have hL100 : L.length ≤ 100000 := by have := R.hL; omega
      have hgl : Hid (gb < wr.heap.size) := R.g.lt
      have hgn : Hid (W1.heap.size ≠ gb) := by
        show W1.heap.size ≠ gb
        intro e
        obtain ⟨cur, h1, _⟩ := R.g
        rw [← e, R.c] at h1; simp at h1
      obtain ⟨wo, wc, rfl⟩ := row_shape R.ow
      obtain ⟨mo, mc, rfl⟩ := row_shape R.om
      clear hs0 hf0
      cases hS : S k <;> cases hFl : Fl k <;> simp only [hS, hFl] at hs hf
      · have P := pre_plain R.g false false
        have a1 : (wr.alloc (.cells #[.bool false, .bool false] 27)).cell? ⟨gb, 8, none⟩ = some (.bool st) := (R.g.of (Below.heap_alloc wr _ gb hgl.out)).c8
        have a2 : (wr.alloc (.cells #[.bool false, .bool false] 27)).frozen? ⟨gb, 8, none⟩ = false := (R.g.of (Below.heap_alloc wr _ gb hgl.out)).z 8
        have a3 : (((wr.alloc (.cells #[.bool false, .bool false] 27)).setCell ⟨gb, 8, none⟩ (.bool false)).alloc (.cells #[.nilIface] 51)).cell? ⟨wr.heap.size, 1, none⟩ = some (.bool false) := by simp [World.cell?, P.s]
        have a4 := cell_of_one (P.kept.obj R.c hgn.out)
        go_wp2_with (fail)
        refine (edit_plain gb W1.heap.size (wr.heap.size + 1) n _ _ hn100 P.g (P.kept.obj R.c hgn.out) P.e).mono ?_
        rintro e V ⟨rfl, hgV, hcV, hKV⟩
        have A0 := aft_plain R P hgV hcV hKV
        clear a1 a2 a3 a4 P hgV hcV hKV
        have b1 := A0.s0
        have b2 := A0.g.c8
        go_wp2_with (fail)
        go_quiet (fail)
        go_wp2_with (fail)
        clear b1 b2
        refine (tryG (A0.drewN _).g).mono ?_
        rintro e V1 ⟨rfl, hg1, hk1, -⟩
        have A1 := (A0.drewN _).step hg1 hk1
        clear hg1 hk1 A0
        go_wp2_with (fail)
        refine (unlockG A1.g).mono ?_
        rintro e V2 ⟨rfl, hg2, hk2, -⟩
        have A2 := A1.step hg2 hk2
        clear hg2 hk2 A1
        have b1 := A2.s0
        have b2 := A2.s1
        have b3 := A2.g.c7
        have b4 : V2.cell? ⟨W1.heap.size, 0, none⟩ = some (.int .i64 ((n : Int) + 1)) := by have := cell_of_one A2.c; simpa using this
        go_wp2_with (fail)
        go_loopw [11] (fun jv wq => ∃ j : Nat, j ≤ L.length ∧ jv = .int .i64 (j : Nat) ∧ Rel w gb W1.heap.size (k + 1) (.slice wo L.length wc) (n + 1) (.slice mo L.length mc) L false wq)
          (fun jv _ => L.length - (intOf jv).toNat)
        case atStart => exact ⟨0, Nat.zero_le _, rfl, rel_same R A2 (by omega)⟩
        case round =>
          obtain ⟨j, hj, rfl, Rq⟩ := hrel
          by_cases hjl : j < L.length
          · obtain ⟨mbj, wbj, xbj, hmo, hwo, hm1, hw1⟩ := rel_cells (j := j) Rq hjl
            subst hmo hwo
            have c7 := Rq.g.c7
            have hneq := neq_same ⟨xbj, 0, none⟩
            go_wp2_with (fail)
            go_quiet (fail)
            go_wp2_with (fail)
            go_roundw
            case rel => exact ⟨j + 1, by omega, by go_num, Rq.drewN _⟩
            case measure => simp [intOf]; omega
          · go_wp2_with (fail)
            go_roundw
            case rel => exact ⟨k + 1, (n + 1), _, _, false, by omega, by go_num, Rq⟩
            case measure => simp [intOf]; omega
      · have P := pre_plain R.g false true
        have a1 : (wr.alloc (.cells #[.bool false, .bool true] 27)).cell? ⟨gb, 8, none⟩ = some (.bool st) := (R.g.of (Below.heap_alloc wr _ gb hgl.out)).c8
        have a2 : (wr.alloc (.cells #[.bool false, .bool true] 27)).frozen? ⟨gb, 8, none⟩ = false := (R.g.of (Below.heap_alloc wr _ gb hgl.out)).z 8
        have a3 : (((wr.alloc (.cells #[.bool false, .bool true] 27)).setCell ⟨gb, 8, none⟩ (.bool false)).alloc (.cells #[.nilIface] 51)).cell? ⟨wr.heap.size, 1, none⟩ = some (.bool true) := by simp [World.cell?, P.s]
        go_wp2_with (fail)
        refine (newK _ _ (wr.heap.size + 2) (by simp)).mono ?_
        rintro e Y ⟨rfl, hKY, hxY⟩
        have PF := pre_fail P hKY hxY
        have a5 := cell_of_one (hKY.obj P.e id)
        have a6 := free_of_one (hKY.obj P.e id)
        have HX := (show Hid _ from PF.2)
        have P2 := PF.1
        clear P a1 a2 a3 PF hxY hKY
        have P := P2
        clear P2
        have a4 := cell_of_one (P.kept.obj R.c hgn.out)
        go_wp2_with (fail)
        clear a5 a6
        refine (edit_fail w.heap.size gb W1.heap.size (wr.heap.size + 1) (wr.heap.size + 2) n _ L _ hL100 hn100 (Nat.le_trans R.below.size P.kept.size) P.g (P.kept.row R.om (fun b h e => R.g.ne R.om (e ▸ h))) (P.kept.obj R.c hgn.out) P.e).mono ?_
        rintro e V ⟨rfl, hE, hcV, hKV⟩
        obtain ⟨mb, mc', A0⟩ := aft_failed R P hE hcV hKV
        clear a4 P hE hcV hKV
        have b1 := A0.s0
        have b2 := A0.g.c8
        go_wp2_with (fail)
        go_quiet (fail)
        go_wp2_with (fail)
        clear b1 b2
        refine (tryG (A0.drewN _).g).mono ?_
        rintro e V1 ⟨rfl, hg1, hk1, -⟩
        have A1 := (A0.drewN _).step hg1 hk1
        clear hg1 hk1 A0
        go_wp2_with (fail)
        refine (unlockG A1.g).mono ?_
        rintro e V2 ⟨rfl, hg2, hk2, -⟩
        have A2 := A1.step hg2 hk2
        clear hg2 hk2 A1
        have b1 := A2.s0
        have b2 := A2.s1
        have b3 := A2.g.c7
        have b4 : V2.cell? ⟨W1.heap.size, 0, none⟩ = some (.int .i64 ((n : Int) + 1)) := by have := cell_of_one A2.c; simpa using this
        have b5 := cell_of_one A2.e
        have HW : Hid (V2.ownsRow w.heap.size 51 1 (.slice wo L.length wc) L.length L) := A2.ow
        have hbig : Hid (w.heap.size ≤ V2.heap.size) := A2.below.size
        go_wp2_with (at_builtin; refine wpList_append_lies _ rfl (.tmp 97) (.tmp 99) 25 rfl w.heap.size 51 i0 .nilIface 1 16 Ybaf.underlying25 hi hz0 hz1 hz2 rfl (by decide) (.slice wo L.length wc) L.length L rfl (HW.out.alloc _) ⟨V2.heap.size, 0, none⟩ 1 1 [.iface 57 (.pointer (some ⟨wr.heap.size + 2, 0, none⟩))] rfl rfl (news_one V2 _) (by simp [Value.oneCell']) (by decide) (by unfold maxLen; omega) (by omega) (by have := hbig.out; simp; omega) (V2.heap.size + 1) (by simp) ?_)
        intro wb wc' V4 hown hgr hat hlt4
        have R4 := rel_app R A2 (by omega) hown hgr hat
        clear hown hgr hat A2 b1 b2 b3 b4 b5 HW
        have b3 := R4.g.c7
        go_wp2_with (fail)
        go_loopw [11] (fun jv wq => ∃ j : Nat, j ≤ (L.length + 1) ∧ jv = .int .i64 (j : Nat) ∧ Rel w gb W1.heap.size (k + 1) (.slice (some ⟨wb, 0, none⟩) (L.length + 1) wc') (n + 1) (.slice (some ⟨mb, 0, none⟩) (L.length + 1) mc') (L ++ [.iface 57 (.pointer (some ⟨wr.heap.size + 2, 0, none⟩))]) false wq)
          (fun jv _ => (L.length + 1) - (intOf jv).toNat)
        case atStart => exact ⟨0, Nat.zero_le _, rfl, R4⟩
        case round =>
          obtain ⟨j, hj, rfl, Rq⟩ := hrel
          by_cases hjl : j < (L.length + 1)
          · obtain ⟨mbj, wbj, xbj, hmo, hwo, hm1, hw1⟩ := rel_cells (j := j) Rq (by simp; omega)
            obtain rfl : mb = mbj := by simpa using hmo
            obtain rfl : wb = wbj := by simpa using hwo
            have c7 := Rq.g.c7
            have hneq := neq_same ⟨xbj, 0, none⟩
            go_wp2_with (fail)
            go_quiet (fail)
            go_wp2_with (fail)
            go_roundw
            case rel => exact ⟨j + 1, by omega, by go_num, Rq.drewN _⟩
            case measure => simp [intOf]; omega
          · go_wp2_with (fail)
            go_roundw
            case rel => exact ⟨k + 1, (n + 1), _, _, false, by omega, by go_num, Rq⟩
            case measure => simp [intOf]; omega
      · have P := pre_plain R.g true false
        have a1 : (wr.alloc (.cells #[.bool true, .bool false] 27)).cell? ⟨gb, 8, none⟩ = some (.bool st) := (R.g.of (Below.heap_alloc wr _ gb hgl.out)).c8
        have a2 : (wr.alloc (.cells #[.bool true, .bool false] 27)).frozen? ⟨gb, 8, none⟩ = false := (R.g.of (Below.heap_alloc wr _ gb hgl.out)).z 8
        have a3 : (((wr.alloc (.cells #[.bool true, .bool false] 27)).setCell ⟨gb, 8, none⟩ (.bool true)).alloc (.cells #[.nilIface] 51)).cell? ⟨wr.heap.size, 1, none⟩ = some (.bool false) := by simp [World.cell?, P.s]
        have a4 := cell_of_one (P.kept.obj R.c hgn.out)
        go_wp2_with (fail)
        refine (edit_started F w.heap.size gb _ _ L _ (by rw [P.kept.tape, R.below.tape]; exact HF.out) hL100 (Nat.le_trans R.below.size P.kept.size) P.g (P.kept.row R.om (fun b h e => R.g.ne R.om (e ▸ h)))).mono ?_
        rintro e V ⟨rfl, xb, t, hE, hxb, hxV, hKV⟩
        obtain ⟨mb, mc', A0⟩ := aft_started (xs := []) R P hgn.out hE hKV (by simp)
        clear a1 a2 a3 a4 P hE hKV hxb hxV
        have b1 := A0.s0
        have b2 := A0.g.c8
        go_wp2_with (fail)
        go_quiet (fail)
        go_wp2_with (fail)
        clear b1 b2
        refine (tryG (A0.drewN _).g).mono ?_
        rintro e V1 ⟨rfl, hg1, hk1, -⟩
        have A1 := (A0.drewN _).step hg1 hk1
        clear hg1 hk1 A0
        go_wp2_with (fail)
        refine (unlockG A1.g).mono ?_
        rintro e V2 ⟨rfl, hg2, hk2, -⟩
        have A2 := A1.step hg2 hk2
        clear hg2 hk2 A1
        have b1 := A2.s0
        have b2 := A2.s1
        have b3 := A2.g.c7
        have b4 := cell_of_one A2.c
        have b5 := cell_of_one A2.e
        have b6 := last_cell A2.om
        have HW : Hid (V2.ownsRow w.heap.size 51 1 (.slice wo L.length wc) L.length L) := A2.ow
        have hbig : Hid (w.heap.size ≤ V2.heap.size) := A2.below.size
        go_wp2_with (at_builtin; refine wpList_append_lies _ rfl (.tmp 87) (.tmp 89) 25 rfl w.heap.size 51 i0 .nilIface 1 16 Ybaf.underlying25 hi hz0 hz1 hz2 rfl (by decide) (.slice wo L.length wc) L.length L rfl (HW.out.alloc _) ⟨V2.heap.size, 0, none⟩ 1 1 [.iface 57 (.pointer (some ⟨xb, 0, none⟩))] rfl rfl (news_one V2 _) (by simp [Value.oneCell']) (by decide) (by unfold maxLen; omega) (by omega) (by have := hbig.out; simp; omega) (V2.heap.size + 1) (by simp) ?_)
        intro wb wc' V4 hown hgr hat hlt4
        have R4 := rel_app R A2 (by omega) hown hgr hat
        clear hown hgr hat A2 b1 b2 b3 b4 b5 b6 HW
        have b3 := R4.g.c7
        go_wp2_with (fail)
        go_loopw [11] (fun jv wq => ∃ j : Nat, j ≤ (L.length + 1) ∧ jv = .int .i64 (j : Nat) ∧ Rel w gb W1.heap.size (k + 1) (.slice (some ⟨wb, 0, none⟩) (L.length + 1) wc') n (.slice (some ⟨mb, 0, none⟩) (L.length + 1) mc') (L ++ [.iface 57 (.pointer (some ⟨xb, 0, none⟩))]) true wq)
          (fun jv _ => (L.length + 1) - (intOf jv).toNat)
        case atStart => exact ⟨0, Nat.zero_le _, rfl, R4⟩
        case round =>
          obtain ⟨j, hj, rfl, Rq⟩ := hrel
          by_cases hjl : j < (L.length + 1)
          · obtain ⟨mbj, wbj, xbj, hmo, hwo, hm1, hw1⟩ := rel_cells (j := j) Rq (by simp; omega)
            obtain rfl : mb = mbj := by simpa using hmo
            obtain rfl : wb = wbj := by simpa using hwo
            have c7 := Rq.g.c7
            have hneq := neq_same ⟨xbj, 0, none⟩
            go_wp2_with (fail)
            go_quiet (fail)
            go_wp2_with (fail)
            go_roundw
            case rel => exact ⟨j + 1, by omega, by go_num, Rq.drewN _⟩
            case measure => simp [intOf]; omega
          · go_wp2_with (fail)
            go_roundw
            case rel => exact ⟨k + 1, n, _, _, true, by omega, by go_num, Rq⟩
            case measure => simp [intOf]; omega
      · have P := pre_plain R.g true true
        have a1 : (wr.alloc (.cells #[.bool true, .bool true] 27)).cell? ⟨gb, 8, none⟩ = some (.bool st) := (R.g.of (Below.heap_alloc wr _ gb hgl.out)).c8
        have a2 : (wr.alloc (.cells #[.bool true, .bool true] 27)).frozen? ⟨gb, 8, none⟩ = false := (R.g.of (Below.heap_alloc wr _ gb hgl.out)).z 8
        have a3 : (((wr.alloc (.cells #[.bool true, .bool true] 27)).setCell ⟨gb, 8, none⟩ (.bool true)).alloc (.cells #[.nilIface] 51)).cell? ⟨wr.heap.size, 1, none⟩ = some (.bool true) := by simp [World.cell?, P.s]
        go_wp2_with (fail)
        refine (newK _ _ (wr.heap.size + 2) (by simp)).mono ?_
        rintro e Y ⟨rfl, hKY, hxY⟩
        have PF := pre_fail P hKY hxY
        have a5 := cell_of_one (hKY.obj P.e id)
        have a6 := free_of_one (hKY.obj P.e id)
        have HX := (show Hid _ from PF.2)
        have P2 := PF.1
        clear P a1 a2 a3 PF hxY hKY
        have P := P2
        clear P2
        have a4 := cell_of_one (P.kept.obj R.c hgn.out)
        go_wp2_with (fail)
        clear a5 a6
        refine (edit_started F w.heap.size gb _ _ L _ (by rw [P.kept.tape, R.below.tape]; exact HF.out) hL100 (Nat.le_trans R.below.size P.kept.size) P.g (P.kept.row R.om (fun b h e => R.g.ne R.om (e ▸ h)))).mono ?_
        rintro e V ⟨rfl, xb, t, hE, hxb, hxV, hKV⟩
        have hxn : Hid (wr.heap.size + 2 < xb ∨ wr.heap.size + 2 < xb) := by
          have := lt_of_block HX.out
          exact .inl (Nat.lt_of_lt_of_le this hxb)
        obtain ⟨mb, mc', A0⟩ := aft_started (xs := [xb, wr.heap.size + 2]) R P hgn.out hE hKV (by
          intro b hb
          rcases (by simpa using hb : b = xb ∨ b = wr.heap.size + 2) with rfl | rfl
          · exact ⟨_, hxV⟩
          · exact ⟨_, hKV.obj HX.out (fun h => by
              rcases h with h | h
              · have := hgl.out; omega
              · have := (R.om.lt _ h).2; omega)⟩)
        clear a4 P hE hKV hxb hxV HX
        have b1 := A0.s0
        have b2 := A0.g.c8
        go_wp2_with (fail)
        go_quiet (fail)
        go_wp2_with (fail)
        clear b1 b2
        refine (tryG (A0.drewN _).g).mono ?_
        rintro e V1 ⟨rfl, hg1, hk1, -⟩
        have A1 := (A0.drewN _).step hg1 hk1
        clear hg1 hk1 A0
        go_wp2_with (fail)
        refine (unlockG A1.g).mono ?_
        rintro e V2 ⟨rfl, hg2, hk2, -⟩
        have A2 := A1.step hg2 hk2
        clear hg2 hk2 A1
        have b1 := A2.s0
        have b2 := A2.s1
        have b3 := A2.g.c7
        have b4 := cell_of_one A2.c
        have b5 := cell_of_one A2.e
        have b6 := last_cell A2.om
        have b7 : (binOp .eql 51 (.iface 57 (.pointer (some ⟨xb, 0, none⟩))) (.iface 57 (.pointer (some ⟨wr.heap.size + 2, 0, none⟩)))).run Ybaf.prog V2 = .ok (.bool false) V2 := by
          obtain ⟨c1, h1⟩ := A2.x xb (by simp)
          obtain ⟨c2, h2⟩ := A2.x (wr.heap.size + 2) (by simp)
          exact eql_other V2 (by rcases hxn.out with h | h <;> omega) h1 h2
        have HW : Hid (V2.ownsRow w.heap.size 51 1 (.slice wo L.length wc) L.length L) := A2.ow
        have hbig : Hid (w.heap.size ≤ V2.heap.size) := A2.below.size
        go_wp2_with (at_builtin; refine wpList_append_lies _ rfl (.tmp 87) (.tmp 89) 25 rfl w.heap.size 51 i0 .nilIface 1 16 Ybaf.underlying25 hi hz0 hz1 hz2 rfl (by decide) (.slice wo L.length wc) L.length L rfl (HW.out.alloc _) ⟨V2.heap.size, 0, none⟩ 1 1 [.iface 57 (.pointer (some ⟨xb, 0, none⟩))] rfl rfl (news_one V2 _) (by simp [Value.oneCell']) (by decide) (by unfold maxLen; omega) (by omega) (by have := hbig.out; simp; omega) (V2.heap.size + 1) (by simp) ?_)
        intro wb wc' V4 hown hgr hat hlt4
        have R4 := rel_app R A2 (by omega) hown hgr hat
        clear hown hgr hat A2 b1 b2 b3 b4 b5 b6 b7 HW
        have b3 := R4.g.c7
        go_wp2_with (fail)
        go_loopw [11] (fun jv wq => ∃ j : Nat, j ≤ (L.length + 1) ∧ jv = .int .i64 (j : Nat) ∧ Rel w gb W1.heap.size (k + 1) (.slice (some ⟨wb, 0, none⟩) (L.length + 1) wc') n (.slice (some ⟨mb, 0, none⟩) (L.length + 1) mc') (L ++ [.iface 57 (.pointer (some ⟨xb, 0, none⟩))]) true wq)
          (fun jv _ => (L.length + 1) - (intOf jv).toNat)
        case atStart => exact ⟨0, Nat.zero_le _, rfl, R4⟩
        case round =>
          obtain ⟨j, hj, rfl, Rq⟩ := hrel
          by_cases hjl : j < (L.length + 1)
          · obtain ⟨mbj, wbj, xbj, hmo, hwo, hm1, hw1⟩ := rel_cells (j := j) Rq (by simp; omega)
            obtain rfl : mb = mbj := by simpa using hmo
            obtain rfl : wb = wbj := by simpa using hwo
            have c7 := Rq.g.c7
            have hneq := neq_same ⟨xbj, 0, none⟩
            go_wp2_with (fail)
            go_quiet (fail)
            go_wp2_with (fail)
            go_roundw
            case rel => exact ⟨j + 1, by omega, by go_num, Rq.drewN _⟩
            case measure => simp [intOf]; omega
          · go_wp2_with (fail)
            go_roundw
            case rel => exact ⟨k + 1, n, _, _, true, by omega, by go_num, Rq⟩
            case measure => simp [intOf]; omega
    · go_wp2_with (fail)
      go_ret
      exact ⟨rfl, R.below⟩

end Go.Proofs.YbulkaxjcFmt
