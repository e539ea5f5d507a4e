/-
  OURS. (*Graph).edit, by three contracts: the graph started (fmt.Errorf's new error is appended, the closure is not called) · not started and the closure answers an error (it is appended) · not started and the closure answers nil (nothing is appended).
-/
import Derived.Test.YbulkaxjcFmtParts
namespace Go.Proofs.YbulkaxjcFmt
open Go.RowKit Go.Extern.Stop Go.Stop

/-- What an edit that appends one error u leaves of the graph and of its mistakes. -/
def Edited (B gb : Nat) (m : Value) (L : List Value) (W W' : World) (st : Bool) (u : Value) : Prop :=
  ∃ mb cap, G W' gb 0 (.slice (some ⟨mb, 0, none⟩) (L.length + 1) cap) st ∧ W'.ownsRow B 51 1 (.slice (some ⟨mb, 0, none⟩) (L.length + 1) cap) (L.length + 1) (L ++ [u]) ∧ (m.ownBlock = some mb ∨ W.heap.size ≤ mb) ∧ mb < W'.heap.size

theorem news_one (W : World) (u : Value) : ∀ j x, [u][j]? = some x → (W.alloc (.cells #[u] 51)).cell? ((⟨W.heap.size, 0, none⟩ : Addr).add j) = some x :=
  World.news_of_block (cs := #[u]) (heap_alloc_new W _)

/-- Behind the append: the store of the slice and the deferred Unlock. -/
theorem edited_of {B gb mb cap : Nat} {m u : Value} {L : List Value} {W w w3 : World} {st : Bool} {S : Nat → Prop} (hSg : S gb) (hSm : ∀ k, m.ownBlock = some k → S k)
    (hG : G w gb 1 m st) (hM : w.ownsRow B 51 1 m L.length L) (hK : Kept S W w)
    (hown : w3.ownsRow B 51 1 (.slice (some ⟨mb, 0, none⟩) (L.length + 1) cap) (L.length + 1) (L ++ [u])) (hgr : (w.alloc (.cells #[u] 51)).grownBy w3 m.ownBlock)
    (hat : m.ownBlock = some mb ∨ mb = w.heap.size + 1) (hlt : mb < w3.heap.size) :
    G w3 gb 1 m st ∧ (Edited B gb m L W ((w3.setCell ⟨gb, 7, none⟩ (.slice (some ⟨mb, 0, none⟩) (L.length + 1) cap)).setCell ⟨gb, 0, none⟩ (.int .i32 0)) st u ∧
      Kept S W ((w3.setCell ⟨gb, 7, none⟩ (.slice (some ⟨mb, 0, none⟩) (L.length + 1) cap)).setCell ⟨gb, 0, none⟩ (.int .i32 0)) ∧
      Kept S w ((w3.setCell ⟨gb, 7, none⟩ (.slice (some ⟨mb, 0, none⟩) (L.length + 1) cap)).setCell ⟨gb, 0, none⟩ (.int .i32 0))) := by
  have hne := hG.ne hM
  have hG3 : G w3 gb 1 m st := hG.of ((hgr.block gb (by have := hG.lt; simp; omega) (fun e => hne e.symm)).trans (Below.heap_alloc w _ gb hG.lt))
  have hne3 := hG3.ne hown
  have hsz := hK.size
  refine ⟨hG3, ⟨mb, cap, (hG3.set7 _).set0 0, ?_, ?_, by simpa using hlt⟩, ?_, ?_⟩
  · exact ownsRow_setCell_other (ownsRow_setCell_other hown (a := ⟨gb, 7, none⟩) hne3 _) (a := ⟨gb, 0, none⟩) hne3 _
  · rcases hat with h | h
    · exact .inl h
    · right; omega
  · exact (((hK.alloc _).grown hgr (fun k hk => .inl (hSm k hk))).setCell (p := ⟨gb, 7, none⟩) (.inl hSg) _).setCell (p := ⟨gb, 0, none⟩) (.inl hSg) _
  · exact ((((Kept.refl S w).alloc _).grown hgr (fun k hk => .inl (hSm k hk))).setCell (p := ⟨gb, 7, none⟩) (.inl hSg) _).setCell (p := ⟨gb, 0, none⟩) (.inl hSg) _

set_option maxRecDepth 100000 in
set_option maxHeartbeats 1600000 in
theorem edit_started (F : Interp) (B gb : Nat) (m f : Value) (L : List Value) (W : World) (hF : F.answers W.tape) (hL : L.length ≤ 100000) (hB : B ≤ W.heap.size) (hG : G W gb 0 m true) (hM : W.ownsRow B 51 1 m L.length L) :
    Calls Ybaf.prog 6 #[.pointer (some ⟨gb, 0, none⟩), .string ⟨#[115, 116, 101, 112]⟩, f] W fun e W' => e = .returned (.tuple #[]) ∧
      ∃ xb t, Edited B gb m L W W' true (.iface 57 (.pointer (some ⟨xb, 0, none⟩))) ∧ W.heap.size ≤ xb ∧ W'.heap[xb]? = some (.cells #[.string t] 59 (0, 0)) ∧ Kept (fun k => k = gb ∨ m.ownBlock = some k) W W' := by
  obtain ⟨i0, hi, hz0, hz1, hz2⟩ := info_parts info51
  have HF : Hid (F.answers W.tape) := hF
  have HM : Hid (W.ownsRow B 51 1 m L.length L) := hM
  have hlt := hM.lt
  have hne := hG.ne hM
  clear hF hM
  go_enter_defers Ybaf.func6, Ybaf.ntmps6
  go_wp2_with (go_at_call 10; refine (lockG hG).mono ?_; rintro e W1 ⟨rfl, hG1, hK1, hs1'⟩; have c8 := hG1.c8; have hs1 : Hid (W1.heap.size = W.heap.size) := hs1'; clear hs1')
  refine (errorfK F ⟨#[115, 116, 101, 112]⟩ W1.heap.size _ ?_ ?_).mono ?_
  · show F.answers W1.tape
    rw [hK1.tape]; exact HF.out
  · exact cell_of_one (heap_alloc_new W1 _)
  rintro e W2 ⟨rfl, hK2, hs2', t, hx'⟩
  have hs1 := hs1.out
  have hs2 : Hid (W2.heap.size = W.heap.size + 2) := by show W2.heap.size = W.heap.size + 2; rw [hs2']; simp; omega
  have hx : Hid (W2.heap[W.heap.size + 1]? = some (.cells #[.string t] 59 (0, 0))) := by show W2.heap[W.heap.size + 1]? = _; rw [← hx']; simp [hs1]
  have hxe : (W1.alloc (.cells #[.iface 9 (.string ⟨#[115, 116, 101, 112]⟩)] 20)).heap.size = W.heap.size + 1 := by simp; omega
  rw [hxe]
  have hK12 : Kept (fun k => k = gb ∨ m.ownBlock = some k) W W2 := (((Kept.refl _ W).trans hK1 (fun _ _ h => .inl h)).alloc _).trans hK2 (fun _ _ h => h.elim)
  have hG2 : G W2 gb 1 m true := hK2.G (hG1.of (Below.heap_alloc W1 _ gb hG1.lt)) id
  have HM2 : Hid (W2.ownsRow B 51 1 m L.length L) := by
    have h1 := (hK1.row HM.out (fun k h e => hne (e ▸ h))).alloc (.cells #[.iface 9 (.string ⟨#[115, 116, 101, 112]⟩)] 20)
    exact hK2.row h1 (fun _ _ h => h)
  have c7 := hG2.c7
  clear hs1 hs2' hx' hxe c8
  go_wp2_with (at_builtin; refine wpList_append_lies _ rfl (.tmp 30) (.tmp 32) 25 rfl B 51 i0 .nilIface 1 16 Ybaf.underlying25 hi hz0 hz1 hz2 rfl (by decide) m L.length L rfl (HM2.out.alloc _) ⟨W2.heap.size, 0, none⟩ 1 1 [.iface 57 (.pointer (some ⟨W.heap.size + 1, 0, none⟩))] rfl rfl (news_one W2 _) (by simp [Value.oneCell']) (by decide) (by unfold maxLen; omega) (by omega) (by have := hs2.out; simp; omega) (W2.heap.size + 1) (by simp) ?_)
  intro mb cap W3 hown hgr hat hlt3
  have R := edited_of (W := W) (S := fun k => k = gb ∨ m.ownBlock = some k) (.inl rfl) (fun k h => .inr h) hG2 HM2.out hK12 hown hgr hat hlt3
  have hG3 := R.1
  have HR := (show Hid _ from R.2)
  have c73 := hG3.c7
  have z73 := hG3.z 7
  clear hown hgr hat R
  go_wp2
  refine leaves_cons (f := 9) (args := #[.pointer (some ⟨gb, 0, none⟩)]) (by simp) (by simp [go_sem]) ?_
  refine (unlock9d ⟨gb, 0, none⟩ .returning _ (hG3.set7 _).c0 ((hG3.set7 _).z 0)).mono ?_
  rintro e u' w'' ⟨rfl, rfl, rfl⟩
  refine ⟨_, results_none rfl _ _ _, rfl, W.heap.size + 1, t, HR.out.1, Nat.le_succ _, ?_, HR.out.2.1⟩
  exact HR.out.2.2.obj hx.out (fun h => by rcases h with h | h; · have := hG.lt; omega
                                           · have := (hlt _ h).2; omega)

set_option maxRecDepth 100000 in
set_option maxHeartbeats 1600000 in
theorem edit_fail (B gb cb eb xb n : Nat) (m : Value) (L : List Value) (W : World) (hL : L.length ≤ 100000) (hn : n ≤ 100000) (hB : B ≤ W.heap.size) (hG : G W gb 0 m false) (hM : W.ownsRow B 51 1 m L.length L)
    (hcb : W.heap[cb]? = some (.cells #[.int .i64 n] 3 (0, 0))) (heb : W.heap[eb]? = some (.cells #[.iface 57 (.pointer (some ⟨xb, 0, none⟩))] 51 (0, 0))) :
    Calls Ybaf.prog 6 #[.pointer (some ⟨gb, 0, none⟩), .string ⟨#[115, 116, 101, 112]⟩, .func (.func 7) #[] #[.pointer (some ⟨cb, 0, none⟩), .pointer (some ⟨eb, 0, none⟩)]] W fun e W' => e = .returned (.tuple #[]) ∧
      Edited B gb m L W W' false (.iface 57 (.pointer (some ⟨xb, 0, none⟩))) ∧ W'.heap[cb]? = some (.cells #[.int .i64 ((n + 1 : Nat) : Int)] 3 (0, 0)) ∧ Kept (fun k => k = gb ∨ k = cb ∨ m.ownBlock = some k) W W' := by
  obtain ⟨i0, hi, hz0, hz1, hz2⟩ := info_parts info51
  have HM : Hid (W.ownsRow B 51 1 m L.length L) := hM
  have hlt := hM.lt
  have hne := hG.ne hM
  have HC : Hid (W.heap[cb]? = some (.cells #[.int .i64 n] 3 (0, 0))) := hcb
  have HE : Hid (W.heap[eb]? = some (.cells #[.iface 57 (.pointer (some ⟨xb, 0, none⟩))] 51 (0, 0))) := heb
  have hgc : gb ≠ cb := by rintro rfl; obtain ⟨cur, h1, _⟩ := hG; rw [hcb] at h1; simp at h1
  have hge : gb ≠ eb := by rintro rfl; obtain ⟨cur, h1, _⟩ := hG; rw [heb] at h1; simp at h1
  have hmc : m.ownBlock ≠ some cb := by
    rcases hM.2 with ⟨rfl, _⟩ | ⟨g, cap, c, rfl, _, hg, _⟩
    · simp [Value.ownBlock]
    · intro e; have e' : g = cb := by simpa [Value.ownBlock] using e
      subst e'; rw [hcb] at hg; simp at hg
  clear hM hcb heb
  go_enter_defers Ybaf.func6, Ybaf.ntmps6
  go_wp2_with (go_at_call 10; refine (lockG hG).mono ?_; rintro e W1 ⟨rfl, hG1, hK1, hs1'⟩; have c8 := hG1.c8; have hs1 : Hid (W1.heap.size = W.heap.size) := hs1'; clear hs1')
  refine (closure7 cb eb n _ W1 hn (hK1.obj HC.out (fun h => hgc h.symm)) (hK1.obj HE.out (fun h => hge h.symm))).mono ?_
  rintro e W2 ⟨rfl, hcb2', hK2, hs2'⟩
  have HC2 : Hid (W2.heap[cb]? = some (.cells #[.int .i64 ((n + 1 : Nat) : Int)] 3 (0, 0))) := hcb2'
  have hs2 : Hid (W2.heap.size = W.heap.size) := by show W2.heap.size = W.heap.size; rw [hs2']; exact hs1.out
  have hK12 : Kept (fun k => k = gb ∨ k = cb ∨ m.ownBlock = some k) W W2 := ((Kept.refl _ W).trans hK1 (fun _ _ h => .inl h)).trans hK2 (fun _ _ h => .inr (.inl h))
  have hG2 : G W2 gb 1 m false := hK2.G hG1 hgc
  have HM2 : Hid (W2.ownsRow B 51 1 m L.length L) := hK2.row (hK1.row HM.out (fun k h e => hne (e ▸ h))) (fun k h e => hmc (e ▸ h))
  have c7 := hG2.c7
  clear hs2' hcb2' c8
  go_wp2_with (at_builtin; refine wpList_append_lies _ rfl (.tmp 30) (.tmp 32) 25 rfl B 51 i0 .nilIface 1 16 Ybaf.underlying25 hi hz0 hz1 hz2 rfl (by decide) m L.length L rfl (HM2.out.alloc _) ⟨W2.heap.size, 0, none⟩ 1 1 [.iface 57 (.pointer (some ⟨xb, 0, none⟩))] rfl rfl (news_one W2 _) (by simp [Value.oneCell']) (by decide) (by unfold maxLen; omega) (by omega) (by have := hs2.out; simp; omega) (W2.heap.size + 1) (by simp) ?_)
  intro mb cap W3 hown hgr hat hlt3
  have R := edited_of (W := W) (S := fun k => k = gb ∨ k = cb ∨ m.ownBlock = some k) (.inl rfl) (fun k h => .inr (.inr h)) hG2 HM2.out hK12 hown hgr hat hlt3
  have hG3 := R.1
  have HR := (show Hid _ from R.2)
  have c73 := hG3.c7
  have z73 := hG3.z 7
  have HCf : Hid (((W3.setCell ⟨gb, 7, none⟩ (.slice (some ⟨mb, 0, none⟩) (L.length + 1) cap)).setCell ⟨gb, 0, none⟩ (.int .i32 0)).heap[cb]? = some (.cells #[.int .i64 ((n + 1 : Nat) : Int)] 3 (0, 0))) := by
    have hh : Kept (fun k => k = gb ∨ m.ownBlock = some k) W2 ((W3.setCell ⟨gb, 7, none⟩ (.slice (some ⟨mb, 0, none⟩) (L.length + 1) cap)).setCell ⟨gb, 0, none⟩ (.int .i32 0)) := ((((Kept.refl _ W2).alloc _).grown hgr (fun k hk => .inl (.inr hk))).setCell (p := ⟨gb, 7, none⟩) (.inl (.inl rfl)) _).setCell (p := ⟨gb, 0, none⟩) (.inl (.inl rfl)) _
    exact hh.obj HC2.out (fun h => by rcases h with h | h; exact hgc h.symm; exact hmc h)
  clear hown hgr hat R
  go_wp2
  refine leaves_cons (f := 9) (args := #[.pointer (some ⟨gb, 0, none⟩)]) (by simp) (by simp [go_sem]) ?_
  refine (unlock9d ⟨gb, 0, none⟩ .returning _ (hG3.set7 _).c0 ((hG3.set7 _).z 0)).mono ?_
  rintro e u' w'' ⟨rfl, rfl, rfl⟩
  exact ⟨_, results_none rfl _ _ _, rfl, HR.out.1, HCf.out, HR.out.2.1⟩

set_option maxRecDepth 100000 in
set_option maxHeartbeats 1600000 in
theorem edit_plain (gb cb eb n : Nat) (m : Value) (W : World) (hn : n ≤ 100000) (hG : G W gb 0 m false)
    (hcb : W.heap[cb]? = some (.cells #[.int .i64 n] 3 (0, 0))) (heb : W.heap[eb]? = some (.cells #[.nilIface] 51 (0, 0))) :
    Calls Ybaf.prog 6 #[.pointer (some ⟨gb, 0, none⟩), .string ⟨#[115, 116, 101, 112]⟩, .func (.func 7) #[] #[.pointer (some ⟨cb, 0, none⟩), .pointer (some ⟨eb, 0, none⟩)]] W fun e W' => e = .returned (.tuple #[]) ∧
      G W' gb 0 m false ∧ W'.heap[cb]? = some (.cells #[.int .i64 ((n + 1 : Nat) : Int)] 3 (0, 0)) ∧ Kept (fun k => k = gb ∨ k = cb) W W' := by
  have HC : Hid (W.heap[cb]? = some (.cells #[.int .i64 n] 3 (0, 0))) := hcb
  have HE : Hid (W.heap[eb]? = some (.cells #[.nilIface] 51 (0, 0))) := heb
  have hgc : gb ≠ cb := by rintro rfl; obtain ⟨cur, h1, _⟩ := hG; rw [hcb] at h1; simp at h1
  have hge : gb ≠ eb := by rintro rfl; obtain ⟨cur, h1, _⟩ := hG; rw [heb] at h1; simp at h1
  clear hcb heb
  go_enter_defers Ybaf.func6, Ybaf.ntmps6
  go_wp2_with (go_at_call 10; refine (lockG hG).mono ?_; rintro e W1 ⟨rfl, hG1, hK1, hs1'⟩; have c8 := hG1.c8; have hs1 : Hid (W1.heap.size = W.heap.size) := hs1'; clear hs1')
  refine (closure7 cb eb n _ W1 hn (hK1.obj HC.out (fun h => hgc h.symm)) (hK1.obj HE.out (fun h => hge h.symm))).mono ?_
  rintro e W2 ⟨rfl, hcb2', hK2, hs2'⟩
  have HC2 : Hid (W2.heap[cb]? = some (.cells #[.int .i64 ((n + 1 : Nat) : Int)] 3 (0, 0))) := hcb2'
  have hK12 : Kept (fun k => k = gb ∨ k = cb) W W2 := ((Kept.refl _ W).trans hK1 (fun _ _ h => .inl h)).trans hK2 (fun _ _ h => .inr h)
  have hG2 : G W2 gb 1 m false := hK2.G hG1 hgc
  clear hs2' hcb2' c8
  go_wp2
  refine leaves_cons (f := 9) (args := #[.pointer (some ⟨gb, 0, none⟩)]) (by simp) (by simp [go_sem]) ?_
  refine (unlock9d ⟨gb, 0, none⟩ .returning _ hG2.c0 (hG2.z 0)).mono ?_
  rintro e u' w'' ⟨rfl, rfl, rfl⟩
  refine ⟨_, results_none rfl _ _ _, rfl, hG2.set0 0, ?_, hK12.setCell (p := ⟨gb, 0, none⟩) (.inl (.inl rfl)) _⟩
  rw [Below.heap_setCell _ _ _ _ (by simpa using hgc.symm)]; exact HC2.out

end Go.Proofs.YbulkaxjcFmt
