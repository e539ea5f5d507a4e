/-
  OURS. What the walks of this law need of memory: the graph's block by the three cells that are used (lock's word, mistakes, started), what is kept between two worlds, and the small contracts in that form.
-/
import Derived.Test.YbulkaxjcFmtLocks
import Derived.Test.YbulkaxjcFmtErrorf
import Derived.Deep.AppendLies
import Derived.LaidEql
namespace Go.Proofs.YbulkaxjcFmt
open Go.RowKit Go.Extern.Stop Go.Stop

/-- The graph's block: word of the lock, the slice of mistakes, the flag. -/
def G (W : World) (gb : Nat) (lk : Int) (m : Value) (st : Bool) : Prop :=
  ∃ cur : Array Value, W.heap[gb]? = some (.cells cur 49 (0, 0)) ∧ cur[0]? = some (.int .i32 lk) ∧ cur[7]? = some m ∧ cur[8]? = some (.bool st)

theorem G.c0 {W : World} {gb : Nat} {lk : Int} {m : Value} {st : Bool} (h : G W gb lk m st) : W.cell? ⟨gb, 0, none⟩ = some (.int .i32 lk) := by
  obtain ⟨cur, h1, h2, h3, h4⟩ := h; simp [World.cell?, h1, h2]
theorem G.c7 {W : World} {gb : Nat} {lk : Int} {m : Value} {st : Bool} (h : G W gb lk m st) : W.cell? ⟨gb, 7, none⟩ = some m := by
  obtain ⟨cur, h1, h2, h3, h4⟩ := h; simp [World.cell?, h1, h3]
theorem G.c8 {W : World} {gb : Nat} {lk : Int} {m : Value} {st : Bool} (h : G W gb lk m st) : W.cell? ⟨gb, 8, none⟩ = some (.bool st) := by
  obtain ⟨cur, h1, h2, h3, h4⟩ := h; simp [World.cell?, h1, h4]
theorem G.z {W : World} {gb : Nat} {lk : Int} {m : Value} {st : Bool} (h : G W gb lk m st) (j : Nat) : W.frozen? ⟨gb, j, none⟩ = false := by
  obtain ⟨cur, h1, h2, h3, h4⟩ := h; simp [World.frozen?, h1]
theorem G.lt {W : World} {gb : Nat} {lk : Int} {m : Value} {st : Bool} (h : G W gb lk m st) : gb < W.heap.size := by
  obtain ⟨cur, h1, _⟩ := h; exact lt_of_block h1
theorem G.of {W W' : World} {gb : Nat} {lk : Int} {m : Value} {st : Bool} (h : G W gb lk m st) (e : W'.heap[gb]? = W.heap[gb]?) : G W' gb lk m st := by
  obtain ⟨cur, h1, h2⟩ := h; exact ⟨cur, e.trans h1, h2⟩
theorem G.set0 {W : World} {gb : Nat} {lk : Int} {m : Value} {st : Bool} (h : G W gb lk m st) (k : Int) : G (W.setCell ⟨gb, 0, none⟩ (.int .i32 k)) gb k m st := by
  obtain ⟨cur, h1, h2, h3, h4⟩ := h
  have hs : 0 < cur.size := by rcases Nat.lt_or_ge 0 cur.size with h | h; exact h; rw [Array.getElem?_eq_none h] at h2; cases h2
  refine ⟨cur.set! 0 (.int .i32 k), by simp [World.setCell, Array.getElem?_modify, h1], ?_, ?_, ?_⟩ <;> simp [hs, h3, h4]
theorem G.set7 {W : World} {gb : Nat} {lk : Int} {m : Value} {st : Bool} (h : G W gb lk m st) (m' : Value) : G (W.setCell ⟨gb, 7, none⟩ m') gb lk m' st := by
  obtain ⟨cur, h1, h2, h3, h4⟩ := h
  have hs : 7 < cur.size := by rcases Nat.lt_or_ge 7 cur.size with h | h; exact h; rw [Array.getElem?_eq_none h] at h3; cases h3
  refine ⟨cur.set! 7 m', by simp [World.setCell, Array.getElem?_modify, h1], ?_, ?_, ?_⟩ <;> simp [hs, h2, h4]
theorem G.set8 {W : World} {gb : Nat} {lk : Int} {m : Value} {st : Bool} (h : G W gb lk m st) (s : Bool) : G (W.setCell ⟨gb, 8, none⟩ (.bool s)) gb lk m s := by
  obtain ⟨cur, h1, h2, h3, h4⟩ := h
  have hs : 8 < cur.size := by rcases Nat.lt_or_ge 8 cur.size with h | h; exact h; rw [Array.getElem?_eq_none h] at h4; cases h4
  refine ⟨cur.set! 8 (.bool s), by simp [World.setCell, Array.getElem?_modify, h1], ?_, ?_, ?_⟩ <;> simp [hs, h2, h3]
/-- The graph's block is no row of errors. -/
theorem G.ne {W : World} {gb B n : Nat} {lk : Int} {m v : Value} {st : Bool} {xs : List Value} (h : G W gb lk m st) (ho : W.ownsRow B 51 1 v n xs) : v.ownBlock ≠ some gb := by
  obtain ⟨cur, h1, _⟩ := h
  rcases ho.2 with ⟨rfl, _⟩ | ⟨g, cap, c, rfl, _, hg, _⟩
  · simp [Value.ownBlock]
  · simp only [Value.ownBlock]
    intro e
    have : g = gb := by simpa using e
    subst this
    rw [h1] at hg
    simp at hg

/-- Kept: beyond the blocks of S, what lay in W lies in W'. -/
structure Kept (S : Nat → Prop) (W W' : World) : Prop where
  os : W'.os = W.os
  tape : W'.tape = W.tape
  output : W'.output = W.output
  size : W.heap.size ≤ W'.heap.size
  block : ∀ k, k < W.heap.size → ¬ S k → W'.heap[k]? = W.heap[k]?

theorem Kept.refl (S : Nat → Prop) (W : World) : Kept S W W := ⟨rfl, rfl, rfl, Nat.le_refl _, fun _ _ _ => rfl⟩
theorem Kept.alloc {S : Nat → Prop} {W w : World} (h : Kept S W w) (o : Obj) : Kept S W (w.alloc o) :=
  ⟨h.os, h.tape, h.output, Nat.le_trans h.size (by simp), fun k hk hs => (Below.heap_alloc w o k (Nat.lt_of_lt_of_le hk h.size)).trans (h.block k hk hs)⟩
theorem Kept.drew {S : Nat → Prop} {W w : World} (h : Kept S W w) : Kept S W w.drew := ⟨h.os, h.tape, h.output, h.size, h.block⟩
theorem Kept.setCell {S : Nat → Prop} {W w : World} (h : Kept S W w) {p : Addr} (hp : S p.block ∨ W.heap.size ≤ p.block) (u : Value) : Kept S W (w.setCell p u) :=
  ⟨h.os, h.tape, h.output, by simpa using h.size, fun k hk hs => (Below.heap_setCell w p u k (fun e => by subst e; rcases hp with hp | hp; exact hs hp; omega)).trans (h.block k hk hs)⟩
theorem Kept.grown {S : Nat → Prop} {W w w' : World} {row : Option Nat} (h : Kept S W w) (hg : w.grownBy w' row) (hr : ∀ k, row = some k → S k ∨ W.heap.size ≤ k) : Kept S W w' :=
  ⟨hg.os.trans h.os, hg.tape.trans h.tape, hg.output.trans h.output, Nat.le_trans h.size hg.size, fun k hk hs => (hg.block k (Nat.lt_of_lt_of_le hk h.size) (fun e => by rcases hr k e.symm with hp | hp; exact hs hp; omega)).trans (h.block k hk hs)⟩
theorem Kept.trans {S T : Nat → Prop} {W w w' : World} (h : Kept S W w) (k : Kept T w w') (hT : ∀ b, b < W.heap.size → T b → S b) : Kept S W w' :=
  ⟨k.os.trans h.os, k.tape.trans h.tape, k.output.trans h.output, Nat.le_trans h.size k.size, fun b hb hs => (k.block b (Nat.lt_of_lt_of_le hb h.size) (fun t => hs (hT b hb t))).trans (h.block b hb hs)⟩
theorem Kept.below {S : Nat → Prop} {W w : World} (h : Kept S W w) {B : Nat} (hB : B ≤ W.heap.size) (hS : ∀ k, S k → B ≤ k) : Below B W w :=
  ⟨h.os, h.tape, h.output, h.size, fun k hk => h.block k (by omega) (fun s => by have := hS k s; omega)⟩
theorem Kept.row {S : Nat → Prop} {W w : World} (h : Kept S W w) {B n : Nat} {v : Value} {xs : List Value} (ho : W.ownsRow B 51 1 v n xs) (hS : ∀ k, v.ownBlock = some k → ¬ S k) : w.ownsRow B 51 1 v n xs := by
  refine ⟨ho.1, ?_⟩
  rcases ho.2 with ⟨rfl, h0⟩ | ⟨g, cap, c, rfl, hb, hg, hr⟩
  · exact .inl ⟨rfl, h0⟩
  · exact .inr ⟨g, cap, c, rfl, hb, (h.block g (lt_of_block hg) (hS g rfl)).trans hg, hr⟩
theorem Kept.obj {S : Nat → Prop} {W w : World} (h : Kept S W w) {k : Nat} {o : Obj} (ho : W.heap[k]? = some o) (hS : ¬ S k) : w.heap[k]? = some o :=
  (h.block k (lt_of_block ho) hS).trans ho
theorem Kept.G {S : Nat → Prop} {W w : World} (h : Kept S W w) {gb : Nat} {lk : Int} {m : Value} {st : Bool} (hg : G W gb lk m st) (hS : ¬ S gb) : G w gb lk m st :=
  hg.of (h.block gb hg.lt hS)

/-! The small contracts. -/
theorem lockG {W : World} {gb : Nat} {m : Value} {st : Bool} (h : G W gb 0 m st) :
    Calls Ybaf.prog 10 #[.pointer (some ⟨gb, 0, none⟩)] W fun e W' => e = .returned (.tuple #[]) ∧ G W' gb 1 m st ∧ Kept (· = gb) W W' ∧ W'.heap.size = W.heap.size := by
  refine (lock10 _ W h.c0 (h.z 0)).mono ?_
  rintro e w' ⟨rfl, rfl⟩
  exact ⟨rfl, h.set0 1, (Kept.refl (· = gb) W).setCell (p := ⟨gb, 0, none⟩) (.inl rfl) _, by simp⟩
theorem unlockG {W : World} {gb : Nat} {m : Value} {st : Bool} (h : G W gb 1 m st) :
    Calls Ybaf.prog 9 #[.pointer (some ⟨gb, 0, none⟩)] W fun e W' => e = .returned (.tuple #[]) ∧ G W' gb 0 m st ∧ Kept (· = gb) W W' ∧ W'.heap.size = W.heap.size := by
  refine (unlock9 _ W h.c0 (h.z 0)).mono ?_
  rintro e w' ⟨rfl, rfl⟩
  exact ⟨rfl, h.set0 0, (Kept.refl (· = gb) W).setCell (p := ⟨gb, 0, none⟩) (.inl rfl) _, by simp⟩
theorem tryG {W : World} {gb : Nat} {m : Value} {st : Bool} (h : G W gb 0 m st) :
    Calls Ybaf.prog 8 #[.pointer (some ⟨gb, 0, none⟩)] W fun e W' => e = .returned (.bool true) ∧ G W' gb 1 m st ∧ Kept (· = gb) W W' ∧ W'.heap.size = W.heap.size := by
  refine (try8 _ W h.c0 (h.z 0)).mono ?_
  rintro e w' ⟨rfl, rfl⟩
  exact ⟨rfl, h.set0 1, (Kept.refl (· = gb) W).setCell (p := ⟨gb, 0, none⟩) (.inl rfl) _, by simp⟩
theorem errorfK (F : Interp) (s : ByteArray) (blk : Nat) (w : World) (hF : F.answers w.tape)
    (hc0 : w.cell? ⟨blk, 0, none⟩ = some (.iface 9 (.string s))) :
    Calls Ybaf.prog 11 #[.string ⟨#[102, 114, 101, 115, 104, 101, 116, 58, 32, 37, 115, 32, 97, 102, 116, 101, 114, 32, 116, 104, 101, 32, 103, 114, 97, 112, 104, 32, 119, 97, 115, 32, 114, 117, 110]⟩, .slice (some ⟨blk, 0, none⟩) 1 1] w fun e w' =>
      e = .returned (.iface 57 (.pointer (some ⟨w.heap.size, 0, none⟩))) ∧ Kept (fun _ => False) w w' ∧ w'.heap.size = w.heap.size + 1 ∧ ∃ t, w'.heap[w.heap.size]? = some (.cells #[.string t] 59 (0, 0)) := by
  refine (errorf11 F s blk w hF hc0).mono ?_
  rintro e w' ⟨rfl, t, rfl⟩
  exact ⟨rfl, ((Kept.refl _ _).alloc _).drew, by simp, t, heap_alloc_new w _⟩

set_option maxHeartbeats 400000 in
/-- The closure: calls++ and return e. -/
theorem closure7 (cb eb n : Nat) (ev : Value) (W : World) (hn : n ≤ 100000) (hcb : W.heap[cb]? = some (.cells #[.int .i64 n] 3 (0, 0))) (heb : W.heap[eb]? = some (.cells #[ev] 51 (0, 0))) :
    Calls Ybaf.prog 7 #[.pointer (some ⟨cb, 0, none⟩), .pointer (some ⟨eb, 0, none⟩)] W fun e W' => e = .returned ev ∧ W'.heap[cb]? = some (.cells #[.int .i64 ((n + 1 : Nat) : Int)] 3 (0, 0)) ∧ Kept (· = cb) W W' ∧ W'.heap.size = W.heap.size := by
  have hc := cell_of_one hcb
  have hz := free_of_one hcb
  have he := cell_of_one heb
  have hne : cb ≠ eb := by rintro rfl; rw [hcb] at heb; simp at heb
  have he' : ∀ v, (W.setCell ⟨cb, 0, none⟩ v).cell? ⟨eb, 0, none⟩ = some ev := fun v => (World.cell?_setCell_other W ⟨cb, 0, none⟩ ⟨eb, 0, none⟩ v (fun h => hne (congrArg Addr.block h))).trans he
  have HC : Hid (W.heap[cb]? = some (.cells #[.int .i64 n] 3 (0, 0))) := hcb
  clear hcb heb
  go_enter Ybaf.func7, Ybaf.ntmps7
  go_wp2
  go_ret
  exact ⟨rfl, by have := one_setCell (u := .int .i64 ((n : Int) + 1)) HC.out; simpa using this, (Kept.refl (· = cb) W).setCell (p := ⟨cb, 0, none⟩) (.inl rfl) _, by simp⟩

theorem info57 : ∃ i, Ybaf.prog.info? 57 = some i ∧ i.comparable = true := by
  have h : (Ybaf.prog.info? 57).map (·.comparable) = some true := by kernel_rfl
  obtain ⟨i, h1, h2⟩ := Option.map_eq_some_iff.1 h
  exact ⟨i, h1, h2⟩
theorem info59 : ∃ i, Ybaf.prog.info? 59 = some i ∧ i.size ≠ 0 := by
  have h : (Ybaf.prog.info? 59).map (·.size) = some 1 := by kernel_rfl
  obtain ⟨i, h1, h2⟩ := Option.map_eq_some_iff.1 h
  exact ⟨i, h1, by omega⟩
theorem neq_same (a : Addr) (w : World) : (binOp .neq 51 (.iface 57 (.pointer (some a))) (.iface 57 (.pointer (some a)))).run Ybaf.prog w = .ok (.bool false) w := by
  obtain ⟨i, hi, hcmp⟩ := info57
  obtain ⟨j, hj, _⟩ := info59
  simp only [binOp]
  simp [Op.equal, Op.maxDepth, run_equalIn_iface_ptr_same w 9998 a Ybaf.underlying51 Ybaf.underlying57 hi hcmp hj]
theorem eql_other {a b : Nat} {ca cb : Array Value} {ta tb : TypeId} (w : World) (hne : a ≠ b) (ha : w.heap[a]? = some (.cells ca ta (0, 0))) (hb : w.heap[b]? = some (.cells cb tb (0, 0))) :
    (binOp .eql 51 (.iface 57 (.pointer (some ⟨a, 0, none⟩))) (.iface 57 (.pointer (some ⟨b, 0, none⟩)))).run Ybaf.prog w = .ok (.bool false) w := by
  obtain ⟨i, hi, hcmp⟩ := info57
  obtain ⟨j, hj, hsz⟩ := info59
  exact run_eql_iface_ptr_other w Ybaf.underlying51 Ybaf.underlying57 hi hcmp hj hsz (fun h => hne (congrArg Addr.block h)) ha hb
theorem info51 : (Ybaf.prog.info? 51).map (fun i => (i.zero, i.size, i.bytes)) = some (some .nilIface, 1, 16) := by kernel_rfl

end Go.Proofs.YbulkaxjcFmt
