/-
  OURS. The world as the round's call of edit finds it.
-/
import Derived.Test.YbulkaxjcFmtEdit
import Derived.Test.YbulkaxjcFmtNew
import Derived.Deep.QuietTactic
import Derived.BigQuiet
namespace Go.Proofs.YbulkaxjcFmt
open Go.RowKit Go.Extern.Stop Go.Stop

/-- What holds ahead of round k: w: the world as the law began. -/
structure Rel (w : World) (gb cb k : Nat) (wv : Value) (n : Nat) (m : Value) (L : List Value) (st : Bool) (wr : World) : Prop where
  hn : n ≤ k
  hL : L.length ≤ k
  hgb : w.heap.size ≤ gb
  hcb : w.heap.size ≤ cb
  g : G wr gb 0 m st
  c : wr.heap[cb]? = some (.cells #[.int .i64 n] 3 (0, 0))
  om : wr.ownsRow w.heap.size 51 1 m L.length L
  ow : wr.ownsRow w.heap.size 51 1 wv L.length L
  ne : ∀ b, m.ownBlock = some b → wv.ownBlock ≠ some b
  ptr : ∀ u ∈ L, ∃ b, u = .iface 57 (.pointer (some ⟨b, 0, none⟩))
  below : Below w.heap.size w wr

/-- The world that edit finds: the step's copy at N, e's variable at N + 1 (N: the heap's size ahead of the round). -/
structure Pre (wr : World) (gb : Nat) (m : Value) (st fl : Bool) (ev : Value) (W : World) : Prop where
  kept : Kept (· = gb) wr W
  g : G W gb 0 m st
  s : W.heap[wr.heap.size]? = some (.cells #[.bool st, .bool fl] 27 (0, 0))
  e : W.heap[wr.heap.size + 1]? = some (.cells #[ev] 51 (0, 0))

theorem pre_plain {wr : World} {gb : Nat} {m : Value} {st0 : Bool} (h : G wr gb 0 m st0) (st fl : Bool) :
    Pre wr gb m st fl .nilIface (((wr.alloc (.cells #[.bool st, .bool fl] 27)).setCell ⟨gb, 8, none⟩ (.bool st)).alloc (.cells #[.nilIface] 51)) := by
  have hlt := h.lt
  have hg1 : G (wr.alloc (.cells #[.bool st, .bool fl] 27)) gb 0 m st0 := h.of (Below.heap_alloc wr _ gb hlt)
  have hg2 := hg1.set8 st
  have hs1 : (wr.alloc (.cells #[.bool st, .bool fl] 27)).heap[wr.heap.size]? = some (.cells #[.bool st, .bool fl] 27 (0, 0)) := heap_alloc_new wr _
  refine ⟨(((Kept.refl (· = gb) wr).alloc _).setCell (p := ⟨gb, 8, none⟩) (.inl rfl) _).alloc _, hg2.of (Below.heap_alloc _ _ gb hg2.lt), ?_, ?_⟩
  · rw [Below.heap_alloc _ _ _ (by simp), Below.heap_setCell _ _ _ _ (by show wr.heap.size ≠ gb; omega)]; exact hs1
  · have := heap_alloc_new ((wr.alloc (.cells #[.bool st, .bool fl] 27)).setCell ⟨gb, 8, none⟩ (.bool st)) (.cells #[.nilIface] 51)
    simpa using this

/-- errors.New in the form that the walk wants. -/
theorem newK (s : ByteArray) (w : World) (N : Nat) (hN : w.heap.size = N) :
    Calls Ybaf.prog 5 #[.string s] w fun e w' => e = .returned (.iface 57 (.pointer (some ⟨N, 0, none⟩))) ∧ Kept (fun _ => False) w w' ∧ w'.heap[N]? = some (.cells #[.string s] 59 (0, 0)) := by
  subst hN
  refine (new5 s w).mono ?_
  rintro e w' ⟨rfl, rfl⟩
  exact ⟨rfl, (Kept.refl _ _).alloc _, heap_alloc_new w _⟩

theorem pre_fail {wr X Y : World} {gb : Nat} {m : Value} {st fl : Bool} {sv : ByteArray} (h : Pre wr gb m st fl .nilIface X) (hK : Kept (fun _ => False) X Y) (hx : Y.heap[wr.heap.size + 2]? = some (.cells #[.string sv] 59 (0, 0))) :
    Pre wr gb m st fl (.iface 57 (.pointer (some ⟨wr.heap.size + 2, 0, none⟩))) (Y.setCell ⟨wr.heap.size + 1, 0, none⟩ (.iface 57 (.pointer (some ⟨wr.heap.size + 2, 0, none⟩)))) ∧
    (Y.setCell ⟨wr.heap.size + 1, 0, none⟩ (.iface 57 (.pointer (some ⟨wr.heap.size + 2, 0, none⟩)))).heap[wr.heap.size + 2]? = some (.cells #[.string sv] 59 (0, 0)) := by
  have hgw : gb ≠ wr.heap.size + 1 := by
    rintro rfl
    obtain ⟨cur, h1, _⟩ := h.g
    rw [h.e] at h1; simp at h1
  refine ⟨⟨?_, ?_, ?_, ?_⟩, ?_⟩
  · exact (h.kept.trans hK (fun _ _ f => f.elim)).setCell (p := ⟨wr.heap.size + 1, 0, none⟩) (.inr (by show wr.heap.size ≤ wr.heap.size + 1; omega)) _
  · exact (hK.G h.g id).of (Below.heap_setCell _ _ _ _ hgw)
  · rw [Below.heap_setCell _ _ _ _ (by show wr.heap.size ≠ wr.heap.size + 1; omega)]; exact hK.obj h.s id
  · exact one_setCell (hK.obj h.e id)
  · rw [Below.heap_setCell _ _ _ _ (by show wr.heap.size + 2 ≠ wr.heap.size + 1; omega)]; exact hx

/-- A block of another type than 51 is no row of errors. -/
theorem row_ne {W : World} {B n b : Nat} {v : Value} {xs : List Value} {cs : Array Value} {t : TypeId} (ho : W.ownsRow B 51 1 v n xs) (hb : W.heap[b]? = some (.cells cs t (0, 0))) (ht : t ≠ 51) : v.ownBlock ≠ some b := by
  rcases ho.2 with ⟨rfl, _⟩ | ⟨g, cap, c, rfl, _, hg, _⟩
  · simp [Value.ownBlock]
  · simp only [Value.ownBlock]
    intro e
    have : g = b := by simpa using e
    subst this
    rw [hb] at hg
    simp at hg
    exact ht hg.2

theorem row_shape {W : World} {B n : Nat} {v : Value} {xs : List Value} (ho : W.ownsRow B 51 1 v n xs) : ∃ o c, v = .slice o n c := by
  rcases ho.2 with ⟨rfl, rfl⟩ | ⟨g, cap, c, rfl, _⟩
  · exact ⟨_, _, rfl⟩
  · exact ⟨_, _, rfl⟩

theorem row_cell {W : World} {B n n' j : Nat} {o : Option Addr} {c : Nat} {xs : List Value} {u : Value} (ho : W.ownsRow B 51 1 (.slice o n' c) n xs) (hj : xs[j]? = some u) : ∃ g, o = some ⟨g, 0, none⟩ ∧ W.cell? ⟨g, j, none⟩ = some u := by
  have hjl : j < xs.length := (List.getElem?_eq_some_iff.1 hj).1
  have h1 := ho.1
  obtain ⟨g, cap, hv, _, _⟩ := ho.form (by omega)
  have hv' : o = some ⟨g, 0, none⟩ := by injection hv
  subst hv'
  refine ⟨g, rfl, ?_⟩
  have := ho.cells (g := g) rfl j u hj
  have hadd : (⟨g, 0, none⟩ : Addr).add j = ⟨g, j, none⟩ := by unfold Addr.add; split <;> simp_all
  rwa [hadd] at this

/-- The world behind the edit: lk: the lock's word. -/
structure Aft (lk : Int) (w wr : World) (gb cb : Nat) (wv : Value) (L : List Value) (n : Nat) (m : Value) (L' : List Value) (st fl : Bool) (ev : Value) (xs : List Nat) (V : World) : Prop where
  g : G V gb lk m st
  s : V.heap[wr.heap.size]? = some (.cells #[.bool st, .bool fl] 27 (0, 0))
  e : V.heap[wr.heap.size + 1]? = some (.cells #[ev] 51 (0, 0))
  c : V.heap[cb]? = some (.cells #[.int .i64 n] 3 (0, 0))
  om : V.ownsRow w.heap.size 51 1 m L'.length L'
  ow : V.ownsRow w.heap.size 51 1 wv L.length L
  ne : ∀ b, m.ownBlock = some b → wv.ownBlock ≠ some b
  below : Below w.heap.size w V
  hgb : w.heap.size ≤ gb
  hcb : w.heap.size ≤ cb
  big : wr.heap.size + 2 ≤ V.heap.size
  eb : ∀ b, wv.ownBlock = some b → b < wr.heap.size
  x : ∀ b ∈ xs, ∃ cs, V.heap[b]? = some (.cells cs 59 (0, 0))

theorem aft_of {w wr X V : World} {gb cb k n n' : Nat} {wv m m' : Value} {L L' : List Value} {st0 st fl : Bool} {ev : Value} {xs : List Nat} (R : Rel w gb cb k wv n m L st0 wr) (P : Pre wr gb m st fl ev X)
    (hg : G V gb 0 m' st) (hc : V.heap[cb]? = some (.cells #[.int .i64 n'] 3 (0, 0))) (om : V.ownsRow w.heap.size 51 1 m' L'.length L') (hm' : ∀ b, m'.ownBlock = some b → m.ownBlock = some b ∨ X.heap.size ≤ b)
    (K : Kept (fun k => k = gb ∨ k = cb ∨ m.ownBlock = some k) X V) (hx : ∀ b ∈ xs, ∃ cs, V.heap[b]? = some (.cells cs 59 (0, 0))) : Aft 0 w wr gb cb wv L n' m' L' st fl ev xs V := by
  have h1 := R.g.lt
  have h2 := lt_of_block R.c
  have h3 : ∀ b, m.ownBlock = some b → b < wr.heap.size := fun b hb => (R.om.lt b hb).2
  have h4 : ∀ b, wv.ownBlock = some b → b < wr.heap.size := fun b hb => (R.ow.lt b hb).2
  have h5 := lt_of_block P.e
  have h6 := R.below.size
  have hX : wr.heap.size ≤ X.heap.size := P.kept.size
  have hne := R.g.ne R.ow
  have hnc := row_ne R.ow R.c (by decide)
  refine ⟨hg, ?_, ?_, hc, om, ?_, ?_, ?_, R.hgb, R.hcb, ?_, h4, hx⟩
  · exact K.obj P.s (fun h => by rcases h with h | h | h; · omega
                                 · omega
                                 · have := h3 _ h; omega)
  · exact K.obj P.e (fun h => by rcases h with h | h | h; · omega
                                 · omega
                                 · have := h3 _ h; omega)
  · refine K.row (P.kept.row R.ow (fun b hb e => hne (e ▸ hb))) (fun b hb h => ?_)
    rcases h with h | h | h
    · exact hne (h ▸ hb)
    · exact hnc (h ▸ hb)
    · exact R.ne b h hb
  · intro b hb hw
    rcases hm' b hb with h | h
    · exact R.ne b h hw
    · have := h4 b hw; omega
  · refine (R.below.trans ((P.kept.below (B := w.heap.size) (by omega) (fun b e => by subst e; exact R.hgb)))).trans (K.below (by omega) (fun b h => ?_))
    rcases h with h | h | h
    · subst h; exact R.hgb
    · subst h; exact R.hcb
    · exact (R.om.lt b h).1
  · have := K.size; omega

/-- A step that writes the graph's block alone. -/
theorem Aft.step {lk lk' : Int} {w wr V V' : World} {gb cb n : Nat} {wv m : Value} {L L' : List Value} {st fl : Bool} {ev : Value} {xs : List Nat} (A : Aft lk w wr gb cb wv L n m L' st fl ev xs V) (hg : G V' gb lk' m st) (K : Kept (· = gb) V V') : Aft lk' w wr gb cb wv L n m L' st fl ev xs V' := by
  have n1 := A.g.ne A.om
  have n2 := A.g.ne A.ow
  have hb : ∀ (b : Nat) (cs : Array Value) (t : TypeId), V.heap[b]? = some (.cells cs t (0, 0)) → t ≠ 49 → b ≠ gb := by
    rintro b cs t h ht rfl
    obtain ⟨cur, h1, _⟩ := A.g
    rw [h] at h1; simp at h1; exact ht h1.2
  exact ⟨hg, K.obj A.s (hb _ _ _ A.s (by decide)), K.obj A.e (hb _ _ _ A.e (by decide)), K.obj A.c (hb _ _ _ A.c (by decide)), K.row A.om (fun b h e => n1 (e ▸ h)), K.row A.ow (fun b h e => n2 (e ▸ h)), A.ne,
    A.below.trans (K.below A.below.size (fun b e => by subst e; exact A.hgb)), A.hgb, A.hcb, Nat.le_trans A.big K.size, A.eb, fun b h => by obtain ⟨cs, hc⟩ := A.x b h; exact ⟨cs, K.obj hc (hb _ _ _ hc (by decide))⟩⟩
theorem Aft.drew {lk : Int} {w wr V : World} {gb cb n : Nat} {wv m : Value} {L L' : List Value} {st fl : Bool} {ev : Value} {xs : List Nat} (A : Aft lk w wr gb cb wv L n m L' st fl ev xs V) : Aft lk w wr gb cb wv L n m L' st fl ev xs V.drew :=
  ⟨A.g, A.s, A.e, A.c, A.om, A.ow, A.ne, A.below.drew, A.hgb, A.hcb, A.big, A.eb, A.x⟩
theorem Rel.drew {w wr : World} {gb cb k n : Nat} {wv m : Value} {L : List Value} {st : Bool} (R : Rel w gb cb k wv n m L st wr) : Rel w gb cb k wv n m L st wr.drew :=
  ⟨R.hn, R.hL, R.hgb, R.hcb, R.g, R.c, R.om, R.ow, R.ne, R.ptr, R.below.drew⟩

theorem Aft.drewN {lk : Int} {w wr V : World} {gb cb n : Nat} {wv m : Value} {L L' : List Value} {st fl : Bool} {ev : Value} {xs : List Nat} (A : Aft lk w wr gb cb wv L n m L' st fl ev xs V) (d : Nat) : Aft lk w wr gb cb wv L n m L' st fl ev xs (V.drewN d) :=
  ⟨A.g, A.s, A.e, A.c, A.om, A.ow, A.ne, A.below.trans ⟨rfl, rfl, rfl, Nat.le_refl _, fun _ _ => rfl⟩, A.hgb, A.hcb, A.big, A.eb, A.x⟩
theorem Rel.drewN {w wr : World} {gb cb k n : Nat} {wv m : Value} {L : List Value} {st : Bool} (R : Rel w gb cb k wv n m L st wr) (d : Nat) : Rel w gb cb k wv n m L st (wr.drewN d) :=
  ⟨R.hn, R.hL, R.hgb, R.hcb, R.g, R.c, R.om, R.ow, R.ne, R.ptr, R.below.trans ⟨rfl, rfl, rfl, Nat.le_refl _, fun _ _ => rfl⟩⟩
theorem Aft.s0 {lk : Int} {w wr V : World} {gb cb n : Nat} {wv m : Value} {L L' : List Value} {st fl : Bool} {ev : Value} {xs : List Nat} (A : Aft lk w wr gb cb wv L n m L' st fl ev xs V) : V.cell? ⟨wr.heap.size, 0, none⟩ = some (.bool st) := by simp [World.cell?, A.s]
theorem Aft.s1 {lk : Int} {w wr V : World} {gb cb n : Nat} {wv m : Value} {L L' : List Value} {st fl : Bool} {ev : Value} {xs : List Nat} (A : Aft lk w wr gb cb wv L n m L' st fl ev xs V) : V.cell? ⟨wr.heap.size, 1, none⟩ = some (.bool fl) := by simp [World.cell?, A.s]

theorem aft_plain {w wr X V : World} {gb cb k n : Nat} {wv m : Value} {L : List Value} {st0 fl : Bool} {ev : Value} (R : Rel w gb cb k wv n m L st0 wr) (P : Pre wr gb m false fl ev X)
    (hg : G V gb 0 m false) (hc : V.heap[cb]? = some (.cells #[.int .i64 ((n + 1 : Nat) : Int)] 3 (0, 0))) (K : Kept (fun k => k = gb ∨ k = cb) X V) : Aft 0 w wr gb cb wv L (n + 1) m L false fl ev [] V := by
  have h1 := R.g.ne R.om
  have h2 := row_ne R.om R.c (by decide)
  refine aft_of R P hg hc (K.row (P.kept.row R.om (fun b h e => h1 (e ▸ h))) (fun b h e => ?_)) (fun b h => .inl h) ((Kept.refl _ _).trans K (fun b _ h => ?_)) (by simp)
  · rcases e with e | e
    · exact h1 (e ▸ h)
    · exact h2 (e ▸ h)
  · rcases h with h | h
    · exact .inl h
    · exact .inr (.inl h)

theorem aft_started {w wr X V : World} {gb cb k n : Nat} {wv m u : Value} {L : List Value} {st0 fl : Bool} {ev : Value} {xs : List Nat} (R : Rel w gb cb k wv n m L st0 wr) (P : Pre wr gb m true fl ev X) (hcg : cb ≠ gb)
    (E : Edited w.heap.size gb m L X V true u) (K : Kept (fun k => k = gb ∨ m.ownBlock = some k) X V) (hx : ∀ b ∈ xs, ∃ cs, V.heap[b]? = some (.cells cs 59 (0, 0))) :
    ∃ mb mc, Aft 0 w wr gb cb wv L n (.slice (some ⟨mb, 0, none⟩) (L.length + 1) mc) (L ++ [u]) true fl ev xs V := by
  obtain ⟨mb, mc, hg, ho, ha, _⟩ := E
  have h2 := row_ne R.om R.c (by decide)
  refine ⟨mb, mc, aft_of R P hg ?_ (by simpa using ho) (fun b h => ?_) ((Kept.refl _ _).trans K (fun b _ h => ?_)) hx⟩
  · exact K.obj (P.kept.obj R.c hcg) (fun h => by rcases h with h | h; · exact hcg h
                                                  · exact h2 h)
  · have e : mb = b := by simpa [Value.ownBlock] using h
    subst e; exact ha
  · rcases h with h | h
    · exact .inl h
    · exact .inr (.inr h)

theorem aft_failed {w wr X V : World} {gb cb k n : Nat} {wv m u : Value} {L : List Value} {st0 fl : Bool} {ev : Value} (R : Rel w gb cb k wv n m L st0 wr) (P : Pre wr gb m false fl ev X)
    (E : Edited w.heap.size gb m L X V false u) (hc : V.heap[cb]? = some (.cells #[.int .i64 ((n + 1 : Nat) : Int)] 3 (0, 0))) (K : Kept (fun k => k = gb ∨ k = cb ∨ m.ownBlock = some k) X V) :
    ∃ mb mc, Aft 0 w wr gb cb wv L (n + 1) (.slice (some ⟨mb, 0, none⟩) (L.length + 1) mc) (L ++ [u]) false fl ev [] V := by
  obtain ⟨mb, mc, hg, ho, ha, _⟩ := E
  refine ⟨mb, mc, aft_of R P hg hc (by simpa using ho) (fun b h => ?_) K (by simp)⟩
  have e : mb = b := by simpa [Value.ownBlock] using h
  subst e; exact ha

/-- The last mistake's cell. -/
theorem last_cell {W : World} {B mb n mc : Nat} {L : List Value} {u : Value} (h : W.ownsRow B 51 1 (.slice (some ⟨mb, 0, none⟩) n mc) (L ++ [u]).length (L ++ [u])) : W.cell? ⟨mb, L.length, none⟩ = some u := by
  obtain ⟨g, h1, h2⟩ := row_cell (j := L.length) (u := u) h (by simp)
  have : mb = g := by simpa using h1
  subst this; exact h2

/-- The round's end where nothing was appended. -/
theorem rel_same {w wr V : World} {gb cb k n n' : Nat} {wv m m' : Value} {L : List Value} {st0 st fl : Bool} {ev : Value} {xs : List Nat} (R : Rel w gb cb k wv n m L st0 wr) (A : Aft 0 w wr gb cb wv L n' m' L st fl ev xs V) (hn : n' ≤ n + 1) : Rel w gb cb (k + 1) wv n' m' L st V :=
  ⟨by have := R.hn; omega, by have := R.hL; omega, R.hgb, R.hcb, A.g, A.c, A.om, A.ow, A.ne, R.ptr, A.below⟩

/-- The round's end where one error was appended to both rows. -/
theorem rel_app {w wr V V4 : World} {gb cb k n n' wb wc xb : Nat} {wv m m' : Value} {L : List Value} {st0 st fl : Bool} {ev : Value} {xs : List Nat} (R : Rel w gb cb k wv n m L st0 wr)
    (A : Aft 0 w wr gb cb wv L n' m' (L ++ [.iface 57 (.pointer (some ⟨xb, 0, none⟩))]) st fl ev xs V) (hn : n' ≤ n + 1)
    (hown : V4.ownsRow w.heap.size 51 1 (.slice (some ⟨wb, 0, none⟩) (L.length + 1) wc) (L.length + 1) (L ++ [.iface 57 (.pointer (some ⟨xb, 0, none⟩))]))
    (hgr : (V.alloc (.cells #[.iface 57 (.pointer (some ⟨xb, 0, none⟩))] 51)).grownBy V4 wv.ownBlock) (hat : wv.ownBlock = some wb ∨ wb = V.heap.size + 1) :
    Rel w gb cb (k + 1) (.slice (some ⟨wb, 0, none⟩) (L.length + 1) wc) n' m' (L ++ [.iface 57 (.pointer (some ⟨xb, 0, none⟩))]) st V4 := by
  have K : Kept (fun b => wv.ownBlock = some b) V V4 := ((Kept.refl _ V).alloc _).grown hgr (fun b hb => .inl hb)
  have n2 := A.g.ne A.ow
  have hsz := A.below.size
  refine ⟨by have := R.hn; omega, by have := R.hL; simp; omega, R.hgb, R.hcb, K.G A.g n2, K.obj A.c (row_ne A.ow A.c (by decide)), K.row A.om (fun b h e => A.ne b h e), by simpa using hown, ?_, ?_, ?_⟩
  · intro b hb e
    have e' : wb = b := by simpa [Value.ownBlock] using e
    subst e'
    rcases hat with h | h
    · exact A.ne _ hb h
    · have := (A.om.lt _ hb).2; omega
  · intro u hu
    rcases List.mem_append.1 hu with h | h
    · exact R.ptr u h
    · exact ⟨xb, by simpa using h⟩
  · exact A.below.trans (K.below hsz (fun b h => (A.ow.lt b h).1))

/-- Both rows' cells at j. -/
theorem rel_cells {w wr : World} {gb cb k n j ml mc wl wc : Nat} {mo wo : Option Addr} {L : List Value} {st : Bool} (R : Rel w gb cb k (.slice wo wl wc) n (.slice mo ml mc) L st wr) (hj : j < L.length) :
    ∃ mb wb xb, mo = some ⟨mb, 0, none⟩ ∧ wo = some ⟨wb, 0, none⟩ ∧ wr.cell? ⟨mb, j, none⟩ = some (.iface 57 (.pointer (some ⟨xb, 0, none⟩))) ∧ wr.cell? ⟨wb, j, none⟩ = some (.iface 57 (.pointer (some ⟨xb, 0, none⟩))) := by
  have hu : L[j]? = some L[j] := List.getElem?_eq_getElem hj
  obtain ⟨xb, hx⟩ := R.ptr L[j] (List.getElem_mem hj)
  rw [hx] at hu
  obtain ⟨mb, h1, h2⟩ := row_cell R.om hu
  obtain ⟨wb, h3, h4⟩ := row_cell R.ow hu
  exact ⟨mb, wb, xb, h1, h3, h2, h4⟩

end Go.Proofs.YbulkaxjcFmt
