/-
  'Rows.LawS2425BAttributesToldSaid' proved: from the walk to the card, fmt's texts told, the sentinel tied to the program's text (the tie is given).
-/
import Derived.Test.YbulkaxeuFmtLawA
import Derived.Test.YbulkaxeuFmtCards
import Derived.Test.YbulkaxeuFmtTie
import Derived.ProofKit
import Derived.OpenShut
import Derived.Stop.JoinedAt
import Derived.Stop.Texts
import Derived.Stop.JoinedTold
import Derived.Stop.LaidErr
import Derived.SizedLaws
import Derived.Deep.Strs
namespace Go.Proofs.YbulkaxeuFmt
namespace Att
open Go.ChangeShapes Go.WideShapes Go.ChangeAt Go.RowKit Go.Kit Go.Deep
open Go.ChangeMaps (open_string shut_string)
open Go.Extern.Stop Go.Stop Go.Extern

theorem own : ownKnob Ybaf.prog.godebug = none := by kernel_rfl
theorem laidOut : laidOutB Ybaf.pinned.checked.prog = true := by kernel_rfl
theorem stops : Ybaf.pinned.checked.prog.stops = ["fmt.Sprintf", "fmt.errorf"] := by kernel_rfl
theorem stopKnobs : Ybaf.pinned.checked.prog.stopKnobs = [] := by kernel_rfl
theorem quiet (os : Os) : Stop.quiet Ybaf.pinned.checked.prog os := by
  intro k hk
  rw [stopKnobs] at hk
  cases hk
theorem cells5 : Ybaf.prog.cellsOf 5 = 1 := by kernel_rfl
theorem cells9 : Ybaf.prog.cellsOf 9 = 1 := by kernel_rfl
theorem cells25 : Ybaf.prog.cellsOf 25 = 1 := by kernel_rfl
theorem cells72 : Ybaf.prog.cellsOf 72 = 1 := by kernel_rfl
theorem bytes5 : Ybaf.prog.bytesOf 5 = 1 := by kernel_rfl
theorem bytes9 : Ybaf.prog.bytesOf 9 = 16 := by kernel_rfl
theorem bytes25 : Ybaf.prog.bytesOf 25 = 8 := by kernel_rfl
theorem gS : Ybaf.prog.globalNamed (Rows.lawS2425BAttributesSpec.vars.getD 0 default) = some 0 := by kernel_rfl
theorem gSType : (Ybaf.prog.globals[0]?).map (·.type) = some 32 := by kernel_rfl

/-- Of a slice of strings that is read: each string's length lies within the form's own reach. -/
theorem weights_all {H : Type} {P : Program} {e : TypeId} : ∀ {l : List (DataW H)} {d : DataW H}, d ∈ l → ∀ n ∈ d.weights P e, n ∈ DataW.weightsAll P e l
  | x :: r, d, h, n, hn => by
    simp only [DataW.weightsAll, List.mem_append]
    rcases List.mem_cons.1 h with rfl | h
    · exact Or.inl hn
    · exact Or.inr (weights_all h n hn)
theorem sized_strs {H : Type} {P : Program} {ts : List TypeId} {ds : List (DataW H)} (h : (DataW.weightsEach P ts ds).all (· ≤ reachBytes) = true) {j : Nat} {t e : TypeId} {elems spare : List (DataW H)} (ht : ts[j]? = some t) (hd : ds[j]? = some (.slice elems spare)) (hu : P.underlying t = some (.slice e))
    {bytes : List UInt8} (hm : .lit (.string bytes) ∈ elems) : bytes.length ≤ reachBytes := by
  have := List.all_eq_true.1 h _ (DataW.weights_mem_each ht hd bytes.length (by
    simp only [DataW.weights, hu]
    exact List.mem_cons_of_mem _ (List.mem_append_left _ (weights_all hm _ (by simp [DataW.weights])))))
  simpa using this

/-- A slice of integers that came in, as the walk asks it. -/
theorem ints_view {H : Type} {enc : TypeId × Value → H} {W : World} {t e : TypeId} {k : IntKind} {v : Value} {d : DataW H} {ps : List MemPlace} (ht : Ybaf.prog.underlying t = some (.slice e)) (he : Ybaf.prog.underlying e = some (.int k)) (hc : Ybaf.prog.cellsOf e = 1)
    (hok : ∃ a n c, v = .slice a n c) (h : DataW.Trod enc Ybaf.prog W 0 (fun _ => true) true t v d ps) :
    ∃ (a : Option Addr) (n c : Nat) (X : Nat → Int), v = .slice a n c ∧ n ≤ c ∧ (∀ j, j < n → ∃ b o, a = some ⟨b, o, none⟩ ∧ b < W.heap.size ∧ W.cell? ⟨b, o + j, none⟩ = some (.int k (X j)) ∧ (Lit.int k (X j)).wf = true) ∧
      ((d = .nil ∧ n = 0) ∨ ∃ elems spare, d = .slice elems spare ∧ elems.length + spare.length = c) := by
  obtain ⟨a0, n0, c0, rfl⟩ := hok
  obtain ⟨fuel, hf⟩ := h
  rcases open_ints ht he hc hf with ⟨hcs, hx⟩ | ⟨a, len, cap, zs, hcs, _, hl, hm, hz, hx, hcell, hwz⟩
  · simp [Value.cells] at hcs
    obtain ⟨rfl, rfl, rfl⟩ := hcs
    simp only [Prod.mk.injEq] at hx
    exact ⟨none, 0, 0, fun _ => 0, rfl, Nat.le_refl _, fun j hj => by omega, Or.inl ⟨hx.1, rfl⟩⟩
  · simp [Value.cells] at hcs
    obtain ⟨rfl, rfl, rfl⟩ := hcs
    simp only [Prod.mk.injEq] at hx
    simp only [if_true] at hz
    refine ⟨some a, n0, c0, fun j => zs.getD j 0, rfl, hl, fun j hj => ?_, Or.inr ⟨_, _, hx.1, by simp [lits]; omega⟩⟩
    have hcj := hcell j (by omega)
    obtain ⟨b, o, sp⟩ := a
    have hsp : sp = none := by
      have := World.cell?_spot (hcell 0 (by omega))
      simpa [Addr.add] using this
    subst hsp
    rw [add_plain] at hcj
    refine ⟨b, o, rfl, ?_, hcj, hwz _ ?_⟩
    · rcases Nat.lt_or_ge b W.heap.size with h | h
      · exact h
      · simp [World.cell?, Array.getElem?_eq_none h] at hcj
    · have hj2 : j < zs.length := by omega
      simp [hj2]

/-- A slice of strings that came in, as the walk asks it. -/
theorem strs_view {H : Type} {enc : TypeId × Value → H} {W : World} {v : Value} {d : DataW H} {ps : List MemPlace}
    (hok : ∃ a n c, v = .slice a n c) (h : DataW.Trod enc Ybaf.prog W 0 (fun _ => true) true 23 v d ps) :
    ∃ (a : Option Addr) (n c : Nat) (X : Nat → ByteArray), v = .slice a n c ∧ n ≤ c ∧ (∀ j, j < n → ∃ b o, a = some ⟨b, o, none⟩ ∧ b < W.heap.size ∧ W.cell? ⟨b, o + j, none⟩ = some (.string (X j))) ∧
      ((d = .nil ∧ n = 0) ∨ ∃ elems spare, d = .slice elems spare ∧ elems.length + spare.length = c ∧ ∀ j, j < n → .lit (.string (X j).data.toList) ∈ elems) := by
  obtain ⟨a0, n0, c0, rfl⟩ := hok
  obtain ⟨fuel, hf⟩ := h
  rcases open_strs Ybaf.underlying23 Ybaf.underlying9 cells9 hf with ⟨hcs, hx⟩ | ⟨a, len, cap, m, Sx, hcs, _, hl, hm, hz, hx, hcell⟩
  · simp [Value.cells] at hcs
    obtain ⟨rfl, rfl, rfl⟩ := hcs
    simp only [Prod.mk.injEq] at hx
    exact ⟨none, 0, 0, fun _ => default, rfl, Nat.le_refl _, fun j hj => by omega, Or.inl ⟨hx.1, rfl⟩⟩
  · simp [Value.cells] at hcs
    obtain ⟨rfl, rfl, rfl⟩ := hcs
    simp only [Prod.mk.injEq] at hx
    simp only [if_true] at hz
    subst hz
    refine ⟨some a, n0, _, Sx, rfl, hl, fun j hj => ?_, Or.inr ⟨_, _, hx.1, by simp; omega, fun j hj => ?_⟩⟩
    · have hcj := (hcell j (by omega)).1
      obtain ⟨b, o, sp⟩ := a
      have hsp : sp = none := by
        have := World.cell?_spot (hcell 0 (by omega)).1
        simpa [Addr.add] using this
      subst hsp
      rw [add_plain] at hcj
      refine ⟨b, o, rfl, ?_, hcj⟩
      rcases Nat.lt_or_ge b W.heap.size with h | h
      · exact h
      · simp [World.cell?, Array.getElem?_eq_none h] at hcj
    · exact List.mem_map.2 ⟨j, List.mem_range.2 hj, rfl⟩

set_option maxRecDepth 100000 in
set_option maxHeartbeats 1000000 in
theorem lifted (os : Os) (started : os.Started) (H : Type) (enc : TypeId × Value → H) :
    ReturnsInTold none {} Ybaf.checked os 3 .any Input.okWide ((OpenSpec.ofChange Rows.lawS2425BAttributesSpec).preRow enc Ybaf.prog Ybaf.f3 [] false Rows.lawS2425BAttributesRow.laid) (fun F => ((OpenSpec.ofChange Rows.lawS2425BAttributesSpec).at F).post enc Ybaf.prog Ybaf.f3 false true false false) (aloneAtReturn Ybaf.prog) nothingAlways := by
  refine returnsInTold_of_row (C := Ybaf.checked) (s := OpenSpec.ofChange Rows.lawS2425BAttributesSpec) (by kernel_rfl) own started (by kernel_rfl) Ybaf.func3
    (OpenSpec.witness_stopped_at (enc := enc) (C := Ybaf.checked) false
      { World.holding Ybaf.prog os ⟨#[.cells #[.string ⟨#[109, 97, 108, 102, 111, 114, 109, 101, 100, 32, 101, 110, 116, 114, 121]⟩] 72], #[], []⟩ with
        heap := (World.holding Ybaf.prog os ⟨#[.cells #[.string ⟨#[109, 97, 108, 102, 111, 114, 109, 101, 100, 32, 101, 110, 116, 114, 121]⟩] 72], #[], []⟩).heap.modify 0 fun
          | .cells _ t frozen => .cells #[.iface 70 (.pointer (some ⟨(World.holding Ybaf.prog default ⟨#[], #[], []⟩).heap.size, 0, none⟩))] t frozen
          | o => o }
      #[.slice none 0 0, .slice none 0 0, .slice none 0 0, .string ⟨#[]⟩] rfl (by kernel_rfl) (by kernel_rfl) (by kernel_rfl)
      (OpenSpec.preRow_of_B rfl 8 (by kernel_rfl) (by kernel_rfl) (laidMet_of_run (ps := [.cell 0 0, .cell (World.holding Ybaf.prog default ⟨#[], #[], []⟩).heap.size 0]) 8 (by kernel_rfl) (by kernel_rfl) (by kernel_rfl)))) ?_
  intro F W base args ds gs before _ hF hval0 hW _ _ hsz0 hL _
  have hval : ∀ (j : Nat) t v, Ybaf.f3.params[j]? = some t → args[j]? = some v → Value.okWide Ybaf.prog W .any base t v := hval0
  have hsz : (DataW.weightsEach Ybaf.prog (Ybaf.f3.params.toList ++ (OpenSpec.ofChange Rows.lawS2425BAttributesSpec).bare.plain.varTypes Ybaf.prog) (ds ++ gs)).all (· ≤ reachBytes) = true := hsz0
  have hW' := hW
  obtain ⟨p, q, hA0, hV0, rfl, hfz, hnd⟩ := hW
  have hA : DataW.TrodAll enc Ybaf.prog W 0 (fun _ => true) true Ybaf.f3.params.toList args.toList ds p := hA0
  have hV : DataW.TrodVars enc Ybaf.prog W (fun _ => true) Rows.lawS2425BAttributesSpec.vars gs q := hV0
  rw [Ybaf.params3] at hA hval hsz
  obtain ⟨v0, vs0, d0, ds0, p0, q0, hargs, rfl, rfl, h0, r0⟩ := trodAll_cons hA
  obtain ⟨v1, vs1, d1, ds1, p1, q1, rfl, rfl, rfl, h1, r1⟩ := trodAll_cons r0
  obtain ⟨v2, vs2, d2, ds2, p2, q2, rfl, rfl, rfl, h2, r2⟩ := trodAll_cons r1
  obtain ⟨v3, vs3, d3, ds3, p3, q3, rfl, rfl, rfl, h3, r3⟩ := trodAll_cons r2
  obtain ⟨rfl, rfl, rfl⟩ := trodAll_nil r3
  obtain rfl : args = #[v0, v1, v2, v3] := by cases args; simp_all
  have hL' : laidMet Ybaf.prog Rows.lawS2425BAttributesRow.laid W := hL
  obtain ⟨a0, s0, hv0, hc0, hs0, hz0⟩ := laid_sentinel hL' gS gSType Ybaf.underlying32 (fun u h => typeName_ptr_named (nm := "errors.errorString") (tp := 70) (by kernel_rfl) (by kernel_rfl) (by decide) u (h.trans (congrArg some (by kernel_rfl)))) Ybaf.underlying70 Ybaf.underlying72 rfl rfl Ybaf.underlying9 cells72 cells9
  obtain ⟨rfl, rfl⟩ := hV.unique (vars_read1 enc gS gSType Ybaf.underlying32 hv0 trivial _)
  have hg0 : W.cell? ⟨0, 0, none⟩ = some (.iface 70 (.pointer (some a0))) := by simpa using World.var?_cell gS hv0 0
  have haw : a0.block < W.heap.size := by
    rcases Nat.lt_or_ge a0.block W.heap.size with h | h
    · exact h
    · simp [World.cell?, Array.getElem?_eq_none h] at hc0
  have h0w : 0 < W.heap.size := by
    rcases Nat.lt_or_ge 0 W.heap.size with h | h
    · exact h
    · simp [World.cell?, Array.getElem?_eq_none h] at hg0
  have hlt : ∀ x ∈ p0 ++ (p1 ++ (p2 ++ (p3 ++ []))), x.block < W.heap.size := fun x hx => by simpa using hW'.lt x (List.mem_append_left _ hx)
  obtain ⟨pa, np, cp, Px, rfl, hnc0, hp, hd0⟩ := ints_view Ybaf.underlying22 Ybaf.underlying5 cells5 (okWide_slice Ybaf.underlying22 (hval 0 22 v0 rfl rfl)) h0
  obtain ⟨wa, nw, cw, Sx, rfl, hnc1, hw, hd1⟩ := strs_view (okWide_slice Ybaf.underlying23 (hval 1 23 v1 rfl rfl)) h1
  obtain ⟨na, nn, cn, Zx, rfl, hnc2, hz, hd2⟩ := ints_view Ybaf.underlying24 Ybaf.underlying25 cells25 (okWide_slice Ybaf.underlying24 (hval 2 24 v2 rfl rfl)) h2
  obtain ⟨block, rfl, rfl, rfl, wb⟩ := open_string Ybaf.underlying9 (hval 3 9 v3 rfl rfl) h3
  have hnp : np ≤ 140737488351232 := by
    rcases hd0 with ⟨_, rfl⟩ | ⟨el, sp, rfl, hlen⟩
    · omega
    · have := sized_slice hsz (j := 0) (t := 22) (e := 5) rfl rfl Ybaf.underlying22
      rw [bytes5, hlen] at this
      unfold reachBytes at this
      omega
  have hnw : nw ≤ 140737488351232 := by
    rcases hd1 with ⟨_, rfl⟩ | ⟨el, sp, rfl, hlen, _⟩
    · omega
    · have := sized_slice hsz (j := 1) (t := 23) (e := 9) rfl rfl Ybaf.underlying23
      rw [bytes9, hlen] at this
      unfold reachBytes at this
      omega
  have hnn : nn ≤ 140737488351232 := by
    rcases hd2 with ⟨_, rfl⟩ | ⟨el, sp, rfl, hlen⟩
    · omega
    · have := sized_slice hsz (j := 2) (t := 24) (e := 25) rfl rfl Ybaf.underlying24
      rw [bytes25, hlen] at this
      unfold reachBytes at this
      omega
  have hsx : ∀ j, j < nw → (Sx j).size ≤ 140737488351232 := by
    intro j hj
    rcases hd1 with ⟨_, rfl⟩ | ⟨el, sp, rfl, hlen, hmem⟩
    · omega
    · have := sized_strs hsz (j := 1) (t := 23) (e := 9) rfl rfl Ybaf.underlying23 (hmem j hj)
      unfold reachBytes at this
      simpa using this
  have hbs : block.size ≤ 140737488351232 := by
    have := sized_string hsz (j := 3) (t := 9) rfl rfl
    unfold reachBytes at this
    simpa using this
  clear hA0 hV0 hval0 hsz0
  refine (law3 F.told pa wa na np cp nw cw nn cn Px Sx Zx block a0 s0 W hF
    (fun j hj => by obtain ⟨b, o, e, h1, h2, h3⟩ := hp j hj; have := bounds_u8 h3; exact ⟨b, o, e, h1, h2, this.1, this.2⟩)
    (fun j hj => by obtain ⟨b, o, e, h1, h2⟩ := hw j hj; exact ⟨b, o, e, h1, h2, hsx j hj⟩)
    (fun j hj => by obtain ⟨b, o, e, h1, h2, h3⟩ := hz j hj; have := bounds_u64 h3; exact ⟨b, o, e, h1, h2, this.1, this.2⟩)
    hnp hnw hnn hbs hg0 hc0 h0w haw).mono fun e W' ⟨he, hb⟩ => ?_
  subst he
  have hl : laidOutB Ybaf.prog = true := laidOut
  have hv1 : W'.var? Ybaf.prog (Rows.lawS2425BAttributesSpec.vars.getD 0 default) = some #[.iface 70 (.pointer (some a0))] := by
    have e := gS
    unfold World.var? at hv0 ⊢
    simp only [e, Option.bind_some] at hv0 ⊢
    rw [hb.block 0 h0w]
    exact hv0
  refine ⟨_, rfl, _, _, _, [], p0 ++ (p1 ++ (p2 ++ ([] ++ []))), [.cell 0 0], hW', ?_, ?_, ?_, hb.frame _, fun h => by cases h⟩
  · exact trodAll_cons_mk (shut_bool Ybaf.underlying4 _) trodAll_mk0
  · exact trodAll_cons_mk (Below.trod hl (by kernel_rfl) (of_decide_eq_true (by kernel_rfl)) h0 hb (fun x hx => hlt x (by simp [hx]))) (trodAll_cons_mk (Below.trod hl (by kernel_rfl) (of_decide_eq_true (by kernel_rfl)) h1 hb (fun x hx => hlt x (by simp [hx]))) (trodAll_cons_mk (Below.trod hl (by kernel_rfl) (of_decide_eq_true (by kernel_rfl)) h2 hb (fun x hx => hlt x (by simp [hx]))) (trodAll_cons_mk (shut_string Ybaf.underlying9 wb) trodAll_mk0)))
  · exact vars_read1 enc gS gSType Ybaf.underlying32 hv1 trivial _

theorem proved : Rows.LawS2425BAttributesToldSaid :=
  Claim7.holds_of_told_tied_any_at .later 3 Ybaf.f3 "fmt.Sprintf" ["fmt.errorf"] [] _ _ _ _ _ (by kernel_rfl) rfl rfl rfl laidOut (by kernel_rfl) rfl ⟨rfl, rfl, rfl, rfl, rfl, rfl, rfl⟩ rfl rfl (by kernel_rfl) (by kernel_rfl) Ybaf.func3 (by kernel_rfl)
    (of_decide_eq_true (by kernel_rfl)) (by unfold Func.isWrapper; first | (rw [if_pos (by decide +kernel)]; kernel_rfl) | (rw [if_neg (by decide +kernel)]; exact ⟨rfl, rfl⟩)) stops.symm rfl stopKnobs.symm (by kernel_rfl)
    (by kernel_rfl) (by kernel_rfl) (by kernel_rfl) (by kernel_rfl) (by kernel_rfl) (by kernel_rfl) (by kernel_rfl) (by kernel_rfl) (by kernel_rfl) rfl (by kernel_rfl) rfl rfl
    rfl rfl
    rfl (by kernel_rfl) (by kernel_rfl) (by kernel_rfl) (by decide) (by kernel_rfl) lawS2425BAttributes_row_tie
    (OpenClaim.moreEntering_of (by kernel_rfl) (by kernel_rfl) (by kernel_rfl) (by kernel_rfl) (by kernel_rfl) (by kernel_rfl) (by kernel_rfl) (by kernel_rfl) (by kernel_rfl) (by kernel_rfl))
    ⟨_, WideRow.started_initial, quiet _⟩
    (fun os started _ H enc _ => lifted os started H enc)

end Att
theorem lawS2425BAttributes_proved : Rows.LawS2425BAttributesToldSaid := Att.proved
end Go.Proofs.YbulkaxeuFmt
