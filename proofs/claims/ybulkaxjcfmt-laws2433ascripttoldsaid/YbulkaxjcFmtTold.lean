/-
  'Rows.LawS2433AScriptToldSaid' proved: from the walk to the card, fmt's texts told.
-/
import Derived.Test.YbulkaxjcFmtScript
import Derived.Test.YbulkaxjcFmtCards
import Derived.ProofKit
import Derived.OpenShut
import Derived.Stop.JoinedAt
import Derived.Stop.Texts
import Derived.Stop.JoinedTold
import Derived.SevenToldRow
import Derived.SizedLaws
import Derived.Deep.SlicePairs
import Derived.Deep.Strs
namespace Go.Proofs.YbulkaxjcFmt
namespace Told
open Go.ChangeShapes Go.WideShapes Go.ChangeAt Go.RowKit Go.Kit Go.Deep
open Go.Extern.Stop Go.Stop Go.Extern

theorem own : ownKnob Ybaf.prog.godebug = none := by kernel_rfl
theorem laidOut : laidOutB Ybaf.pinned.checked.prog = true := by kernel_rfl
theorem stops : Ybaf.pinned.checked.prog.stops = ["fmt.errorf"] := by kernel_rfl
theorem stopKnobs : Ybaf.pinned.checked.prog.stopKnobs = [] := by kernel_rfl
theorem quiet (os : Os) : Stop.quiet Ybaf.pinned.checked.prog os := by
  intro k hk
  rw [stopKnobs] at hk
  cases hk
theorem cells27 : Ybaf.prog.cellsOf 27 = 2 := by kernel_rfl
theorem cells4 : Ybaf.prog.cellsOf 4 = 1 := by kernel_rfl
theorem bytes27 : Ybaf.prog.bytesOf 27 = 2 := by kernel_rfl

def isT : Value → Bool
  | .bool b => b
  | _ => false

/-- The slice of steps that came in, as the walk asks it. -/
theorem steps_view {H : Type} {enc : TypeId × Value → H} {W : World} {v : Value} {d : DataW H} {ps : List MemPlace}
    (hok : ∃ a n c, v = .slice a n c) (h : DataW.Trod enc Ybaf.prog W 0 (fun _ => true) true 22 v d ps) :
    ∃ (a : Option Addr) (n c : Nat) (S Fl : Nat → Bool), v = .slice a n c ∧ n ≤ c ∧ (∀ j, j < n → ∃ b o, a = some ⟨b, o, none⟩ ∧ b < W.heap.size ∧ W.cell? ⟨b, o + j * 2, none⟩ = some (.bool (S j)) ∧ W.cell? ⟨b, o + j * 2 + 1, none⟩ = some (.bool (Fl j))) ∧
      ((d = .nil ∧ n = 0) ∨ ∃ elems spare, d = .slice elems spare ∧ elems.length + spare.length = c) := by
  obtain ⟨a0, n0, c0, rfl⟩ := hok
  obtain ⟨fuel, hf⟩ := h
  rcases open_slice_pairs Ybaf.underlying22 Ybaf.underlying27 cells27 rfl rfl cells4 cells4 hf with ⟨hcs, hx⟩ | ⟨a, len, cap, m, n, V0, V1, D0, D1, P0, P1, hcs, _, hl, hm, hz, hx, hcell⟩
  · simp [Value.cells] at hcs
    obtain ⟨rfl, rfl, rfl⟩ := hcs
    simp only [Prod.mk.injEq] at hx
    exact ⟨none, 0, 0, fun _ => false, fun _ => false, rfl, Nat.le_refl _, fun j hj => by omega, Or.inl ⟨hx.1, rfl⟩⟩
  · simp [Value.cells] at hcs
    obtain ⟨rfl, rfl, rfl⟩ := hcs
    simp only [Prod.mk.injEq] at hx
    simp only [if_true] at hz
    subst hz
    refine ⟨some a, n0, _, fun j => isT (V0 j), fun j => isT (V1 j), rfl, hl, fun j hj => ?_, Or.inr ⟨_, _, hx.1, by simp; omega⟩⟩
    obtain ⟨hc0, hc1, ht0, ht1⟩ := hcell j (by omega)
    obtain ⟨x0, hx0, _⟩ := DataW.trod_bool Ybaf.underlying4 ht0
    obtain ⟨x1, hx1, _⟩ := DataW.trod_bool Ybaf.underlying4 ht1
    have e0 : V0 j = .bool x0 := by simpa using hx0
    have e1 : V1 j = .bool x1 := by simpa using hx1
    rw [e0] at hc0
    rw [e1] at hc1
    obtain ⟨b, o, sp⟩ := a
    have hsp : sp = none := by
      have := World.cell?_spot (hcell 0 (by omega)).1
      simpa [Addr.add] using this
    subst hsp
    rw [add_plain] at hc0 hc1
    refine ⟨b, o, rfl, ?_, ?_, ?_⟩
    · rcases Nat.lt_or_ge b W.heap.size with h | h
      · exact h
      · simp [World.cell?, Array.getElem?_eq_none h] at hc0
    · rw [hc0]; show _ = some (Value.bool (isT (V0 j))); rw [e0]; rfl
    · rw [Nat.add_assoc, hc1]; show _ = some (Value.bool (isT (V1 j))); rw [e1]; rfl

set_option maxRecDepth 100000 in
set_option maxHeartbeats 1000000 in
theorem lifted (os : Os) (started : os.Started) (H : Type) (enc : TypeId × Value → H) :
    ReturnsInTold none {} Ybaf.checked os 3 .any Input.okWide ((OpenSpec.ofChange Rows.lawS2433AScriptSpec).preRow enc Ybaf.prog Ybaf.f3 [] false []) (fun F => ((OpenSpec.ofChange Rows.lawS2433AScriptSpec).at F).post enc Ybaf.prog Ybaf.f3 false true false false) (aloneAtReturn Ybaf.prog) nothingAlways := by
  refine returnsInTold_of_row (C := Ybaf.checked) (s := OpenSpec.ofChange Rows.lawS2433AScriptSpec) (by kernel_rfl) own started (by kernel_rfl) Ybaf.func3
    (OpenSpec.witness_stopped (enc := enc) (C := Ybaf.checked) false ⟨#[], #[.slice none 0 0], []⟩ 8 (by kernel_rfl) (by kernel_rfl) (by kernel_rfl) (by kernel_rfl)) ?_
  intro F W base args ds gs before _ hF hval0 hW _ _ hsz0 _ _
  have hval : ∀ (j : Nat) t v, Ybaf.f3.params[j]? = some t → args[j]? = some v → Value.okWide Ybaf.prog W .any base t v := hval0
  have hsz : (DataW.weightsEach Ybaf.prog (Ybaf.f3.params.toList ++ (OpenSpec.ofChange Rows.lawS2433AScriptSpec).bare.plain.varTypes Ybaf.prog) (ds ++ gs)).all (· ≤ reachBytes) = true := hsz0
  have hW' := hW
  obtain ⟨p, q, hA0, hV, rfl, hfz, hnd⟩ := hW
  have hA : DataW.TrodAll enc Ybaf.prog W 0 (fun _ => true) true Ybaf.f3.params.toList args.toList ds p := hA0
  rw [Ybaf.params3] at hA hval hsz
  obtain ⟨v0, d0, rfl, rfl, h0⟩ := trodAll_one hA
  obtain ⟨rfl, rfl⟩ := trodVars_none hV
  have hlt : ∀ x ∈ p, x.block < W.heap.size := fun x hx => by simpa using hW'.lt x (List.mem_append_left _ hx)
  obtain ⟨a, n, c, S, Fl, rfl, hnc, hp, hd0⟩ := steps_view (okWide_slice Ybaf.underlying22 (hval 0 22 v0 rfl rfl)) h0
  have hn : n ≤ 140737488351232 := by
    rcases hd0 with ⟨_, rfl⟩ | ⟨el, sp, rfl, hlen⟩
    · omega
    · have := sized_slice hsz (j := 0) (t := 22) (e := 27) rfl rfl Ybaf.underlying22
      rw [bytes27, hlen] at this
      unfold reachBytes at this
      omega
  clear hA0 hval0 hsz0
  refine (law3 F.told a n c S Fl W hF hn hp).mono fun e W' ⟨he, hb⟩ => ?_
  subst he
  have hl : laidOutB Ybaf.prog = true := laidOut
  refine ⟨_, rfl, _, _, _, [], p, [], hW', ?_, ?_, ?_, hb.frame _, fun h => by cases h⟩
  · exact trodAll_cons_mk (shut_bool Ybaf.underlying4 _) trodAll_mk0
  · have := trodAll_cons_mk (Below.trod hl (by kernel_rfl) (of_decide_eq_true (by kernel_rfl)) h0 hb (fun x hx => hlt x hx)) (trodAll_mk0)
    rw [List.append_nil] at this
    exact this
  · rfl

theorem proved : Rows.LawS2433AScriptToldSaid :=
  Claim7.holds_of_told_any 3 Ybaf.f3 "fmt.errorf" [] [] _ _ _ (by kernel_rfl) rfl rfl rfl laidOut (by kernel_rfl) rfl ⟨rfl, rfl, rfl, rfl, rfl, rfl, rfl⟩ rfl rfl (by kernel_rfl) (by kernel_rfl) Ybaf.func3 (by kernel_rfl)
    (of_decide_eq_true (by kernel_rfl)) (by unfold Func.isWrapper; first | (rw [if_pos (by decide +kernel)]; kernel_rfl) | (rw [if_neg (by decide +kernel)]; exact ⟨rfl, rfl⟩)) stops.symm rfl stopKnobs.symm (by kernel_rfl)
    (by kernel_rfl) (by kernel_rfl) (by kernel_rfl) (by kernel_rfl) (by kernel_rfl) (by kernel_rfl) (by kernel_rfl) (by kernel_rfl) (by kernel_rfl) rfl (by kernel_rfl) rfl rfl
    rfl rfl
    rfl (by kernel_rfl) (by kernel_rfl) (by kernel_rfl) (by decide) (by kernel_rfl)
    (OpenClaim.moreEntering_of (by kernel_rfl) (by kernel_rfl) (by kernel_rfl) (by kernel_rfl) (by kernel_rfl) (by kernel_rfl) (by kernel_rfl) (by kernel_rfl) (by kernel_rfl) (by kernel_rfl))
    ⟨_, WideRow.started_initial, quiet _⟩
    (fun os started _ H enc _ => lifted os started H enc)

end Told
theorem lawS2433AScript_proved : Rows.LawS2433AScriptToldSaid := Told.proved
end Go.Proofs.YbulkaxjcFmt
