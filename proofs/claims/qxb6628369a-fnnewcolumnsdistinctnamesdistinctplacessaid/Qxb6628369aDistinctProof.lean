/-
  Seat b6628369a: THE ROW of FnNewColumnsDistinctNamesDistinctPlaces, proved: every map of strings to strings, a nil one too; every slice of strings, a nil one too.
-/
import Derived.Test.Qxb6628369aDistinct
import Derived.SliceStrings
namespace Go.Proofs.Qxb6628369a
open Go.ChangeShapes Go.WideShapes Go.ChangeAt Go.RowKit Go.WideElems Go.Maps
open Go.ChangeMaps (shut_map_nil)

theorem own : ownKnob Try.prog.godebug = none := by kernel_rfl
theorem laidOut : laidOutB Try.prog = true := by kernel_rfl
theorem cells9 : Try.prog.cellsOf 9 = 1 := by kernel_rfl

set_option maxRecDepth 100000 in
theorem distinct_lifted (os : Os) (started : os.Started) (H : Type) (enc : TypeId × Value → H) :
    ReturnsInHanded {} Try.checked os 4 .any (Rows.fnNewColumnsDistinctNamesDistinctPlacesSpec.pre6 enc Try.prog Try.f4 Rows.fnNewColumnsDistinctNamesDistinctPlacesRow.domain false) (Rows.fnNewColumnsDistinctNamesDistinctPlacesSpec.post enc Try.prog Try.f4 false true false false) := by
  refine returnsInHanded_of_change (C := Try.checked) own started (by kernel_rfl) Try.func4
    (ChangeSpec.witness6 (enc := enc) (C := Try.checked) false ⟨#[], #[.map none, .slice none 0 0], []⟩ 8 (by kernel_rfl) (by kernel_rfl) (by kernel_rfl) (by kernel_rfl)) ?_
  intro W base args ds gs before hval0 hW _ _
  have hval : ∀ (j : Nat) t v, Try.f4.params[j]? = some t → args[j]? = some v → Value.okWide Try.prog W .any base t v := hval0
  have hW' := hW
  obtain ⟨p, q, hA0, hV, rfl, _, _⟩ := hW
  have hA : DataW.TrodAll enc Try.prog W 0 (fun _ => true) true Try.f4.params.toList args.toList ds p := hA0
  rw [Try.params4] at hA hval
  obtain ⟨v0, v1, d0, d1, p0, p1, rfl, rfl, rfl, h0, h1⟩ := trodAll_two hA
  obtain ⟨rfl, rfl⟩ := trodVars_none hV
  obtain ⟨a0, rfl⟩ := okWide_map Try.underlying22 (hval 0 22 v0 rfl rfl)
  obtain ⟨a1, len, cap, rfl⟩ := okWide_slice Try.underlying23 (hval 1 23 v1 rfl rfl)
  have h0k := h0
  have h1k := h1
  clear hA0 hval0
  simp only [List.append_nil] at hW'
  have hlt0 : ∀ x ∈ p0, x.block < W.heap.size := fun x hx => by simpa using hW'.lt x (by simp [hx])
  have hlt1 : ∀ x ∈ p1, x.block < W.heap.size := fun x hx => by simpa using hW'.lt x (by simp [hx])
  obtain ⟨D, M⟩ : ∃ D : DataW H, MapIn D a0 W := by
    obtain ⟨fuel, hf⟩ := h0
    rcases open_map Try.underlying22 hf with ⟨hcs, hx⟩ | ⟨bm, es, clock, n, rfl, hcs, hb, _, F, hx⟩
    · simp [Value.cells] at hcs
      subst hcs
      exact ⟨_, mapIn_nil W⟩
    · simp [Value.cells] at hcs
      subst hcs
      exact ⟨_, mapIn_some (World.ownsMap_of_fit (R := plainElem Try.prog 9) hb F (fun x _ z hz => elemAt_plainElem_string Try.underlying9 hz))⟩
  have key : Calls Try.prog 4 #[.map a0, .slice a1 len cap] W fun e w' => e = .returned (.bool true) ∧ Below W.heap.size W w' := by
    obtain ⟨fuel, hf⟩ := h1
    rcases open_strings Try.underlying23 Try.underlying9 cells9 hf with ⟨hcs, hx⟩ | ⟨a, len', cap', ss, hcs, _, hl, hm, hz, hx, hcell, hws⟩
    · simp [Value.cells] at hcs
      obtain ⟨rfl, rfl, rfl⟩ := hcs
      exact f4_none M none 0
    · simp [Value.cells] at hcs
      obtain ⟨rfl, rfl, rfl⟩ := hcs
      simp only [Prod.mk.injEq] at hx
      obtain ⟨_, rfl⟩ := hx
      simp only [if_true] at hz
      by_cases hl0 : len = 0
      · subst hl0
        exact f4_none M (some a) cap
      · obtain ⟨b, off, spot⟩ := a
        have hspot : spot = none := by simpa [Addr.add] using World.cell?_spot (hcell 0 (by omega))
        subst hspot
        have hbW : b < W.heap.size := hlt1 (.cell b off) (MemPlace.mem_row.2 ⟨0, by omega, by simp⟩)
        exact f4_any M b off cap len ss (fun i hi => by rw [← Addr.add_lit]; exact hcell i (by omega)) hws (fun _ => hbW) (by omega)
  refine key.mono fun e W' ⟨he, hn⟩ => ?_
  subst he
  exact ⟨_, rfl, [d0, d1], [], _, [], p0 ++ p1, [], by simpa using hW', trodAll_mk1 (shut_bool Try.underlying4 _), trodAll_mk2 (Below.trod laidOut (by kernel_rfl) (of_decide_eq_true (by kernel_rfl)) h0k hn hlt0) (Below.trod laidOut (by kernel_rfl) (of_decide_eq_true (by kernel_rfl)) h1k hn hlt1), rfl, hn.frame _, fun h => by cases h⟩

theorem distinct_holds : Rows.FnNewColumnsDistinctNamesDistinctPlacesSaid :=
  OpenClaim.holds_of_wide 4 Try.f4 rfl rfl rfl rfl rfl rfl rfl ⟨rfl, rfl, rfl, rfl, rfl⟩ rfl rfl rfl rfl rfl (by kernel_rfl) Try.func4 (by kernel_rfl)
    (of_decide_eq_true (by kernel_rfl)) (by unfold Func.isWrapper; first | (rw [if_pos (by decide +kernel)]; kernel_rfl) | (rw [if_neg (by decide +kernel)]; exact ⟨rfl, rfl⟩))
    (fun os started H enc _ => distinct_lifted os started H enc)
#print axioms distinct_holds
end Go.Proofs.Qxb6628369a
