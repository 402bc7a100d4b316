/-
  Seat b6628479aD: THE ROW of FnMarshalJSONNewestHidesBlock, proved, and its tied card closed by the given tie.
-/
import Derived.Test.Qxb6628479aDoorNewest
import Derived.Test.Qxb6628479aDoorStepsProof
import Derived.Test.Qxb6628479aDoorLaid
import Derived.Test.Qxb6628479aDoorTie
import Derived.Test.Qxb6628479aDoorCards
import Derived.SevenTiedAt
namespace Go.Proofs.Qxb6628479aDoor
open Go.ChangeShapes Go.WideShapes Go.ChangeAt Go.RowKit

set_option maxRecDepth 100000 in
theorem newest_lifted (os : Os) (started : os.Started) (H : Type) (enc : TypeId × Value → H) :
    ReturnsInHanded {} Tryd.checked os 4 .any (fun w args => (Rows.fnMarshalJSONNewestHidesBlockSpec.pre enc Tryd.prog Tryd.f4 [] false w args ∧ laidMetH Tryd.prog laid3 w) ∧ sizedMet enc Tryd.prog Tryd.f4 (OpenSpec.ofChange Rows.fnMarshalJSONNewestHidesBlockSpec) false w args)
      (Rows.fnMarshalJSONNewestHidesBlockSpec.post enc Tryd.prog Tryd.f4 false true false false) := by
  refine returnsInHanded_of_change_and (C := Tryd.checked) (X := fun w _ => laidMetH Tryd.prog laid3 w) (fun _ _ _ hh h => h.of_heap hh) own started (by kernel_rfl) Tryd.func4
    (ChangeSpec.witness_shaped (enc := enc) (C := Tryd.checked) (os := os) (X := fun w _ => laidMetH Tryd.prog laid3 w) false (World.doorLaid Tryd.prog 24 os) #[.int .u64 0, .int .u64 0] 8 rfl (World.shaped_of_RefB (by kernel_rfl) (by kernel_rfl)) (by kernel_rfl) (by kernel_rfl) (by kernel_rfl) (door_met os _)) ?_
  intro W base args ds gs before hval0 hW _ _ hL _
  have hval : ∀ (j : Nat) t v, Tryd.f4.params[j]? = some t → args[j]? = some v → Value.okWide Tryd.prog W .any base t v := hval0
  have hW' := hW
  obtain ⟨p, q, hA0, hV, rfl, hfz, hnd⟩ := hW
  have hA : DataW.TrodAll enc Tryd.prog W 0 (fun _ => true) true Tryd.f4.params.toList args.toList ds p := hA0
  rw [Tryd.params4] at hA hval
  obtain ⟨v0, v1, d0, d1, p0, p1, rfl, rfl, rfl, h0, h1⟩ := trodAll_two hA
  obtain ⟨rfl, rfl⟩ := trodVars_none hV
  obtain ⟨x, rfl, rfl, rfl, wx⟩ := open_int Tryd.underlying22 (hval 0 22 v0 rfl rfl) h0
  obtain ⟨y, rfl, rfl, rfl, wy⟩ := open_int Tryd.underlying22 (hval 1 22 v1 rfl rfl) h1
  have ht := tab_of_laid hL
  obtain ⟨n, rfl, hn⟩ := nat_of_u64 wx
  obtain ⟨m, rfl, hm⟩ := nat_of_u64 wy
  clear hA0 hval0
  simp only [List.append_nil] at hW'
  refine (f4_any n m W hn hm ht).mono fun e W' ⟨he, hb⟩ => ?_
  subst he
  exact ⟨_, rfl, [.lit (.int .u64 (n : Int)), .lit (.int .u64 (m : Int))], [], _, [], [], [], hW', trodAll_mk1 (shut_bool Tryd.underlying4 _), trodAll_mk2 (shut_int Tryd.underlying22 wx) (shut_int Tryd.underlying22 wy), rfl, hb.frame _, fun h => by cases h⟩

theorem newest_row_holds : Rows.FnMarshalJSONNewestHidesBlockSaid :=
  OpenClaim.holds_of_wide 4 Tryd.f4 rfl rfl rfl rfl rfl rfl rfl ⟨rfl, rfl, rfl, rfl, rfl⟩ rfl rfl rfl rfl rfl (by kernel_rfl) Tryd.func4 (by kernel_rfl)
    (of_decide_eq_true (by kernel_rfl)) (by unfold Func.isWrapper; first | (rw [if_pos (by decide +kernel)]; kernel_rfl) | (rw [if_neg (by decide +kernel)]; exact ⟨rfl, rfl⟩))
    (fun os started H enc _ => newest_lifted os started H enc)

/-- ████ THE TIED CARD ████ -/
theorem newest_card_holds : Rows.FnMarshalJSONNewestHidesBlockCardSaid :=
  Claim7.holds_tied_plain_at .later [] [.data, .data, .data] true (true, "b24d0647e21e4b4a3dd47c25bc7203f23c5893f4e8403b72dc96f30ad164db95") false
    newest_row_holds (fun _ h => by cases h) (by kernel_rfl) (fun _ h => by cases h) fnMarshalJSONNewestHidesBlock_row_tie rfl ⟨rfl, rfl⟩ (by kernel_rfl) rfl
    (fun f fn hf hfn => by
      obtain rfl : f = 4 := Option.some.inj ((show Tryd.prog.funcNamed Tryd.f4.name = some 4 by kernel_rfl).symm.trans hf) |>.symm
      obtain rfl : fn = Tryd.f4 := (Option.some.inj (Tryd.func4.symm.trans hfn)).symm
      exact ⟨by kernel_rfl, fun j t ht => by
        rw [Tryd.params4] at ht
        have hm : t ∈ [22, 22] := by simpa using Array.mem_of_getElem? ht
        have hall : ([22, 22].all fun u => !Tryd.prog.wantsStandIn u) = true := by kernel_rfl
        exact (show Tryd.prog.wantsStandIn t = false by simpa using List.all_eq_true.1 hall t hm)⟩)
    (by kernel_rfl)
#print axioms newest_card_holds
end Go.Proofs.Qxb6628479aDoor
