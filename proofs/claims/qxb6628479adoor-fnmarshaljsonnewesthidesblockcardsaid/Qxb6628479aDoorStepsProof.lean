/-
  Seat b6628479aD: THE ROW of FnMarshalJSONStepsByOne, proved, and its tied card closed by the given tie.
-/
import Derived.Test.Qxb6628479aDoorSteps
import Derived.Test.Qxb6628479aDoorLaid
import Derived.Test.Qxb6628479aDoorTie
import Derived.Test.Qxb6628479aDoorCards
import Derived.SevenTiedAt
namespace Go.Proofs.Qxb6628479aDoor
open Go.ChangeShapes Go.WideShapes Go.ChangeAt Go.RowKit

theorem nat_of_u64 {x : Int} (h : (Lit.int .u64 x).wf = true) : ∃ n : Nat, x = (n : Int) ∧ n < 18446744073709551616 := by
  have hb := bounds_u64 h
  exact ⟨x.toNat, by omega, by omega⟩

set_option maxRecDepth 100000 in
theorem steps_lifted (os : Os) (started : os.Started) (H : Type) (enc : TypeId × Value → H) :
    ReturnsInHanded {} Tryd.checked os 3 .any (fun w args => (Rows.fnMarshalJSONStepsByOneSpec.pre enc Tryd.prog Tryd.f3 [] false w args ∧ laidMetH Tryd.prog laid3 w) ∧ sizedMet enc Tryd.prog Tryd.f3 (OpenSpec.ofChange Rows.fnMarshalJSONStepsByOneSpec) false w args)
      (Rows.fnMarshalJSONStepsByOneSpec.post enc Tryd.prog Tryd.f3 false true false false) := by
  refine returnsInHanded_of_change_and (C := Tryd.checked) (X := fun w _ => laidMetH Tryd.prog laid3 w) (fun _ _ _ hh h => h.of_heap hh) own started (by kernel_rfl) Tryd.func3
    (ChangeSpec.witness_shaped (enc := enc) (C := Tryd.checked) (os := os) (X := fun w _ => laidMetH Tryd.prog laid3 w) false (World.doorLaid Tryd.prog 24 os) #[.int .u64 0] 8 rfl (World.shaped_of_RefB (by kernel_rfl) (by kernel_rfl)) (by kernel_rfl) (by kernel_rfl) (by kernel_rfl) (door_met os _)) ?_
  intro W base args ds gs before hval0 hW _ _ hL _
  have hval : ∀ (j : Nat) t v, Tryd.f3.params[j]? = some t → args[j]? = some v → Value.okWide Tryd.prog W .any base t v := hval0
  have hW' := hW
  obtain ⟨p, q, hA0, hV, rfl, hfz, hnd⟩ := hW
  have hA : DataW.TrodAll enc Tryd.prog W 0 (fun _ => true) true Tryd.f3.params.toList args.toList ds p := hA0
  rw [Tryd.params3] at hA hval
  obtain ⟨v0, d0, rfl, rfl, h0⟩ := trodAll_one hA
  obtain ⟨rfl, rfl⟩ := trodVars_none hV
  obtain ⟨x, rfl, rfl, rfl, wx⟩ := open_int Tryd.underlying22 (hval 0 22 v0 rfl rfl) h0
  have ht := tab_of_laid hL
  obtain ⟨n, rfl, hn⟩ := nat_of_u64 wx
  clear hA0 hval0
  simp only [List.append_nil] at hW'
  refine (f3_any n W hn ht).mono fun e W' ⟨he, hb⟩ => ?_
  subst he
  exact ⟨_, rfl, [.lit (.int .u64 (n : Int))], [], _, [], [], [], hW', trodAll_mk1 (shut_bool Tryd.underlying4 _), trodAll_mk1 (shut_int Tryd.underlying22 wx), rfl, hb.frame _, fun h => by cases h⟩

theorem steps_row_holds : Rows.FnMarshalJSONStepsByOneSaid :=
  OpenClaim.holds_of_wide 3 Tryd.f3 rfl rfl rfl rfl rfl rfl rfl ⟨rfl, rfl, rfl, rfl, rfl⟩ rfl rfl rfl rfl rfl (by kernel_rfl) Tryd.func3 (by kernel_rfl)
    (of_decide_eq_true (by kernel_rfl)) (by unfold Func.isWrapper; first | (rw [if_pos (by decide +kernel)]; kernel_rfl) | (rw [if_neg (by decide +kernel)]; exact ⟨rfl, rfl⟩))
    (fun os started H enc _ => steps_lifted os started H enc)

/-- ████ THE TIED CARD ████ -/
theorem steps_card_holds : Rows.FnMarshalJSONStepsByOneCardSaid :=
  Claim7.holds_tied_plain_at .later [] [.data, .data, .data] true (true, "b24d0647e21e4b4a3dd47c25bc7203f23c5893f4e8403b72dc96f30ad164db95") false
    steps_row_holds (fun _ h => by cases h) (by kernel_rfl) (fun _ h => by cases h) fnMarshalJSONStepsByOne_row_tie rfl ⟨rfl, rfl⟩ (by kernel_rfl) rfl
    (fun f fn hf hfn => by
      obtain rfl : f = 3 := Option.some.inj ((show Tryd.prog.funcNamed Tryd.f3.name = some 3 by kernel_rfl).symm.trans hf) |>.symm
      obtain rfl : fn = Tryd.f3 := (Option.some.inj (Tryd.func3.symm.trans hfn)).symm
      exact ⟨by kernel_rfl, fun j t ht => by
        rw [Tryd.params3] at ht
        have hm : t ∈ [22] := by simpa using Array.mem_of_getElem? ht
        have hall : ([22].all fun u => !Tryd.prog.wantsStandIn u) = true := by kernel_rfl
        exact (show Tryd.prog.wantsStandIn t = false by simpa using List.all_eq_true.1 hall t hm)⟩)
    (by kernel_rfl)
#print axioms steps_card_holds
end Go.Proofs.Qxb6628479aDoor
