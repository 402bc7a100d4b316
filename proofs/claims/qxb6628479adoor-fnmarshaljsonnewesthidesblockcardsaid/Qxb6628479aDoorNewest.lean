/-
  Seat b6628479aD: function 4 (FnMarshalJSONNewestHidesBlock), walked, at every two blocks.
-/
import Derived.Test.Qxb6628479aDoorSteps
namespace Go.Proofs.Qxb6628479aDoor
open Go.RowKit

set_option maxRecDepth 100000 in
set_option maxHeartbeats 1000000 in
theorem f4_any (a b : Nat) (w : World) (ha : a < 18446744073709551616) (hb : b < 18446744073709551616) (ht : Tab w) :
    Calls Tryd.prog 4 #[.int .u64 (a : Int), .int .u64 (b : Int)] w fun e w' => e = .returned (.bool true) ∧ Below w.heap.size w w' := by
  have k1 := f5_any true a w ha ht
  have la := text_length_le false a ha
  have lb := text_length_le false b hb
  have HA : Hid (a < 18446744073709551616) := ha
  have HB : Hid (b < 18446744073709551616) := hb
  have HD : Hid (decide (text false a = text false b) = ((a : Int) == (b : Int))) := by
    rw [Hid]
    by_cases e : a = b
    · subst e; simp
    · rw [show ((a : Int) == (b : Int)) = false from beq_eq_false_iff_ne.2 (by omega), decide_eq_false_iff_not, text_inj]
      exact e
  clear ha hb
  go_enter Tryd.func4, Tryd.ntmps4
  go_wp2_with fail
  refine k1.mono ?_
  rintro e w1 ⟨r1, rfl, h1, b1⟩
  clear k1
  have t1 := ht.later b1
  go_wp2_with fail
  refine (f5_any true b w1 HB.out t1).mono ?_
  rintro e w2 ⟨r2, rfl, h2, b2⟩
  have t2 := t1.later b2
  go_wp2_with fail
  refine (f5_any false a w2 HA.out t2).mono ?_
  rintro e w3 ⟨r3, rfl, h3, b3⟩
  have t3 := t2.later b3
  go_wp2_with fail
  refine (f5_any false b w3 HB.out t3).mono ?_
  rintro e w4 ⟨r4, rfl, h4, b4⟩
  have g1 := ((h1.later b2).later b3).later b4
  have g2 := (h2.later b3).later b4
  have g3 := h3.later b4
  have b04 := below_then (below_then (below_then b1 b2) b3) b4
  clear ht t1 t2 t3 h1 h2 h3 b1 b2 b3 b4
  go_wp2_with fail
  refine (f6_any r1 true a w4 g1 HA.out).mono ?_
  rintro e w5 ⟨rfl, q5, rfl⟩
  go_wp2_with fail
  refine (f6_any r3 false a _ (g3.later (below_q q5)) HA.out).mono ?_
  rintro e w6 ⟨rfl, q6, rfl⟩
  go_wp2_with fail
  refine (f6_any r4 false b _ (h4.later (below_q (q5+q6))) HB.out).mono ?_
  rintro e w7 ⟨rfl, q7, rfl⟩
  have d1 : Below w4.heap.size w4 (w4.drewN (q5 + q6 + q7)) := below_q _
  have k8 := f8_any r1 r2 (text true a) (text true b) _ (g1.later d1) (g2.later d1) (by simp [text, NEW]) (by simp [text, NEW])
  rw [show decide (text true a = text true b) = true from decide_eq_true rfl] at k8
  go_wp2_with fail
  refine k8.mono ?_
  rintro e w8 ⟨rfl, q8, rfl⟩
  clear k8 d1
  have d1 : Below w4.heap.size w4 (w4.drewN (q5 + q6 + q7 + q8)) := below_q _
  have k8 := f8_any r3 r1 (text false a) (text true a) _ (g3.later d1) (g1.later d1) (by omega) (by simp [text, NEW])
  rw [show decide (text false a = text true a) = false from decide_eq_false (text_ne_new a)] at k8
  go_wp2_with fail
  refine k8.mono ?_
  rintro e w9 ⟨rfl, q9, rfl⟩
  clear k8 d1
  have d1 : Below w4.heap.size w4 (w4.drewN (q5 + q6 + q7 + q8 + q9)) := below_q _
  have k8 := f8_any r3 r4 (text false a) (text false b) _ (g3.later d1) (h4.later d1) (by omega) (by omega)
  rw [HD.out] at k8
  go_wp2_with fail
  refine k8.mono ?_
  rintro e w10 ⟨rfl, q10, rfl⟩
  clear k8 d1
  go_wp2
  go_ret
  exact ⟨rfl, below_then b04 (below_q _)⟩
end Go.Proofs.Qxb6628479aDoor
