/-
  Seat b6628479aD: function 3 (FnMarshalJSONStepsByOne), walked, at every block.
-/
import Derived.Test.Qxb6628479aDoorInc
namespace Go.Proofs.Qxb6628479aDoor
open Go.RowKit

theorem below_then {w a b : World} (h : Below w.heap.size w a) (h2 : Below a.heap.size a b) : Below w.heap.size w b := h.trans (h2.mono h.size)
theorem below_q {w : World} (q : Nat) : Below w.heap.size w (w.drewN q) := ⟨rfl, rfl, rfl, Nat.le_refl _, fun _ _ => rfl⟩

set_option maxRecDepth 100000 in
set_option maxHeartbeats 1000000 in
theorem f3_max (w : World) (ht : Tab w) :
    Calls Tryd.prog 3 #[.int .u64 18446744073709551615] w fun e w' => e = .returned (.bool true) ∧ Below w.heap.size w w' := by
  have k5 := f5_any false 18446744073709551615 w (by omega) ht
  go_enter Tryd.func3, Tryd.ntmps3
  go_wp2_with fail
  refine k5.mono ?_
  rintro e w1 ⟨r, rfl, hr, hb1⟩
  clear k5
  go_wp2_with fail
  refine (f6_any r false 18446744073709551615 w1 hr (by omega)).mono ?_
  rintro e w2 ⟨rfl, q, rfl⟩
  go_wp2
  go_ret
  exact ⟨rfl, below_then hb1 (below_q q)⟩

theorem one_bts {w : World} : Bts (w.alloc (.cells #[.int .u8 49] 5)) ⟨some ⟨w.heap.size, 0, none⟩, 1, 1⟩ [49] :=
  ⟨rfl, Nat.le_refl _, (fun e => by cases e), Rd.ofBlock (cur := #[.int .u8 49]) (e := 5) (by rw [heap_alloc_get, if_pos rfl]) (fun k hk => by
    have : k = 0 := by simp [byteVals] at hk; omega
    subst this
    rfl)⟩

set_option maxRecDepth 100000 in
set_option maxHeartbeats 1000000 in
theorem f3_zero (w : World) (ht : Tab w) :
    Calls Tryd.prog 3 #[.int .u64 0] w fun e w' => e = .returned (.bool true) ∧ Below w.heap.size w w' := by
  have k5 := f5_any false 0 w (by omega) ht
  go_enter Tryd.func3, Tryd.ntmps3
  go_wp2_with fail
  refine k5.mono ?_
  rintro e w1 ⟨r, rfl, hr, hb1⟩
  clear k5
  go_wp2_with fail
  refine (f6_any r false 0 w1 hr (by omega)).mono ?_
  rintro e w2 ⟨rfl, q, rfl⟩
  have k5 := f5_any false 1 (w1.drewN q) (by omega) ((ht.later hb1).later (below_q q))
  go_wp2_with fail
  refine k5.mono ?_
  rintro e w3 ⟨r3, rfl, hr3, hb3⟩
  clear k5
  go_wp2_with fail
  have e1 : text false 1 = [49] := by rw [text_pos (by omega), dig_small (by omega)]; rfl
  rw [e1] at hr3
  have k8 := f8_any r3 ⟨some ⟨w3.heap.size, 0, none⟩, 1, 1⟩ [49] [49] (w3.alloc (.cells #[.int .u8 49] 5)) (hr3.later ((Below.refl _ _).alloc (Nat.le_refl _) _)) one_bts (by decide) (by decide)
  have d : decide (([49] : List Int) = [49]) = true := by decide
  rw [d] at k8
  refine k8.mono ?_
  rintro e w4 ⟨rfl, q4, rfl⟩
  go_wp2
  go_ret
  exact ⟨rfl, below_then (below_then (below_then (below_then hb1 (below_q q)) hb3) ((Below.refl _ _).alloc (Nat.le_refl _) _)) (below_q q4)⟩

set_option maxRecDepth 100000 in
set_option maxHeartbeats 1000000 in
theorem f3_mid (n : Nat) (w : World) (h1 : ((n : Int) == 0) = false) (h2 : n + 1 < 18446744073709551616) (ht : Tab w) :
    Calls Tryd.prog 3 #[.int .u64 (n : Int)] w fun e w' => e = .returned (.bool true) ∧ Below w.heap.size w w' := by
  have hn0 : n ≠ 0 := by have := beq_eq_false_iff_ne.1 h1; omega
  have k5 := f5_any false n w (by omega) ht
  have hmax : ((n : Int) == 18446744073709551615) = false := beq_eq_false_iff_ne.2 (by omega)
  have hlt : (n : Int) < 18446744073709551615 := by omega
  have HN : Hid (n + 1 < 18446744073709551616) := h2
  clear h2
  go_enter Tryd.func3, Tryd.ntmps3
  go_wp2_with fail
  refine k5.mono ?_
  rintro e w1 ⟨r, rfl, hr, hb1⟩
  clear k5
  go_wp2_with fail
  refine (f6_any r false n w1 hr (by have := HN.out; omega)).mono ?_
  rintro e w2 ⟨rfl, q, rfl⟩
  have k5 := f5_any false (n + 1) (w1.drewN q) HN.out ((ht.later hb1).later (below_q q))
  rw [show ((n + 1 : Nat) : Int) = (n : Int) + 1 from by omega] at k5
  go_wp2_with fail
  refine k5.mono ?_
  rintro e w3 ⟨r3, rfl, hr3, hb3⟩
  clear k5
  have hr' := (hr.later (below_q q)).later hb3
  rw [text_pos hn0] at hr'
  go_wp2_with fail
  refine (f7_any r n w3 hr' (by have := HN.out; omega)).mono ?_
  rintro e w4 ⟨r4, rfl, hr4, hb4⟩
  rw [text_pos (by omega)] at hr3
  have hl := dig_length_le (n + 1) HN.out
  have k8 := f8_any r3 r4 (dig (n + 1)) (dig (n + 1)) w4 (hr3.later hb4) hr4 (by omega) (by omega)
  rw [show decide (dig (n + 1) = dig (n + 1)) = true from decide_eq_true rfl] at k8
  go_wp2_with fail
  refine k8.mono ?_
  rintro e w5 ⟨rfl, q5, rfl⟩
  go_wp2
  go_ret
  exact ⟨rfl, below_then (below_then (below_then (below_then hb1 (below_q q)) hb3) hb4) (below_q q5)⟩

theorem f3_any (n : Nat) (w : World) (h2 : n < 18446744073709551616) (ht : Tab w) :
    Calls Tryd.prog 3 #[.int .u64 (n : Int)] w fun e w' => e = .returned (.bool true) ∧ Below w.heap.size w w' := by
  by_cases h0 : n = 0
  · subst h0; exact f3_zero w ht
  · by_cases hm : n = 18446744073709551615
    · subst hm; exact f3_max w ht
    · exact f3_mid n w (beq_eq_false_iff_ne.2 (by omega)) (by omega) ht
end Go.Proofs.Qxb6628479aDoor
