/-
  Seat b6629007a: (time.Time).Before and Sub, walked: the difference, held at the ends of int64.
-/
import Derived.Test.Qxb6629007aTime
import Derived.Deep.QuietTactic
import Derived.BigQuiet
import Derived.WalkSmall
import Derived.Deep.RegionHeld3
namespace Go.Proofs.Qxb6629007a
open Go.RowKit
attribute [local go_sem] tm_eq

/-- Two times boxed, one behind the other. -/
theorem two_rows (w : World) (t u : Int) (o o' : Obj) (ho : o = Obj.cells #[.int .u64 (nn t), .int .i64 (ss t), .pointer none] 33) (ho' : o' = Obj.cells #[.int .u64 (nn u), .int .i64 (ss u), .pointer none] 33) :
    ((w.alloc o).alloc o').heap[w.heap.size]? = some (.cells #[.int .u64 (nn t), .int .i64 (ss t), .pointer none] 33 (0, 0)) ∧
    ((w.alloc o).alloc o').heap[w.heap.size + 1]? = some (.cells #[.int .u64 (nn u), .int .i64 (ss u), .pointer none] 33 (0, 0)) := by
  subst ho ho'
  refine ⟨alloc2_row _ _ _ _, ?_⟩
  have := alloc1_row (w.alloc (Obj.cells #[.int .u64 (nn t), .int .i64 (ss t), .pointer none] 33)) #[.int .u64 (nn u), .int .i64 (ss u), .pointer none] 33
  rwa [World.size_alloc] at this

set_option maxRecDepth 100000 in
set_option maxHeartbeats 1000000 in
theorem f35_any (t u : Int) (w : World) :
    Calls Try.prog 35 #[tm t, tm u] w fun e w' => e = .returned (.bool (decide (t < u))) ∧ Below w.heap.size w w' := by
  have hm := zboth (nn_lo t) (nn_hi t) (nn_lo u) (nn_hi u)
  obtain ⟨hr1, hr2⟩ := two_rows w t u _ _ rfl rfl
  have a32 := f32_any w.heap.size (nn t) (ss t) _ (nn_lo t) (nn_hi t) (row_cell (k := 0) hr1).1 (row_cell (k := 1) hr1).1
  have b32 := f32_any (w.heap.size + 1) (nn u) (ss u) _ (nn_lo u) (nn_hi u) (row_cell (k := 0) hr2).1 (row_cell (k := 1) hr2).1
  have a33 := f33_any w.heap.size (nn t) _ (nn_lo t) (nn_hi t) (row_cell (k := 0) hr1).1
  have b33 := f33_any (w.heap.size + 1) (nn u) _ (nn_lo u) (nn_hi u) (row_cell (k := 0) hr2).1
  clear hr1 hr2
  have e1 := tm_val t
  have e2 := tm_val u
  have l1 := nn_lo t
  have l2 := nn_lo u
  have g1 := nn_hi t
  have g2 := nn_hi u
  by_cases hl : ss t < ss u
  · rw [show decide (t < u) = true from decide_eq_true (by omega)]
    clear e1 e2 l1 l2 g1 g2
    go_enter Try.func35, Try.ntmps35
    go_wp2_with fail
    refine a32.mono ?_
    rintro e w1 ⟨rfl, rfl⟩
    go_wp2_with fail
    refine b32.mono ?_
    rintro e w1 ⟨rfl, rfl⟩
    go_wp2
    go_ret
    exact ⟨rfl, below_two _ _ _⟩
  · have hl' : decide (ss t < ss u) = false := decide_eq_false hl
    by_cases hs : (ss t == ss u) = true
    · rw [show decide (t < u) = decide (nn t < nn u) from decide_eq_decide.2 (by have := beq_iff_eq.1 hs; omega)]
      clear e1 e2 l1 l2 g1 g2
      go_enter Try.func35, Try.ntmps35
      go_wp2_with fail
      refine a32.mono ?_
      rintro e w1 ⟨rfl, rfl⟩
      go_wp2_with fail
      refine b32.mono ?_
      rintro e w1 ⟨rfl, rfl⟩
      go_wp2_with fail
      refine a33.mono ?_
      rintro e w1 ⟨rfl, rfl⟩
      go_wp2_with fail
      refine b33.mono ?_
      rintro e w1 ⟨rfl, rfl⟩
      go_wp2
      go_ret
      exact ⟨rfl, below_two _ _ _⟩
    · have hs' : (ss t == ss u) = false := by simpa using hs
      rw [show decide (t < u) = false from decide_eq_false (by have := beq_eq_false_iff_ne.1 hs'; omega)]
      clear e1 e2 l1 l2 g1 g2
      go_enter Try.func35, Try.ntmps35
      go_wp2_with fail
      refine a32.mono ?_
      rintro e w1 ⟨rfl, rfl⟩
      go_wp2_with fail
      refine b32.mono ?_
      rintro e w1 ⟨rfl, rfl⟩
      go_wp2
      go_ret
      exact ⟨rfl, below_two _ _ _⟩

/-- The two boxed times stand; below them nothing has turned. -/
def Boxed (w : World) (t u : Int) (w' : World) : Prop :=
  w'.cell? ⟨w.heap.size, 0, none⟩ = some (.int .u64 (nn t)) ∧ w'.cell? ⟨w.heap.size, 1, none⟩ = some (.int .i64 (ss t)) ∧ w'.cell? ⟨w.heap.size, 2, none⟩ = some (.pointer none) ∧
  w'.cell? ⟨w.heap.size + 1, 0, none⟩ = some (.int .u64 (nn u)) ∧ w'.cell? ⟨w.heap.size + 1, 1, none⟩ = some (.int .i64 (ss u)) ∧ w'.cell? ⟨w.heap.size + 1, 2, none⟩ = some (.pointer none) ∧
  w.heap.size + 2 ≤ w'.heap.size ∧ Below w.heap.size w w'

theorem Boxed.later {w : World} {t u : Int} {a b : World} (h : Boxed w t u a) (hb : Below a.heap.size a b) : Boxed w t u b := by
  obtain ⟨h1, h2, h3, h4, h5, h6, h7, h8⟩ := h
  refine ⟨?_, ?_, ?_, ?_, ?_, ?_, Nat.le_trans h7 hb.size, below_then h8 hb⟩
  · rw [hb.cell (by show w.heap.size < _; omega)]; exact h1
  · rw [hb.cell (by show w.heap.size < _; omega)]; exact h2
  · rw [hb.cell (by show w.heap.size < _; omega)]; exact h3
  · rw [hb.cell (by show w.heap.size + 1 < _; omega)]; exact h4
  · rw [hb.cell (by show w.heap.size + 1 < _; omega)]; exact h5
  · rw [hb.cell (by show w.heap.size + 1 < _; omega)]; exact h6

theorem boxed_start (w : World) (t u : Int) (o o' : Obj) (ho : o = Obj.cells #[.int .u64 (nn t), .int .i64 (ss t), .pointer none] 33) (ho' : o' = Obj.cells #[.int .u64 (nn u), .int .i64 (ss u), .pointer none] 33) :
    Boxed w t u ((w.alloc o).alloc o').drew := by
  obtain ⟨h1, h2⟩ := two_rows w t u o o' ho ho'
  exact ⟨(row_cell (k := 0) h1).1, (row_cell (k := 1) h1).1, (row_cell (k := 2) h1).1, (row_cell (k := 0) h2).1, (row_cell (k := 1) h2).1, (row_cell (k := 2) h2).1, by show _ ≤ ((w.alloc o).alloc o').heap.size; rw [World.size_alloc, World.size_alloc]; omega, (below_two _ _ _).drew⟩

theorem Boxed.all {w : World} {t u : Int} {a : World} (h : Boxed w t u a) : (a.cell? ⟨w.heap.size, 0, none⟩ = some (.int .u64 (nn t)) ∧ a.cell? ⟨w.heap.size, 1, none⟩ = some (.int .i64 (ss t)) ∧ a.cell? ⟨w.heap.size, 2, none⟩ = some (.pointer none) ∧
    a.cell? ⟨w.heap.size + 1, 0, none⟩ = some (.int .u64 (nn u)) ∧ a.cell? ⟨w.heap.size + 1, 1, none⟩ = some (.int .i64 (ss u)) ∧ a.cell? ⟨w.heap.size + 1, 2, none⟩ = some (.pointer none)) ∧ Boxed w t u a := by
  have h0 := h
  obtain ⟨h1, h2, h3, h4, h5, h6, h7, h8⟩ := h
  exact ⟨⟨h1, h2, h3, h4, h5, h6⟩, h0⟩

/-- A difference of times, held at the ends of int64. -/
def clampI (x : Int) : Int := if x < -9223372036854775808 then -9223372036854775808 else if 9223372036854775807 < x then 9223372036854775807 else x

set_option maxRecDepth 100000 in
set_option maxHeartbeats 1000000 in
theorem f27_any (t u : Int) (w : World) (ht : -9223372036854775808 ≤ t ∧ t < 9223372036854775808) (hu : -9223372036854775808 ≤ u ∧ u < 9223372036854775808) :
    Calls Try.prog 27 #[tm t, tm u] w fun e w' => e = .returned (.int .i64 (clampI (t - u))) ∧ Below w.heap.size w w' := by
  have hm := zboth (nn_lo t) (nn_hi t) (nn_lo u) (nn_hi u)
  obtain ⟨hr1, hr2⟩ := two_rows w t u _ _ rfl rfl
  have a32 := f32_any w.heap.size (nn t) (ss t) _ (nn_lo t) (nn_hi t) (row_cell (k := 0) hr1).1 (row_cell (k := 1) hr1).1
  have b32 := f32_any (w.heap.size + 1) (nn u) (ss u) _ (nn_lo u) (nn_hi u) (row_cell (k := 0) hr2).1 (row_cell (k := 1) hr2).1
  have a33 := f33_any w.heap.size (nn t) _ (nn_lo t) (nn_hi t) (row_cell (k := 0) hr1).1
  have b33 := f33_any (w.heap.size + 1) (nn u) _ (nn_lo u) (nn_hi u) (row_cell (k := 0) hr2).1
  clear hr1 hr2
  have e1 := tm_val t
  have e2 := tm_val u
  have l1 := nn_lo t
  have l2 := nn_lo u
  have g1 := nn_hi t
  have g2 := nn_hi u
  have s1 : -9223372037 ≤ ss t ∧ ss t ≤ 9223372037 := by omega
  have s2 : -9223372037 ≤ ss u ∧ ss u ≤ 9223372037 := by omega
  have HE1 : Hid (1000000000 * ss t + nn t = t) := e1
  have HE2 : Hid (1000000000 * ss u + nn u = u) := e2
  clear e1 e2
  obtain ⟨D, hD⟩ : ∃ D, wrap64 (wrap64 ((ss t - ss u) * 1000000000) + (nn t - nn u)) = D := ⟨_, rfl⟩
  have HD : Hid ((-9223372036854775808 ≤ D ∧ D < 9223372036854775808) ∧ (D - (t - u)) % 18446744073709551616 = 0) := by
    rw [Hid, ← hD]
    have e1 := HE1.out
    have e2 := HE2.out
    unfold wrap64
    omega
  have k29 : ∀ W, Boxed w t u W → Calls Try.prog 29 #[tm u, .int .i64 D] W fun e w' => e = .returned (tm (u + D)) ∧ Boxed w t u w' := fun W h =>
    (f29_any u D W (by omega) HD.out.1).mono fun e w' h2 => ⟨h2.1, h.later h2.2⟩
  have k34 : ∀ W, Boxed w t u W → Calls Try.prog 34 #[tm (u + D), tm t] W fun e w' => e = .returned (.bool (decide (u + D = t))) ∧ Boxed w t u w' := fun W h =>
    (f34_any (u + D) t W).mono fun e w' h2 => ⟨h2.1, h.later h2.2⟩
  have hb0 := boxed_start w t u _ _ rfl rfl
  go_enter Try.func27, Try.ntmps27
  go_wp2_with fail
  refine a32.mono ?_
  rintro e w1 ⟨rfl, rfl⟩
  go_wp2_with fail
  refine b32.mono ?_
  rintro e w1 ⟨rfl, rfl⟩
  go_wp2_with fail
  refine a33.mono ?_
  rintro e w1 ⟨rfl, rfl⟩
  go_wp2_with fail
  refine b33.mono ?_
  rintro e w1 ⟨rfl, rfl⟩
  go_wp2_with fail
  clear a32 b32 a33 b33
  go_region_held3 (fun w' => (w'.cell? ⟨w.heap.size, 0, none⟩ = some (.int .u64 (nn t)) ∧ w'.cell? ⟨w.heap.size, 1, none⟩ = some (.int .i64 (ss t)) ∧ w'.cell? ⟨w.heap.size, 2, none⟩ = some (.pointer none) ∧
    w'.cell? ⟨w.heap.size + 1, 0, none⟩ = some (.int .u64 (nn u)) ∧ w'.cell? ⟨w.heap.size + 1, 1, none⟩ = some (.int .i64 (ss u)) ∧ w'.cell? ⟨w.heap.size + 1, 2, none⟩ = some (.pointer none)) ∧ Boxed w t u w') (exact Boxed.all (by assumption))
    (first | (go_at_call 29; refine (k29 _ (by assumption)).mono ?_; rintro e w' ⟨rfl, hbx⟩) | (go_at_call 34; refine (k34 _ (by assumption)).mono ?_; rintro e w' ⟨rfl, hbx⟩))
  obtain ⟨⟨c1, c2, c3, c4, c5, c6⟩, _⟩ := hbx.all
  by_cases hr : u + D = t
  · have hr' : decide (u + D = t) = true := decide_eq_true hr
    have HR : Hid (u + D = t) := hr
    clear hr
    go_wp2
    go_ret
    refine ⟨?_, hbx.2.2.2.2.2.2.2⟩
    have h1 := HR.out
    have h2 := HD.out
    unfold clampI
    rw [if_neg (by omega), if_neg (by omega), show D = t - u from by omega]
    rfl
  · have hr' : decide (u + D = t) = false := decide_eq_false hr
    have HR : Hid (¬ u + D = t) := hr
    have k35 := f35_any t u w'
    clear hr
    by_cases hl : t < u
    · rw [decide_eq_true hl] at k35
      have HL : Hid (t < u) := hl
      clear hl
      go_wp2_with fail
      refine k35.mono ?_
      rintro e w3 ⟨rfl, hb3⟩
      go_wp2
      go_ret
      refine ⟨?_, below_then hbx.2.2.2.2.2.2.2 hb3⟩
      have h1 := HR.out
      have h2 := HD.out
      have h3 := HL.out
      unfold clampI
      rw [if_pos (by omega)]
      rfl
    · rw [decide_eq_false hl] at k35
      have HL : Hid (¬ t < u) := hl
      clear hl
      go_wp2_with fail
      refine k35.mono ?_
      rintro e w3 ⟨rfl, hb3⟩
      go_wp2
      go_ret
      refine ⟨?_, below_then hbx.2.2.2.2.2.2.2 hb3⟩
      have h1 := HR.out
      have h2 := HD.out
      have h3 := HL.out
      unfold clampI
      rw [if_neg (by omega), if_pos (by omega)]
      rfl
end Go.Proofs.Qxb6629007a
