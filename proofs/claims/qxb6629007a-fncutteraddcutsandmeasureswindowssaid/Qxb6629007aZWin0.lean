/-
  Seat b6629007a: what zzWindowIs compares: its calls, in every order.
-/
import Derived.Test.Qxb6629007aZRuns
import Derived.Test.Qxb6629007aKept
import Derived.Laws.StructEq
namespace Go.Proofs.Qxb6629007a
open Go.RowKit

/-- What the comparison reads. -/
structure WinZ (w : World) (b1 : Nat) (num t1 t2 n sum p5 p50 p95 ov : Int) (lh gh lv gv : Value) (L G : List (Int × Int)) (xs ys : List Int) (b off off2 : Nat) (W : World) : Prop where
  blk : W.heap[w.heap.size]? = some (.cells (winArr num t1 t2 n sum p5 p50 p95 ov lh gh) 36 (0, 0))
  c1 : W.cell? ⟨b, off, none⟩ = some (.int .i64 t1)
  c2 : W.cell? ⟨b, off2, none⟩ = some (.int .i64 t2)
  hb : b < W.heap.size
  lh : W.ownsRow b1 71 2 lh L.length (bucketCells L)
  gh : W.ownsRow b1 71 2 gh G.length (bucketCells G)
  lv : W.ownsRow (w.heap.size + 1) 2 1 lv xs.length (xs.map (Value.int .i64))
  gv : W.ownsRow (w.heap.size + 2) 2 1 gv ys.length (ys.map (Value.int .i64))
  low : Below w.heap.size w W

section
variable {w : World} {b1 : Nat} {num t1 t2 n sum p5 p50 p95 ov : Int} {lh gh lv gv : Value} {L G : List (Int × Int)} {xs ys : List Int} {b off off2 : Nat} {W : World}
theorem WinZ.later (h : WinZ w b1 num t1 t2 n sum p5 p50 p95 ov lh gh lv gv L G xs ys b off off2 W) {W' : World} (hB : Below W.heap.size W W') : WinZ w b1 num t1 t2 n sum p5 p50 p95 ov lh gh lv gv L G xs ys b off off2 W' :=
  ⟨by rw [hB.block _ (Array.getElem?_eq_some_iff.1 h.blk).1]; exact h.blk, by rw [hB.cell (by exact h.hb)]; exact h.c1, by rw [hB.cell (by exact h.hb)]; exact h.c2, by have := h.hb; have := hB.size; omega,
   owns_later h.lh hB, owns_later h.gh hB, owns_later h.lv hB, owns_later h.gv hB, below_then h.low hB⟩

theorem WinZ.all (h : WinZ w b1 num t1 t2 n sum p5 p50 p95 ov lh gh lv gv L G xs ys b off off2 W) :
    (W.cell? ⟨w.heap.size, 0, none⟩ = some (.int .i64 num) ∧ W.cell? ⟨w.heap.size, 1, none⟩ = some (.int .u64 (nn t1)) ∧ W.cell? ⟨w.heap.size, 2, none⟩ = some (.int .i64 (ss t1)) ∧ W.cell? ⟨w.heap.size, 3, none⟩ = some (.pointer none) ∧ W.cell? ⟨w.heap.size, 4, none⟩ = some (.int .u64 (nn t2)) ∧ W.cell? ⟨w.heap.size, 5, none⟩ = some (.int .i64 (ss t2)) ∧ W.cell? ⟨w.heap.size, 6, none⟩ = some (.pointer none) ∧ W.cell? ⟨w.heap.size, 7, none⟩ = some (.int .i64 n) ∧ W.cell? ⟨w.heap.size, 8, none⟩ = some (.int .i64 sum) ∧ W.cell? ⟨w.heap.size, 9, none⟩ = some (.int .i64 p5) ∧ W.cell? ⟨w.heap.size, 10, none⟩ = some (.int .i64 p50) ∧ W.cell? ⟨w.heap.size, 11, none⟩ = some (.int .i64 p95) ∧ W.cell? ⟨w.heap.size, 12, none⟩ = some (.int .i64 ov) ∧ W.cell? ⟨w.heap.size, 13, none⟩ = some lh ∧ W.cell? ⟨w.heap.size, 14, none⟩ = some gh ∧ W.cell? ⟨b, off, none⟩ = some (.int .i64 t1) ∧ W.cell? ⟨b, off2, none⟩ = some (.int .i64 t2)) ∧
    WinZ w b1 num t1 t2 n sum p5 p50 p95 ov lh gh lv gv L G xs ys b off off2 W := by
  have hb := h.blk
  exact ⟨⟨(row_cell hb).1, (row_cell hb).1, (row_cell hb).1, (row_cell hb).1, (row_cell hb).1, (row_cell hb).1, (row_cell hb).1, (row_cell hb).1, (row_cell hb).1, (row_cell hb).1, (row_cell hb).1, (row_cell hb).1, (row_cell hb).1, (row_cell hb).1, (row_cell hb).1, h.c1, h.c2⟩, h⟩
end

theorem count_sorted (xs : List Int) (x : Int) : (sortZ xs).count x = xs.count x := (sortZ_perm xs).count_eq x

theorem lhist_bks (pk : List Pkt) : Bks (lhist pk) (sortZ (lensOf pk)) 1 800 := by
  have hl : (counts 801 (lensOf pk)).tail.length = 800 := by rw [List.length_tail, counts_length]
  have h := hist_bks 1 (counts 801 (lensOf pk)).tail (sortZ (lensOf pk)) (fun k hk => by
    rw [List.getElem_tail, counts_get, count_sorted, show ((k + 1 : Nat) : Int) = 1 + (k : Int) from by omega])
  rw [hl] at h
  exact h

theorem ghist_bks (pk : List Pkt) : Bks (ghist pk) (sortZ (gapsOf pk)) 0 999 := by
  have h := hist_bks 0 (counts 1000 (gapsOf pk)) (sortZ (gapsOf pk)) (fun k hk => by
    rw [counts_get, count_sorted, Int.zero_add])
  rw [counts_length] at h
  exact h

/-- One percentile, compared. -/
theorem f24_rk (base : Nat) (v : Value) (pk : List Pkt) (p : Int) (w : World) (hne : pk ≠ []) (hl : pk.length ≤ 4096) (h : w.ownsRow base 2 1 v (sortZ (lensOf pk)).length ((sortZ (lensOf pk)).map (Value.int .i64))) (hp : 1 ≤ p ∧ p ≤ 100) :
    Calls Try.prog 24 #[v, .int .i64 p] w fun e w' => e = .returned (.int .i64 (rk (lensOf pk) p)) ∧ w' = w := by
  have hpos := List.length_pos_iff.2 hne
  have hl2 : (sortZ (lensOf pk)).length = pk.length := by rw [sortZ_length, lensOf_length]
  refine (f24_any base v _ p w h (fun e => by rw [e] at hl2; simp at hl2; omega) (by omega) hp).mono ?_
  rintro e w1 ⟨⟨k, hk, hK, rfl⟩, rfl⟩
  refine ⟨?_, rfl⟩
  have hK' : (p * (lensOf pk).length + 99).tdiv 100 = (k : Int) + 1 := by rw [sortZ_length] at hK; exact hK
  rw [rk_sorted (fun x hx => (lensOf_bound x hx).1) (fun e => by have := lensOf_length pk; rw [e] at this; simp at this; omega) hp hK' hk, List.getD_eq_getElem?_getD, List.getElem?_eq_getElem hk]
  rfl

theorem winz_calls {w : World} {b1 : Nat} {num t1 t2 sum p5 p50 p95 ov : Int} {n : Nat} {la ga : Option Addr} {ln lc gn gc : Nat} {lv gv : Value} {pk : List Pkt} {b off off2 : Nat} {W0 : World}
    (h : WinZ w b1 num t1 t2 n sum p5 p50 p95 ov (.slice la ln lc) (.slice ga gn gc) lv gv (lhist pk) (ghist pk) (sortZ (lensOf pk)) (sortZ (gapsOf pk)) b off off2 W0)
    (ht1 : -9223372036854775808 ≤ t1 ∧ t1 < 9223372036854775808) (ht2 : -9223372036854775808 ≤ t2 ∧ t2 < 9223372036854775808) (hne : pk ≠ []) (hl : pk.length ≤ 4096)
    (h5 : p5 = rk (lensOf pk) 5) (h50 : p50 = rk (lensOf pk) 50) (h95 : p95 = rk (lensOf pk) 95) :
    ∃ Z : World → Prop, Z W0 ∧ Hid (∀ W, Z W → Z W.drew) ∧
      Hid (∀ W, Z W → (W.cell? ⟨w.heap.size, 0, none⟩ = some (.int .i64 num) ∧ W.cell? ⟨w.heap.size, 1, none⟩ = some (.int .u64 (nn t1)) ∧ W.cell? ⟨w.heap.size, 2, none⟩ = some (.int .i64 (ss t1)) ∧ W.cell? ⟨w.heap.size, 3, none⟩ = some (.pointer none) ∧ W.cell? ⟨w.heap.size, 4, none⟩ = some (.int .u64 (nn t2)) ∧ W.cell? ⟨w.heap.size, 5, none⟩ = some (.int .i64 (ss t2)) ∧ W.cell? ⟨w.heap.size, 6, none⟩ = some (.pointer none) ∧ W.cell? ⟨w.heap.size, 7, none⟩ = some (.int .i64 n) ∧ W.cell? ⟨w.heap.size, 8, none⟩ = some (.int .i64 sum) ∧ W.cell? ⟨w.heap.size, 9, none⟩ = some (.int .i64 p5) ∧ W.cell? ⟨w.heap.size, 10, none⟩ = some (.int .i64 p50) ∧ W.cell? ⟨w.heap.size, 11, none⟩ = some (.int .i64 p95) ∧ W.cell? ⟨w.heap.size, 12, none⟩ = some (.int .i64 ov) ∧ W.cell? ⟨w.heap.size, 13, none⟩ = some (.slice la ln lc) ∧ W.cell? ⟨w.heap.size, 14, none⟩ = some (.slice ga gn gc) ∧ W.cell? ⟨b, off, none⟩ = some (.int .i64 t1) ∧ W.cell? ⟨b, off2, none⟩ = some (.int .i64 t2)) ∧ Z W) ∧
      Hid (∀ W, Z W → Calls Try.prog 14 #[.int .i64 t1] W fun e w' => e = .returned (.agg #[.int .u64 (nn t1), .int .i64 (ss t1), .pointer none]) ∧ Z w') ∧
      Hid (∀ W, Z W → Calls Try.prog 14 #[.int .i64 t2] W fun e w' => e = .returned (.agg #[.int .u64 (nn t2), .int .i64 (ss t2), .pointer none]) ∧ Z w') ∧
      Hid (∀ W, Z W → Calls Try.prog 24 #[lv, .int .i64 5] W fun e w' => e = .returned (.int .i64 p5) ∧ Z w') ∧
      Hid (∀ W, Z W → Calls Try.prog 24 #[lv, .int .i64 50] W fun e w' => e = .returned (.int .i64 p50) ∧ Z w') ∧
      Hid (∀ W, Z W → Calls Try.prog 24 #[lv, .int .i64 95] W fun e w' => e = .returned (.int .i64 p95) ∧ Z w') ∧
      Hid (∀ W, Z W → Calls Try.prog 25 #[.slice la ln lc, lv, .int .i64 1, .int .i64 800] W fun e w' => e = .returned (.bool true) ∧ Z w') ∧
      Hid (∀ W, Z W → Calls Try.prog 25 #[.slice ga gn gc, gv, .int .i64 0, .int .i64 999] W fun e w' => e = .returned (.bool true) ∧ Z w') ∧
      Hid (∀ W, Z W → Below w.heap.size w W) := by
  have hll : (sortZ (lensOf pk)).length ≤ 4096 := by rw [sortZ_length, lensOf_length]; exact hl
  have hgl : (sortZ (gapsOf pk)).length ≤ 4096 := by rw [sortZ_length]; have := gapsOf_length pk; omega
  refine ⟨_, h, fun W hW => hW.later (below_q 1), fun W hW => hW.all, fun W hW => ?_, fun W hW => ?_, fun W hW => ?_, fun W hW => ?_, fun W hW => ?_, fun W hW => ?_, fun W hW => ?_, fun W hW => hW.low⟩
  · refine (f14_any t1 W ht1).mono ?_
    rintro e w1 ⟨rfl, hb⟩
    exact ⟨rfl, hW.later hb⟩
  · refine (f14_any t2 W ht2).mono ?_
    rintro e w1 ⟨rfl, hb⟩
    exact ⟨rfl, hW.later hb⟩
  · refine (f24_rk _ lv pk 5 W hne hl hW.lv (by omega)).mono ?_
    rintro e w1 ⟨rfl, rfl⟩
    exact ⟨by rw [h5], hW⟩
  · refine (f24_rk _ lv pk 50 W hne hl hW.lv (by omega)).mono ?_
    rintro e w1 ⟨rfl, rfl⟩
    exact ⟨by rw [h50], hW⟩
  · refine (f24_rk _ lv pk 95 W hne hl hW.lv (by omega)).mono ?_
    rintro e w1 ⟨rfl, rfl⟩
    exact ⟨by rw [h95], hW⟩
  · refine (f25_true _ _ _ lv (lhist pk) _ 1 800 W hW.lh hW.lv (hist_small_tail _ _) hll (sortZ_sorted _) (lhist_bks pk)).mono ?_
    rintro e w1 ⟨rfl, rfl⟩
    exact ⟨rfl, hW⟩
  · refine (f25_true _ _ _ gv (ghist pk) _ 0 999 W hW.gh hW.gv (hist_small _ _ _ (by omega)) hgl (sortZ_sorted _) (ghist_bks pk)).mono ?_
    rintro e w1 ⟨rfl, rfl⟩
    exact ⟨rfl, hW⟩

theorem held33 : Try.prog.stoodInHeld 33 = false := by kernel_rfl
theorem guard33 : Try.prog.eqGuardType Try.prog.depth 33 = false := by kernel_rfl
theorem fields33 : Try.prog.underlying 33 = some (.struct (Try.prog.fieldsOf 33)) := by kernel_rfl
theorem nil_same (d : Nat) (w : World) : (Op.equalIn (d + 1) 31 (.pointer none) (.pointer none)).run Try.prog w = .ok true w := by
  simp [Op.equalIn, run_underlying Try.underlying31]
theorem tm_same (t : Int) (w : World) : (binOp .eql 33 (.agg #[.int .u64 (nn t), .int .i64 (ss t), .pointer none]) (.agg #[.int .u64 (nn t), .int .i64 (ss t), .pointer none])).run Try.prog w = .ok (.bool true) w := by
  rw [run_eql_struct, run_equalIn_agg w 9999 33 _ _ fields33 held33]
  generalize nn t = x
  generalize ss t = y
  have p1 : ∀ w, (part 30 #[.int .u64 x, .int .i64 y, .pointer none] 0).run Try.prog w = .ok (.int .u64 x) w := fun w => by kernel_rfl
  have p2 : ∀ w, (part 2 #[.int .u64 x, .int .i64 y, .pointer none] 1).run Try.prog w = .ok (.int .i64 y) w := fun w => by kernel_rfl
  have p3 : ∀ w, (part 31 #[.int .u64 x, .int .i64 y, .pointer none] 2).run Try.prog w = .ok (.pointer none) w := fun w => by kernel_rfl
  have q1 : ∀ w, (Op.equalIn 9999 30 (.int .u64 x) (.int .u64 x)).run Try.prog w = .ok true w := fun w => by
    rw [run_equalIn_int w 9998 30 _ _ _ _ Try.underlying30]; simp
  have q2 : ∀ w, (Op.equalIn 9999 2 (.int .i64 y) (.int .i64 y)).run Try.prog w = .ok true w := fun w => by
    rw [run_equalIn_int w 9998 2 _ _ _ _ Try.underlying2]; simp
  have q3 : ∀ w, (Op.equalIn 9999 31 (.pointer none) (.pointer none)).run Try.prog w = .ok true w := nil_same 9998
  simp [Program.fieldsOf, Try.underlying33, Op.eqFields, p1, p2, p3, q1, q2, q3]
end Go.Proofs.Qxb6629007a
