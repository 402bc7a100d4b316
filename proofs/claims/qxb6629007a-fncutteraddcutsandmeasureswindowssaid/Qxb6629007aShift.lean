/-
  Seat b6629007a: zzSameBuckets and zzShifted, walked, at two windows that differ by the shift alone.
-/
import Derived.Test.Qxb6629007aCnt
namespace Go.Proofs.Qxb6629007a
open Go.RowKit

theorem bucket_get (h : List (Int × Int)) : ∀ k (hk : k < h.length), (bucketCells h)[k * 2]? = some (.int .i64 h[k].1) ∧ (bucketCells h)[k * 2 + 1]? = some (.int .i64 h[k].2) := by
  induction h with
  | nil => intro k hk; simp at hk
  | cons a l ih =>
    intro k hk
    have e : bucketCells (a :: l) = Value.int .i64 a.1 :: Value.int .i64 a.2 :: bucketCells l := rfl
    rw [e]
    match k with
    | 0 => exact ⟨rfl, rfl⟩
    | k + 1 =>
      have := ih k (by simpa using hk)
      rw [show (k + 1) * 2 = k * 2 + 1 + 1 from by omega]
      simpa using this

/-- A row of buckets: its three words, and where bucket k lies. -/
theorem bucket_at {w : World} {base : Nat} {v : Value} {h : List (Int × Int)} (ho : w.ownsRow base 71 2 v h.length (bucketCells h)) : ∃ ao cap g, v = .slice ao h.length cap ∧
    ∀ k (hk : k < h.length), (∀ W : World, (Instr.indexAt 34 (.slice ao h.length cap) (.int .i64 (k : Int))).run Try.prog W = .ok (.pointer (some ⟨g, k * 2, none⟩)) W) ∧ w.cell? ⟨g, k * 2, none⟩ = some (.int .i64 h[k].1) ∧ w.cell? ⟨g, k * 2 + 1, none⟩ = some (.int .i64 h[k].2) := by
  rcases ho.2 with ⟨h1, h2⟩ | ⟨g, cap, cur, h1, h2, h3, h4, h5, h6, h7⟩
  · exact ⟨none, 0, 0, by rw [h1, h2], fun k hk => absurd hk (by omega)⟩
  · subst h1
    have hget : ∀ j, j < h.length * 2 → w.cell? ⟨g, j, none⟩ = (bucketCells h)[j]? := fun j hj => by
      rw [(row_cell h3).1, ← h7, List.getElem?_take_of_lt hj, Array.getElem?_toList]
    refine ⟨_, cap, g, rfl, fun k hk => ⟨fun W => ?_, ?_, ?_⟩⟩
    · simp [Instr.indexAt, run_underlying Try.underlying34, asIntOf, hk, Addr.add]
      intro h0; omega
    · rw [hget _ (by omega)]; exact (bucket_get h k hk).1
    · rw [hget _ (by omega)]; exact (bucket_get h k hk).2

set_option maxRecDepth 100000 in
set_option maxHeartbeats 1000000 in
theorem f26_same (b1 b2 : Nat) (x y : Value) (h : List (Int × Int)) (w : World) (hx : w.ownsRow b1 71 2 x h.length (bucketCells h)) (hy : w.ownsRow b2 71 2 y h.length (bucketCells h)) (hl : h.length ≤ 1000) :
    Calls Try.prog 26 #[x, y] w fun e w' => e = .returned (.bool true) ∧ ∃ q, w' = w.drewN q := by
  obtain ⟨xa, xc, xg, rfl, hxr⟩ := bucket_at hx
  obtain ⟨ya, yc, yg, rfl, hyr⟩ := bucket_at hy
  obtain ⟨L, hL⟩ : ∃ L, L = h.length := ⟨_, rfl⟩
  have HL : Hid (L = h.length) := hL
  have HX : Hid (∀ k (hk : k < h.length), (∀ W : World, (Instr.indexAt 34 (.slice xa L xc) (.int .i64 (k : Int))).run Try.prog W = .ok (.pointer (some ⟨xg, k * 2, none⟩)) W) ∧ w.cell? ⟨xg, k * 2, none⟩ = some (.int .i64 h[k].1) ∧ w.cell? ⟨xg, k * 2 + 1, none⟩ = some (.int .i64 h[k].2)) := by rw [Hid, hL]; exact hxr
  have HY : Hid (∀ k (hk : k < h.length), (∀ W : World, (Instr.indexAt 34 (.slice ya L yc) (.int .i64 (k : Int))).run Try.prog W = .ok (.pointer (some ⟨yg, k * 2, none⟩)) W) ∧ w.cell? ⟨yg, k * 2, none⟩ = some (.int .i64 h[k].1) ∧ w.cell? ⟨yg, k * 2 + 1, none⟩ = some (.int .i64 h[k].2)) := by rw [Hid, hL]; exact hyr
  rw [← hL] at hl ⊢
  clear hxr hyr hx hy hL
  have hne : ((L : Int) != (L : Int)) = false := by simp
  go_enter Try.func26, Try.ntmps26
  go_wp2
  go_loopw [5] (fun i wr => ∃ k : Nat, k ≤ L ∧ i = .int .i64 k ∧ ∃ q, wr = w.drewN q) (fun i _ => L - (intOf i).toNat)
  case atStart => exact ⟨0, Nat.zero_le _, rfl, 0, rfl⟩
  case round =>
    obtain ⟨k, hk, rfl, q, rfl⟩ := hrel
    by_cases hkl : k < L
    · have hkh : k < h.length := by rw [← HL.out]; exact hkl
      obtain ⟨x1, x2, x3⟩ := HX.out k hkh
      obtain ⟨y1, y2, y3⟩ := HY.out k hkh
      generalize h[k] = z at *
      obtain ⟨A, B⟩ := z
      have hA : (A != A) = false := by simp
      have hB : (B != B) = false := by simp
      go_wp2_with fail
      go_quiet (fail)
      go_wp2
      exact ⟨⟨k + 1, by omega, by go_num, _, rfl⟩, by simp [intOf]; omega⟩
    · have hkl' : decide ((k : Int) < (L : Int)) = false := decide_eq_false (by omega)
      go_wp2
      go_ret
      exact ⟨rfl, _, rfl⟩

theorem clamp_id {x : Int} (h : -9223372036854775808 ≤ x ∧ x < 9223372036854775808) : clampI x = x := by
  unfold clampI
  rw [if_neg (by omega), if_neg (by omega)]

theorem hist_small (N : Nat) (lo : Int) (xs : List Int) (h : N ≤ 1000) : (hist lo (counts N xs)).length ≤ 1000 := by
  have := hist_length lo (counts N xs)
  rw [counts_length] at this
  omega

theorem hist_small_tail (lo : Int) (xs : List Int) : (hist lo (counts 801 xs).tail).length ≤ 1000 := by
  have := hist_length lo (counts 801 xs).tail
  rw [List.length_tail, counts_length] at this
  omega

set_option maxRecDepth 100000 in
set_option maxHeartbeats 2000000 in
theorem f11_same (b1 b2 : Nat) (num t1 t2 n sum p5 p50 p95 ov d : Int) (lh gh lh' gh' : Value) (L G : List (Int × Int)) (w : World) (h1 : w.ownsRow b1 71 2 lh L.length (bucketCells L)) (h2 : w.ownsRow b1 71 2 gh G.length (bucketCells G))
    (h3 : w.ownsRow b2 71 2 lh' L.length (bucketCells L)) (h4 : w.ownsRow b2 71 2 gh' G.length (bucketCells G)) (hL : L.length ≤ 1000) (hG : G.length ≤ 1000)
    (ht1 : -9223372036854775808 ≤ t1 ∧ t1 < 9223372036854775808) (ht2 : -9223372036854775808 ≤ t2 ∧ t2 < 9223372036854775808) (hd1 : -9223372036854775808 ≤ t1 + d ∧ t1 + d < 9223372036854775808) (hd2 : -9223372036854775808 ≤ t2 + d ∧ t2 + d < 9223372036854775808)
    (hd : -9223372036854775808 ≤ d ∧ d < 9223372036854775808) :
    Calls Try.prog 11 #[.agg (winArr num t1 t2 n sum p5 p50 p95 ov lh gh), .agg (winArr num (t1 + d) (t2 + d) n sum p5 p50 p95 ov lh' gh'), .int .i64 d] w fun e w' => e = .returned (.bool true) ∧ Below w.heap.size w w' := by
  have g1 := clamp_id hd
  have k27 : ∀ W, Calls Try.prog 27 #[tm (t1 + d), tm t1] W fun e w' => e = .returned (.int .i64 d) ∧ Below W.heap.size W w' := fun W => by
    have := f27_any (t1 + d) t1 W hd1 ht1
    rwa [show t1 + d - t1 = d from by omega, g1] at this
  have k27b : ∀ W, Calls Try.prog 27 #[tm (t2 + d), tm t2] W fun e w' => e = .returned (.int .i64 d) ∧ Below W.heap.size W w' := fun W => by
    have := f27_any (t2 + d) t2 W hd2 ht2
    rwa [show t2 + d - t2 = d from by omega, g1] at this
  obtain ⟨la, ln, lc, rfl⟩ : ∃ a n c, lh = .slice a n c := by
    rcases h1.2 with ⟨h, _⟩ | ⟨_, _, _, h, _⟩ <;> exact ⟨_, _, _, h⟩
  obtain ⟨ga, gn, gc, rfl⟩ : ∃ a n c, gh = .slice a n c := by
    rcases h2.2 with ⟨h, _⟩ | ⟨_, _, _, h, _⟩ <;> exact ⟨_, _, _, h⟩
  obtain ⟨la', ln', lc', rfl⟩ : ∃ a n c, lh' = .slice a n c := by
    rcases h3.2 with ⟨h, _⟩ | ⟨_, _, _, h, _⟩ <;> exact ⟨_, _, _, h⟩
  obtain ⟨ga', gn', gc', rfl⟩ : ∃ a n c, gh' = .slice a n c := by
    rcases h4.2 with ⟨h, _⟩ | ⟨_, _, _, h, _⟩ <;> exact ⟨_, _, _, h⟩
  rw [winArr, winArr]
  go_enter Try.func11, Try.ntmps11
  go_wp2_with fail
  refine (f26_same b1 b2 _ _ L _ ((h1.alloc _).alloc _) ((h3.alloc _).alloc _) hL).mono ?_
  rintro e w2 ⟨rfl, q, rfl⟩
  go_wp2_with fail
  refine (f26_same b1 b2 _ _ G _ (owns_later ((h2.alloc _).alloc _) (below_q q)) (owns_later ((h4.alloc _).alloc _) (below_q q)) hG).mono ?_
  rintro e w3 ⟨rfl, q3, rfl⟩
  go_wp2_with fail
  refine (k27 _).mono ?_
  rintro e w4 ⟨rfl, hB4⟩
  obtain ⟨W0, hW0⟩ : ∃ W0, W0 = ((w.alloc (Obj.cells (winArr num t1 t2 n sum p5 p50 p95 ov (.slice la ln lc) (.slice ga gn gc)) 36)).alloc (Obj.cells (winArr num (t1 + d) (t2 + d) n sum p5 p50 p95 ov (.slice la' ln' lc') (.slice ga' gn' gc')) 36)) := ⟨_, rfl⟩
  have r1 : W0.heap[w.heap.size]? = some (.cells (winArr num t1 t2 n sum p5 p50 p95 ov (.slice la ln lc) (.slice ga gn gc)) 36 (0, 0)) := by rw [hW0]; exact alloc2_row _ _ _ _
  have r2 : W0.heap[w.heap.size + 1]? = some (.cells (winArr num (t1 + d) (t2 + d) n sum p5 p50 p95 ov (.slice la' ln' lc') (.slice ga' gn' gc')) 36 (0, 0)) := by
    rw [hW0, heap_alloc_get, World.size_alloc, if_pos rfl]
  have hs0 : W0.heap.size = w.heap.size + 2 := by rw [hW0]; simp only [World.size_alloc]
  have hB5 : Below W0.heap.size W0 w4 := by rw [hW0]; exact (below_q (q + q3)).trans hB4
  have hB6 : Below w.heap.size w w4 := by
    refine Below.trans (b := W0) ?_ (hB5.mono (by omega))
    rw [hW0]; exact below_two _ _ _
  have s1 := below_row hB5 (by omega) r1
  have s2 := below_row hB5 (by omega) r2
  clear hB5 hB4 r1 r2 hs0 hW0 W0
  have a4 : w4.cell? ⟨w.heap.size, 4, none⟩ = some (.int .u64 (nn t2)) := (row_cell s1).1
  have a5 : w4.cell? ⟨w.heap.size, 5, none⟩ = some (.int .i64 (ss t2)) := (row_cell s1).1
  have a6 : w4.cell? ⟨w.heap.size, 6, none⟩ = some (.pointer none) := (row_cell s1).1
  have d4 : w4.cell? ⟨w.heap.size + 1, 4, none⟩ = some (.int .u64 (nn (t2 + d))) := (row_cell s2).1
  have d5 : w4.cell? ⟨w.heap.size + 1, 5, none⟩ = some (.int .i64 (ss (t2 + d))) := (row_cell s2).1
  have d6 : w4.cell? ⟨w.heap.size + 1, 6, none⟩ = some (.pointer none) := (row_cell s2).1
  clear s1 s2
  go_wp2_with fail
  refine (k27b _).mono ?_
  rintro e w5 ⟨rfl, hB7⟩
  go_wp2
  go_ret
  exact ⟨rfl, below_then hB6 hB7⟩
end Go.Proofs.Qxb6629007a
