/-
  Seat b6629007a: what window.measure holds behind its first loop; nearestRank at it.
-/
import Derived.Test.Qxb6629007aMeas0
namespace Go.Proofs.Qxb6629007a
open Go.RowKit

theorem owns_later {w w' : World} {base : Nat} {e : TypeId} {size : Nat} {v : Value} {n : Nat} {xs : List Value} (h : w.ownsRow base e size v n xs) (hb : Below w.heap.size w w') : w'.ownsRow base e size v n xs := by
  refine ⟨h.1, ?_⟩
  rcases h.2 with hn | ⟨g, cap, cur, rfl, hg, hh, r⟩
  · exact .inl hn
  · exact .inr ⟨g, cap, cur, rfl, hg, by rw [hb.block g (Array.getElem?_eq_some_iff.1 hh).1]; exact hh, r⟩

theorem owns_mono {w : World} {base base' : Nat} {e : TypeId} {size : Nat} {v : Value} {n : Nat} {xs : List Value} (h : w.ownsRow base e size v n xs) (hb : base' ≤ base) : w.ownsRow base' e size v n xs := by
  refine ⟨h.1, ?_⟩
  rcases h.2 with hn | ⟨g, cap, cur, rfl, hg, r⟩
  · exact .inl hn
  · exact .inr ⟨g, cap, cur, rfl, by omega, r⟩

/-- A block of another element type is not the row's. -/
theorem owns_ne {w : World} {base : Nat} {e e' : TypeId} {size : Nat} {v : Value} {n : Nat} {xs : List Value} (h : w.ownsRow base e size v n xs) {b : Nat} {c : Array Value} {fr : Nat × Nat} (hb : w.heap[b]? = some (.cells c e' fr)) (hne : e ≠ e') : v.ownBlock ≠ some b := by
  intro hv
  rcases h.2 with ⟨rfl, _⟩ | ⟨g, cap, cur, rfl, hg, hh, r⟩
  · cases hv
  · have : g = b := by simpa [Value.ownBlock] using hv
    subst this
    rw [hh] at hb
    cases hb
    exact hne rfl

structure Done (w0 : World) (num t1 t2 n sum p5 p50 p95 ov : Int) (lh gh : Value) (xs : List Int) (v : Value) (wr : World) : Prop where
  meas : Meas w0 num t1 t2 n sum p5 p50 p95 ov lh gh wr
  cnt : Counted wr (w0.heap.size + 1 + 1 + 1 + 1) 80 801 xs
  own : wr.ownsRow (w0.heap.size + 5) 3 1 v (overs xs).length ((sortZ (overs xs)).map (Value.int .i64))

section
variable {w0 : World} {num t1 t2 n sum p5 p50 p95 ov : Int} {lh gh : Value} {xs : List Int} {v : Value} {wr : World}

theorem Loop1.sorted (h : Loop1 w0 num t1 t2 n xs v wr) {w1 : World} (hown : w1.ownsRow (w0.heap.size + 5) 3 1 v (overs xs).length ((sortZ (overs xs)).map (Value.int .i64))) (hg : wr.grownBy w1 v.ownBlock) :
    Done w0 num t1 t2 n xs.sum 0 0 0 0 (.slice none 0 0) (.slice none 0 0) xs v w1 := by
  have hb : Below (w0.heap.size + 5) wr w1 := (Below.refl _ _).grown hg h.size (fun k hk => (h.own.lt k hk).1)
  exact ⟨h.meas.low (hb.mono (by omega)), h.cnt.low hb (by omega), hown⟩

theorem Done.later (h : Done w0 num t1 t2 n sum p5 p50 p95 ov lh gh xs v wr) {w1 : World} (hb : Below wr.heap.size wr w1) : Done w0 num t1 t2 n sum p5 p50 p95 ov lh gh xs v w1 := by
  have hs := h.cnt.size
  exact ⟨h.meas.low (hb.mono (by omega)), h.cnt.low hb (by omega), owns_later h.own hb⟩

theorem Done.set (h : Done w0 num t1 t2 n sum p5 p50 p95 ov lh gh xs v wr) (k : Nat) (u : Value)
    {num' t1' t2' n' sum' p5' p50' p95' ov' : Int} {lh' gh' : Value} (he : (winArr num t1 t2 n sum p5 p50 p95 ov lh gh).setIfInBounds k u = winArr num' t1' t2' n' sum' p5' p50' p95' ov' lh' gh') :
    Done w0 num' t1' t2' n' sum' p5' p50' p95' ov' lh' gh' xs v (wr.setCell ⟨w0.heap.size + 1 + 1 + 1, k, none⟩ u) :=
  ⟨h.meas.set k u he, h.cnt.setOther (by omega) _, ownsRow_setCell_below h.own (by show w0.heap.size + 1 + 1 + 1 < _; omega) _⟩

/-- The window's cells are there. -/
theorem Meas.at (h : Meas w0 num t1 t2 n sum p5 p50 p95 ov lh gh wr) (k : Nat) : wr.cell? ⟨w0.heap.size + 1 + 1 + 1, k, none⟩ = (winArr num t1 t2 n sum p5 p50 p95 ov lh gh)[k]? ∧ wr.frozen? ⟨w0.heap.size + 1 + 1 + 1, k, none⟩ = false := row_cell h.win

theorem Done.cell (h : Done w0 num t1 t2 n sum p5 p50 p95 ov lh gh xs v wr) (k : Nat) {u : Value} (hu : (winArr num t1 t2 n sum p5 p50 p95 ov lh gh)[k]? = some u) :
    wr.cell? ⟨w0.heap.size + 1 + 1 + 1, k, none⟩ = some u ∧ wr.frozen? ⟨w0.heap.size + 1 + 1 + 1, k, none⟩ = false := ⟨(row_cell h.meas.win).1.trans hu, (row_cell h.meas.win).2⟩
end

theorem setOv {num t1 t2 n s p5 p50 p95 ov ov' : Int} {lh gh : Value} : (winArr num t1 t2 n s p5 p50 p95 ov lh gh).setIfInBounds 12 (.int .i64 ov') = winArr num t1 t2 n s p5 p50 p95 ov' lh gh := rfl
theorem setP5 {num t1 t2 n s p5 p5' p50 p95 ov : Int} {lh gh : Value} : (winArr num t1 t2 n s p5 p50 p95 ov lh gh).setIfInBounds 9 (.int .i64 p5') = winArr num t1 t2 n s p5' p50 p95 ov lh gh := rfl
theorem setP50 {num t1 t2 n s p5 p50 p50' p95 ov : Int} {lh gh : Value} : (winArr num t1 t2 n s p5 p50 p95 ov lh gh).setIfInBounds 10 (.int .i64 p50') = winArr num t1 t2 n s p5 p50' p95 ov lh gh := rfl
theorem setP95 {num t1 t2 n s p5 p50 p95 p95' ov : Int} {lh gh : Value} : (winArr num t1 t2 n s p5 p50 p95 ov lh gh).setIfInBounds 11 (.int .i64 p95') = winArr num t1 t2 n s p5 p50 p95' ov lh gh := rfl
theorem setLh {num t1 t2 n s p5 p50 p95 ov : Int} {lh lh' gh : Value} : (winArr num t1 t2 n s p5 p50 p95 ov lh gh).setIfInBounds 13 lh' = winArr num t1 t2 n s p5 p50 p95 ov lh' gh := rfl
theorem setGh {num t1 t2 n s p5 p50 p95 ov : Int} {lh gh gh' : Value} : (winArr num t1 t2 n s p5 p50 p95 ov lh gh).setIfInBounds 14 gh' = winArr num t1 t2 n s p5 p50 p95 ov lh gh' := rfl

/-- window.nearestRank at the counts and the sorted rest. -/
theorem rank_call {w0 : World} {num t1 t2 n sum p5 p50 p95 ov : Int} {lh gh : Value} {xs : List Int} {v : Value} {wr : World} (h : Done w0 num t1 t2 n sum p5 p50 p95 ov lh gh xs v wr) (p : Int) (hp : 1 ≤ p ∧ p ≤ 100) (hne : xs ≠ []) (hlen : xs.length ≤ 4096) (hx : ∀ x ∈ xs, 0 ≤ x) :
    Calls Try.prog 40 #[.pointer (some ⟨w0.heap.size + 1 + 1 + 1 + 1, 0, none⟩), v, .int .i64 (xs.length : Int), .int .i64 p] wr fun e w' => e = .returned (.int .i64 (rk xs p)) ∧ ∃ q, w' = wr.drewN q := by
  have hpos := List.length_pos_iff.2 hne
  have hall := all_counted xs hx
  have hm0 : 1 ≤ p * xs.length := by
    calc (1 : Int) = 1 * 1 := by decide
      _ ≤ p * xs.length := Int.mul_le_mul hp.1 (by omega) (by decide) (by omega)
  have hm1 : p * xs.length ≤ 100 * xs.length := Int.mul_le_mul_of_nonneg_right hp.2 (by omega)
  have hown := h.own
  rw [← sortZ_length] at hown
  refine (f40_any _ (w0.heap.size + 5) v (counts 801 xs) (sortZ (overs xs)) xs.length p ((p * xs.length + 99).tdiv 100) wr h.cnt.row (counts_length _ _) hown ⟨by omega, by omega⟩ ⟨by omega, by omega⟩ rfl ?_ ?_ (fun c hc => ?_)).mono ?_
  · rw [Int.tdiv_eq_ediv_of_nonneg (by omega)]; omega
  · rw [Int.tdiv_eq_ediv_of_nonneg (by omega), sortZ_length, hall]; omega
  · have := counts_bound hc; omega
  · rintro e w' ⟨r, rfl, hr, q, rfl⟩
    exact ⟨by rw [rk_of hne hp.1 hr], q, rfl⟩
end Go.Proofs.Qxb6629007a
