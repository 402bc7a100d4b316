/-
  Seat b6629007a: what window.measure holds in memory: the window, the counts, the lengths over the range.
-/
import Derived.Test.Qxb6629007aCounts
namespace Go.Proofs.Qxb6629007a
open Go.RowKit

/-- A window's fifteen cells. -/
def winArr (num t1 t2 n sum p5 p50 p95 ov : Int) (lh gh : Value) : Array Value :=
  #[.int .i64 num, .int .u64 (nn t1), .int .i64 (ss t1), .pointer none, .int .u64 (nn t2), .int .i64 (ss t2), .pointer none, .int .i64 n, .int .i64 sum, .int .i64 p5, .int .i64 p50, .int .i64 p95, .int .i64 ov, lh, gh]

def zeroWin : Array Value :=
  #[.int .i64 0, .int .u64 0, .int .i64 0, .pointer none, .int .u64 0, .int .i64 0, .pointer none, .int .i64 0, .int .i64 0, .int .i64 0, .int .i64 0, .int .i64 0, .int .i64 0, .slice none 0 0, .slice none 0 0]

/-- What measure holds in memory behind its first four blocks: the result's block, the window's. -/
structure Meas (w0 : World) (num t1 t2 n sum p5 p50 p95 ov : Int) (lh gh : Value) (wr : World) : Prop where
  res : wr.heap[w0.heap.size + 1 + 1]? = some (.cells zeroWin 36 (0, 0))
  win : wr.heap[w0.heap.size + 1 + 1 + 1]? = some (.cells (winArr num t1 t2 n sum p5 p50 p95 ov lh gh) 36 (0, 0))
  bel : Below w0.heap.size w0 wr

/-- Block b holds how often each of 0 .. N-1 stands in xs. -/
def Counted (w : World) (b : Nat) (e : TypeId) (N : Nat) (xs : List Int) : Prop :=
  ∃ cur : Array Value, w.heap[b]? = some (.cells cur e (0, 0)) ∧ cur.size = N ∧ ∀ j, j < N → cur[j]? = some (.int .i64 ((xs.count (j : Int) : Nat) : Int))

theorem Meas.low {w0 : World} {num t1 t2 n sum p5 p50 p95 ov : Int} {lh gh : Value} {wr w1 : World} (h : Meas w0 num t1 t2 n sum p5 p50 p95 ov lh gh wr) (hb : Below (w0.heap.size + 1 + 1 + 1 + 1) wr w1) : Meas w0 num t1 t2 n sum p5 p50 p95 ov lh gh w1 :=
  ⟨by rw [hb.block _ (by omega)]; exact h.res, by rw [hb.block _ (by omega)]; exact h.win, h.bel.trans (hb.mono (by omega))⟩

theorem Counted.low {w w1 : World} {b : Nat} {e : TypeId} {N : Nat} {xs : List Int} (h : Counted w b e N xs) {B : Nat} (hb : Below B w w1) (hlt : b < B) : Counted w1 b e N xs := by
  obtain ⟨cur, h1, h2, h3⟩ := h
  exact ⟨cur, by rw [hb.block b hlt]; exact h1, h2, h3⟩

theorem Counted.size {w : World} {b : Nat} {e : TypeId} {N : Nat} {xs : List Int} (h : Counted w b e N xs) : b < w.heap.size := by
  obtain ⟨cur, h1, _⟩ := h
  exact (Array.getElem?_eq_some_iff.1 h1).1

/-- A store into the window. -/
theorem Meas.set {w0 : World} {num t1 t2 n sum p5 p50 p95 ov : Int} {lh gh : Value} {wr : World} (h : Meas w0 num t1 t2 n sum p5 p50 p95 ov lh gh wr) (k : Nat) (v : Value)
    {num' t1' t2' n' sum' p5' p50' p95' ov' : Int} {lh' gh' : Value} (he : (winArr num t1 t2 n sum p5 p50 p95 ov lh gh).setIfInBounds k v = winArr num' t1' t2' n' sum' p5' p50' p95' ov' lh' gh') :
    Meas w0 num' t1' t2' n' sum' p5' p50' p95' ov' lh' gh' (wr.setCell ⟨w0.heap.size + 1 + 1 + 1, k, none⟩ v) :=
  ⟨by rw [Below.heap_setCell _ _ _ _ (by show _ ≠ w0.heap.size + 1 + 1 + 1; omega)]; exact h.res, by rw [heap_setCell_row h.win, he], h.bel.setCell (by show _ ≤ w0.heap.size + 1 + 1 + 1; omega) _⟩

theorem Counted.setOther {w : World} {b : Nat} {e : TypeId} {N : Nat} {xs : List Int} (h : Counted w b e N xs) {c k : Nat} (hne : b ≠ c) (v : Value) : Counted (w.setCell ⟨c, k, none⟩ v) b e N xs := by
  obtain ⟨cur, h1, h2, h3⟩ := h
  exact ⟨cur, by rw [Below.heap_setCell _ _ _ _ hne]; exact h1, h2, h3⟩

/-- One more. -/
theorem Counted.add {w : World} {b : Nat} {e : TypeId} {N : Nat} {xs : List Int} (h : Counted w b e N xs) {x : Int} (h0 : 0 ≤ x) (hx : x < N) :
    Counted (w.setCell ⟨b, x.toNat, none⟩ (.int .i64 (((xs.count x : Nat) : Int) + 1))) b e N (xs ++ [x]) := by
  obtain ⟨cur, h1, h2, h3⟩ := h
  refine ⟨_, heap_setCell_row h1, by simp [h2], fun j hj => ?_⟩
  rw [Array.getElem?_setIfInBounds]
  by_cases hjx : x.toNat = j
  · have e1 : (j : Int) = x := by omega
    rw [if_pos hjx, if_pos (by omega), List.count_append, e1]
    simp
  · rw [if_neg hjx, h3 j hj, List.count_append]
    have : ([x].count (j : Int)) = 0 := by
      rw [List.count_singleton, if_neg (by simp; omega)]
    rw [this]
    simp

theorem Counted.skip {w : World} {b : Nat} {e : TypeId} {N : Nat} {xs : List Int} (h : Counted w b e N xs) {x : Int} (hx : (N : Int) ≤ x) : Counted w b e N (xs ++ [x]) := by
  obtain ⟨cur, h1, h2, h3⟩ := h
  refine ⟨cur, h1, h2, fun j hj => ?_⟩
  rw [h3 j hj, List.count_append]
  have : ([x].count (j : Int)) = 0 := by
    rw [List.count_singleton, if_neg (by simp; omega)]
  rw [this]
  simp

theorem Counted.cell {w : World} {b : Nat} {e : TypeId} {N : Nat} {xs : List Int} (h : Counted w b e N xs) {x : Int} (h0 : 0 ≤ x) (hx : x < N) :
    w.cell? ⟨b, x.toNat, none⟩ = some (.int .i64 ((xs.count x : Nat) : Int)) ∧ w.frozen? ⟨b, x.toNat, none⟩ = false := by
  obtain ⟨cur, h1, h2, h3⟩ := h
  have := h3 x.toNat (by omega)
  rw [show ((x.toNat : Nat) : Int) = x from by omega] at this
  exact ⟨(row_cell h1).1.trans this, (row_cell h1).2⟩

theorem Counted.row {w : World} {b : Nat} {e : TypeId} {N : Nat} {xs : List Int} (h : Counted w b e N xs) : Row w b 0 .i64 (counts N xs) := by
  obtain ⟨cur, h1, h2, h3⟩ := h
  intro j hj
  rw [counts_length] at hj
  rw [Nat.zero_add, (row_cell h1).1, h3 j hj, counts_get]

theorem Counted.tail {w : World} {b : Nat} {e : TypeId} {N : Nat} {xs : List Int} (h : Counted w b e N xs) : Row w b 1 .i64 (counts N xs).tail := by
  intro j hj
  have hj' : j + 1 < (counts N xs).length := by rw [List.length_tail] at hj; omega
  have := h.row (j + 1) hj'
  rw [show 1 + j = 0 + (j + 1) from by omega, this]
  simp

theorem overs_snoc (xs : List Int) (x : Int) : overs (xs ++ [x]) = overs xs ++ (if 800 < x then [x] else []) := by
  rw [overs, overs, List.filter_append]
  by_cases h : 800 < x
  · simp [h]
  · simp [h]

theorem zero80 : Try.zeroCells80 = Array.replicate 801 (.int .i64 0) := by kernel_rfl
theorem zero85 : Try.zeroCells85 = Array.replicate 1000 (.int .i64 0) := by kernel_rfl

theorem counted_start {w : World} {b : Nat} {e : TypeId} {N : Nat} {c : Array Value} (hc : c = Array.replicate N (.int .i64 0)) (h : w.heap[b]? = some (.cells c e (0, 0))) : Counted w b e N [] := by
  subst hc
  refine ⟨_, h, by simp, fun j hj => ?_⟩
  rw [Array.getElem?_replicate, if_pos hj]
  rfl

theorem u32_cell {w : World} {base g cap : Nat} {lens : List Int} (h : w.ownsRow base 68 1 (.slice (some ⟨g, 0, none⟩) lens.length cap) lens.length (lens.map (Value.int .u32))) {k : Nat} (hk : k < lens.length) :
    w.cell? ⟨g, k, none⟩ = some (.int .u32 lens[k]) ∧ g < w.heap.size := by
  refine ⟨?_, (h.lt g rfl).2⟩
  have := h.cells (g := g) rfl k (.int .u32 lens[k]) (by rw [List.getElem?_map, List.getElem?_eq_getElem hk]; rfl)
  rwa [show (⟨g, 0, none⟩ : Addr).add k = ⟨g, k, none⟩ from by unfold Addr.add; split <;> simp_all] at this

/-- The state of the first loop. -/
structure Loop1 (w0 : World) (num t1 t2 n : Int) (xs : List Int) (v : Value) (wr : World) : Prop where
  meas : Meas w0 num t1 t2 n xs.sum 0 0 0 0 (.slice none 0 0) (.slice none 0 0) wr
  cnt : Counted wr (w0.heap.size + 1 + 1 + 1 + 1) 80 801 xs
  own : wr.ownsRow (w0.heap.size + 5) 3 1 v (overs xs).length ((overs xs).map (Value.int .i64))

theorem Loop1.size {w0 : World} {num t1 t2 n : Int} {xs : List Int} {v : Value} {wr : World} (h : Loop1 w0 num t1 t2 n xs v wr) : w0.heap.size + 5 ≤ wr.heap.size := by
  have := h.cnt.size; omega

theorem Loop1.cells {w0 : World} {num t1 t2 n : Int} {xs : List Int} {v : Value} {wr : World} (h : Loop1 w0 num t1 t2 n xs v wr) :
    wr.cell? ⟨w0.heap.size + 1 + 1 + 1, 8, none⟩ = some (.int .i64 xs.sum) ∧ wr.frozen? ⟨w0.heap.size + 1 + 1 + 1, 8, none⟩ = false := ⟨(row_cell h.meas.win).1, (row_cell h.meas.win).2⟩

theorem setSum {num t1 t2 n s s' p5 p50 p95 ov : Int} {lh gh : Value} : (winArr num t1 t2 n s p5 p50 p95 ov lh gh).setIfInBounds 8 (.int .i64 s') = winArr num t1 t2 n s' p5 p50 p95 ov lh gh := rfl

/-- A round that counts. -/
theorem Loop1.low {w0 : World} {num t1 t2 n : Int} {xs : List Int} {v : Value} {wr : World} (h : Loop1 w0 num t1 t2 n xs v wr) {x : Int} (h0 : 0 ≤ x) (hx : x ≤ 800) {s : Int} (hs : s = xs.sum + x) {c : Int} (hc : c = ((xs.count x : Nat) : Int)) :
    Loop1 w0 num t1 t2 n (xs ++ [x]) v ((wr.setCell ⟨w0.heap.size + 1 + 1 + 1, 8, none⟩ (.int .i64 s)).setCell ⟨w0.heap.size + 1 + 1 + 1 + 1, x.toNat, none⟩ (.int .i64 (c + 1))) := by
  subst hc
  have e1 : (xs ++ [x]).sum = s := by rw [List.sum_append, hs]; simp
  have hb : Below (w0.heap.size + 1 + 1 + 1 + 1) (wr.setCell ⟨w0.heap.size + 1 + 1 + 1, 8, none⟩ (.int .i64 s)) ((wr.setCell ⟨w0.heap.size + 1 + 1 + 1, 8, none⟩ (.int .i64 s)).setCell ⟨w0.heap.size + 1 + 1 + 1 + 1, x.toNat, none⟩ (.int .i64 (((xs.count x : Nat) : Int) + 1))) :=
    (Below.refl _ _).setCell (by show _ ≤ w0.heap.size + 1 + 1 + 1 + 1; omega) _
  refine ⟨(by rw [e1]; exact (h.meas.set 8 (.int .i64 s) setSum).low hb), (h.cnt.setOther (by omega) _).add h0 (by omega), ?_⟩
  rw [overs_snoc, if_neg (by omega), List.append_nil]
  exact ownsRow_setCell_below (ownsRow_setCell_below h.own (by show w0.heap.size + 1 + 1 + 1 < _; omega) _) (by show w0.heap.size + 1 + 1 + 1 + 1 < _; omega) _

/-- A round that lists. -/
theorem Loop1.high {w0 : World} {num t1 t2 n : Int} {xs : List Int} {v v' : Value} {wr w1 : World} (h : Loop1 w0 num t1 t2 n xs v wr) {x : Int} (hx : 800 < x) {s : Int} (hs : s = xs.sum + x) {o : Obj}
    (hown : w1.ownsRow (w0.heap.size + 5) 3 1 v' ((overs xs).length + 1) ((overs xs).map (Value.int .i64) ++ [.int .i64 x])) (hg : ((wr.setCell ⟨w0.heap.size + 1 + 1 + 1, 8, none⟩ (.int .i64 s)).alloc o).grownBy w1 v.ownBlock) :
    Loop1 w0 num t1 t2 n (xs ++ [x]) v' w1 := by
  have e1 : (xs ++ [x]).sum = s := by rw [List.sum_append, hs]; simp
  have hsz := h.size
  have hsz2 : (wr.setCell ⟨w0.heap.size + 1 + 1 + 1, 8, none⟩ (.int .i64 s)).heap.size = wr.heap.size := by simp
  have hb : Below (w0.heap.size + 5) (wr.setCell ⟨w0.heap.size + 1 + 1 + 1, 8, none⟩ (.int .i64 s)) w1 :=
    ((Below.refl _ _).alloc (by omega) o).grown hg (by rw [World.size_alloc]; omega) (fun k hk => (h.own.lt k hk).1)
  refine ⟨(by rw [e1]; exact (h.meas.set 8 (.int .i64 s) setSum).low (hb.mono (by omega))), ((h.cnt.setOther (by omega) _).low hb (by omega)).skip (by omega), ?_⟩
  rw [overs_snoc, if_pos hx, List.map_append, List.length_append]
  exact hown
end Go.Proofs.Qxb6629007a
