/-
  Seat b6629007a: what each statement of (*Cutter).Add does to the cutter in memory.
-/
import Derived.Test.Qxb6629007aAdd0
namespace Go.Proofs.Qxb6629007a
open Go.RowKit

/-- What a row's growing leaves alone. -/
theorem kept_grown {base : Nat} {w w1 : World} {e0 : TypeId} {v0 : Value} {n0 : Nat} {vs : List Value} (h0 : w.ownsRow base e0 1 v0 n0 vs) (hg : w.grownBy w1 v0.ownBlock)
    {e : TypeId} {v : Value} {n : Nat} {sz : Nat} {us : List Value} (ho : w.ownsRow base e sz v n us) (he : e ≠ e0) : w1.ownsRow base e sz v n us := by
  refine ho.kept hg ?_
  rcases h0.2 with ⟨rfl, _⟩ | ⟨g, cap, cur, rfl, _, hgg, _⟩
  · cases hv : v.ownBlock with
    | none => exact .inl rfl
    | some b => exact .inr (by simp [Value.ownBlock])
  · exact .inr (owns_ne ho hgg he)

section
variable {base bc : Nat} {P M I d num f l : Int} {xs ys : List Int} {K : List Kept} {KH : List (Kept × Value × Value)} {lv gv kv : Value} {w : World}

/-- Whatever is written into the cutter's own block leaves its rows alone. -/
theorem CutAt.rows (h : CutAt base bc P M I d num f l xs ys K KH lv gv kv w) (k : Nat) (u : Value) :
    (w.setCell ⟨bc, k, none⟩ u).ownsRow base 68 1 lv xs.length (xs.map (Value.int .u32)) ∧ (w.setCell ⟨bc, k, none⟩ u).ownsRow base 67 1 gv ys.length (ys.map (Value.int .u16)) ∧ KeptAt base d K KH kv (w.setCell ⟨bc, k, none⟩ u) :=
  ⟨ownsRow_setCell_other h.lens (owns_ne h.lens h.block (by decide)) u, ownsRow_setCell_other h.gaps (owns_ne h.gaps h.block (by decide)) u, h.kept.setCell h.block (by decide) (by decide) u⟩

theorem rows_set {c : Array Value} (hb : w.heap[bc]? = some (.cells c 66 (0, 0))) (h1 : w.ownsRow base 68 1 lv xs.length (xs.map (Value.int .u32))) (h2 : w.ownsRow base 67 1 gv ys.length (ys.map (Value.int .u16))) (h3 : KeptAt base d K KH kv w) (k : Nat) (u : Value) :
    (w.setCell ⟨bc, k, none⟩ u).heap[bc]? = some (.cells (c.setIfInBounds k u) 66 (0, 0)) ∧ (w.setCell ⟨bc, k, none⟩ u).ownsRow base 68 1 lv xs.length (xs.map (Value.int .u32)) ∧ (w.setCell ⟨bc, k, none⟩ u).ownsRow base 67 1 gv ys.length (ys.map (Value.int .u16)) ∧ KeptAt base d K KH kv (w.setCell ⟨bc, k, none⟩ u) :=
  ⟨heap_setCell_row hb, ownsRow_setCell_other h1 (owns_ne h1 hb (by decide)) u, ownsRow_setCell_other h2 (owns_ne h2 hb (by decide)) u, h3.setCell hb (by decide) (by decide) u⟩

/-- 'c.first = t' -/
theorem CutAt.setFirst (h : CutAt base bc P M I d num f l xs ys K KH lv gv kv w) (t : Int) :
    CutAt base bc P M I d num t l xs ys K KH lv gv kv (((w.setCell ⟨bc, 4, none⟩ (.int .u64 (nn t))).setCell ⟨bc, 5, none⟩ (.int .i64 (ss t))).setCell ⟨bc, 6, none⟩ (.pointer none)) := by
  obtain ⟨a1, a2, a3, a4⟩ := rows_set h.block h.lens h.gaps h.kept 4 (.int .u64 (nn t))
  obtain ⟨b1, b2, b3, b4⟩ := rows_set a1 a2 a3 a4 5 (.int .i64 (ss t))
  obtain ⟨e1, e2, e3, e4⟩ := rows_set b1 b2 b3 b4 6 (.pointer none)
  exact ⟨e1, e2, e3, e4⟩

/-- 'c.last = t' -/
theorem CutAt.setLast (h : CutAt base bc P M I d num f l xs ys K KH lv gv kv w) (t : Int) :
    CutAt base bc P M I d num f t xs ys K KH lv gv kv (((w.setCell ⟨bc, 9, none⟩ (.int .u64 (nn t))).setCell ⟨bc, 10, none⟩ (.int .i64 (ss t))).setCell ⟨bc, 11, none⟩ (.pointer none)) := by
  obtain ⟨a1, a2, a3, a4⟩ := rows_set h.block h.lens h.gaps h.kept 9 (.int .u64 (nn t))
  obtain ⟨b1, b2, b3, b4⟩ := rows_set a1 a2 a3 a4 10 (.int .i64 (ss t))
  obtain ⟨e1, e2, e3, e4⟩ := rows_set b1 b2 b3 b4 11 (.pointer none)
  exact ⟨e1, e2, e3, e4⟩

theorem CutAt.setNum (h : CutAt base bc P M I d num f l xs ys K KH lv gv kv w) (n : Int) : CutAt base bc P M I d n f l xs ys K KH lv gv kv (w.setCell ⟨bc, 3, none⟩ (.int .i64 n)) := h.set 3 _ rfl

/-- 'c.lengths = append(c.lengths, x)' -/
theorem lens_step (h : CutAt base bc P M I d num f l xs ys K KH lv gv kv w) (hbc : base ≤ bc) {o : Obj} {w1 : World} {x : Int} {v : Value} (hown : w1.ownsRow base 68 1 v (xs.length + 1) (xs.map (Value.int .u32) ++ [.int .u32 x])) (hg : (w.alloc o).grownBy w1 lv.ownBlock) :
    (w1.cell? ⟨bc, 7, none⟩ = some lv ∧ w1.frozen? ⟨bc, 7, none⟩ = false) ∧ CutAt base bc P M I d num f l (xs ++ [x]) ys K KH v gv kv (w1.setCell ⟨bc, 7, none⟩ v) ∧ Below base w (w1.setCell ⟨bc, 7, none⟩ v) ∧ Keep33 w (w1.setCell ⟨bc, 7, none⟩ v) := by
  have hbw : base ≤ w.heap.size := Nat.le_trans hbc (Nat.le_of_lt h.size)
  have hc := h.later ((Below.refl _ _).alloc (Nat.le_refl _) o)
  have hblk : w1.heap[bc]? = some (.cells (cutArr P M I num f l lv gv kv) 66 (0, 0)) := by
    rw [hg.block bc hc.size (fun e => owns_ne hc.lens hc.block (by decide) e.symm)]; exact hc.block
  have hk : KeptAt base d K KH kv w1 := ⟨h.kept.names, kept_grown hc.lens hg hc.kept.own (by decide), fun y hy => ⟨kept_grown hc.lens hg (hc.kept.rows y hy).1 (by decide), kept_grown hc.lens hg (hc.kept.rows y hy).2 (by decide)⟩⟩
  have hgp := kept_grown hc.lens hg hc.gaps (by decide)
  have hown2 : w1.ownsRow base 68 1 v (xs ++ [x]).length ((xs ++ [x]).map (Value.int .u32)) := by rw [List.length_append, List.map_append]; exact hown
  refine ⟨row_cell hblk, ⟨heap_setCell_row hblk, ownsRow_setCell_other hown2 (owns_ne hown2 hblk (by decide)) _, ownsRow_setCell_other hgp (owns_ne hgp hblk (by decide)) _, hk.setCell hblk (by decide) (by decide) _⟩, ?_, ?_⟩
  · exact (((Below.refl _ _).alloc hbw o).grown hg (by rw [World.size_alloc]; omega) (fun k hk => (h.lens.lt k hk).1)).setCell hbc _
  · exact ((keep_below ((Below.refl _ _).alloc (Nat.le_refl _) o)).trans (keep_grown hc.lens (by decide) hg)).trans (keep_set hblk (by decide) _)

/-- 'c.gaps = append(c.gaps, x)' -/
theorem gaps_step (h : CutAt base bc P M I d num f l xs ys K KH lv gv kv w) (hbc : base ≤ bc) {o : Obj} {w1 : World} {x : Int} {v : Value} (hown : w1.ownsRow base 67 1 v (ys.length + 1) (ys.map (Value.int .u16) ++ [.int .u16 x])) (hg : (w.alloc o).grownBy w1 gv.ownBlock) :
    (w1.cell? ⟨bc, 8, none⟩ = some gv ∧ w1.frozen? ⟨bc, 8, none⟩ = false) ∧ CutAt base bc P M I d num f l xs (ys ++ [x]) K KH lv v kv (w1.setCell ⟨bc, 8, none⟩ v) ∧ Below base w (w1.setCell ⟨bc, 8, none⟩ v) ∧ Keep33 w (w1.setCell ⟨bc, 8, none⟩ v) := by
  have hbw : base ≤ w.heap.size := Nat.le_trans hbc (Nat.le_of_lt h.size)
  have hc := h.later ((Below.refl _ _).alloc (Nat.le_refl _) o)
  have hblk : w1.heap[bc]? = some (.cells (cutArr P M I num f l lv gv kv) 66 (0, 0)) := by
    rw [hg.block bc hc.size (fun e => owns_ne hc.gaps hc.block (by decide) e.symm)]; exact hc.block
  have hk : KeptAt base d K KH kv w1 := ⟨h.kept.names, kept_grown hc.gaps hg hc.kept.own (by decide), fun y hy => ⟨kept_grown hc.gaps hg (hc.kept.rows y hy).1 (by decide), kept_grown hc.gaps hg (hc.kept.rows y hy).2 (by decide)⟩⟩
  have hgp := kept_grown hc.gaps hg hc.lens (by decide)
  have hown2 : w1.ownsRow base 67 1 v (ys ++ [x]).length ((ys ++ [x]).map (Value.int .u16)) := by rw [List.length_append, List.map_append]; exact hown
  refine ⟨row_cell hblk, ⟨heap_setCell_row hblk, ownsRow_setCell_other hgp (owns_ne hgp hblk (by decide)) _, ownsRow_setCell_other hown2 (owns_ne hown2 hblk (by decide)) _, hk.setCell hblk (by decide) (by decide) _⟩, ?_, ?_⟩
  · exact (((Below.refl _ _).alloc hbw o).grown hg (by rw [World.size_alloc]; omega) (fun k hk => (h.gaps.lt k hk).1)).setCell hbc _
  · exact ((keep_below ((Below.refl _ _).alloc (Nat.le_refl _) o)).trans (keep_grown hc.gaps (by decide) hg)).trans (keep_set hblk (by decide) _)
end
end Go.Proofs.Qxb6629007a
