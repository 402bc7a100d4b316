/-
  Seat b6629007a: the cutter in memory.
-/
import Derived.Test.Qxb6629007aMeasure
import Derived.Test.Qxb6629007aSub
namespace Go.Proofs.Qxb6629007a
open Go.RowKit

theorem info36 : (Try.prog.info? 36).map (fun i => (i.zero, i.size, i.bytes)) = some (some (.agg zeroWin), 15, 152) := by kernel_rfl
theorem info67 : (Try.prog.info? 67).map (fun i => (i.zero, i.size, i.bytes)) = some (some (.int .u16 0), 1, 2) := by kernel_rfl
theorem info68 : (Try.prog.info? 68).map (fun i => (i.zero, i.size, i.bytes)) = some (some (.int .u32 0), 1, 4) := by kernel_rfl

/-- A packet: its time, its length. -/
abbrev Pkt := Int × Int
def lensOf (ps : List Pkt) : List Int := ps.map fun q => q.2 % 4294967296
theorem lensOf_length (ps : List Pkt) : (lensOf ps).length = ps.length := by simp [lensOf]
theorem lensOf_snoc (ps : List Pkt) (q : Pkt) : lensOf (ps ++ [q]) = lensOf ps ++ [q.2 % 4294967296] := by simp [lensOf]
theorem lensOf_bound {ps : List Pkt} : ∀ x ∈ lensOf ps, 0 ≤ x ∧ x < 4294967296 := by
  intro x hx
  obtain ⟨q, _, rfl⟩ := List.mem_map.1 hx
  show 0 ≤ q.2 % 4294967296 ∧ q.2 % 4294967296 < 4294967296
  omega

/-- The gap that packet t leaves behind packet s, as the histogram counts it. -/
def gapOf (s t : Int) : List Int := if 0 ≤ clampI (t - s) ∧ clampI (t - s) < 1000000000 then [clampI (t - s) / 1000000] else []
/-- The gaps between consecutive packets. -/
def gapsOf : List Pkt → List Int
  | [] => []
  | [_] => []
  | q :: r :: l => gapOf q.1 r.1 ++ gapsOf (r :: l)

theorem gapOf_bound {s t x : Int} (h : x ∈ gapOf s t) : 0 ≤ x ∧ x < 1000 := by
  unfold gapOf at h
  split at h
  · simp at h; subst h; omega
  · simp at h

theorem gapOf_length (s t : Int) : (gapOf s t).length ≤ 1 := by
  unfold gapOf; split <;> simp

theorem gapsOf_bound : ∀ {ps : List Pkt}, ∀ x ∈ gapsOf ps, 0 ≤ x ∧ x < 1000
  | [], x, h => by simp [gapsOf] at h
  | [_], x, h => by simp [gapsOf] at h
  | q :: r :: l, x, h => by
    rw [gapsOf] at h
    rcases List.mem_append.1 h with h | h
    · exact gapOf_bound h
    · exact gapsOf_bound x h

theorem gapsOf_length : ∀ ps : List Pkt, (gapsOf ps).length ≤ ps.length
  | [] => by simp [gapsOf]
  | [_] => by simp [gapsOf]
  | q :: r :: l => by
    rw [gapsOf, List.length_append]
    have h1 := gapOf_length q.1 r.1
    have h2 := gapsOf_length (r :: l)
    simp only [List.length_cons] at *
    omega

theorem gapsOf_snoc : ∀ (ps : List Pkt) (s q : Pkt), gapsOf (ps ++ [s, q]) = gapsOf (ps ++ [s]) ++ gapOf s.1 q.1
  | [], s, q => by simp [gapsOf]
  | [a], s, q => by simp [gapsOf]
  | a :: b :: l, s, q => by
    have := gapsOf_snoc (b :: l) s q
    simp only [List.cons_append, gapsOf] at this ⊢
    rw [this, List.append_assoc]

/-- The time of the first packet, of the last. -/
def firstT (ps : List Pkt) : Int := (ps.headD (0, 0)).1
def lastT (ps : List Pkt) : Int := (ps.getLastD (0, 0)).1

/-- A kept window: its number, its packets. -/
abbrev Kept := Int × List Pkt

def lhist (ps : List Pkt) : List (Int × Int) := hist 1 (counts 801 (lensOf ps)).tail
def ghist (ps : List Pkt) : List (Int × Int) := hist 0 (counts 1000 (gapsOf ps))

/-- A kept window's fifteen cells, its times d later. -/
def winOf (d : Int) (x : Kept × Value × Value) : Array Value :=
  winArr x.1.1 (firstT x.1.2 + d) (lastT x.1.2 + d) x.1.2.length (lensOf x.1.2).sum (rk (lensOf x.1.2) 5) (rk (lensOf x.1.2) 50) (rk (lensOf x.1.2) 95) (overs (lensOf x.1.2)).length x.2.1 x.2.2

/-- The kept windows in memory. -/
structure KeptAt (base : Nat) (d : Int) (K : List Kept) (KH : List (Kept × Value × Value)) (kv : Value) (w : World) : Prop where
  names : KH.map Prod.fst = K
  own : w.ownsRow base 36 15 kv KH.length (KH.flatMap fun x => (winOf d x).toList)
  rows : ∀ x ∈ KH, w.ownsRow base 71 2 x.2.1 (lhist x.1.2).length (bucketCells (lhist x.1.2)) ∧ w.ownsRow base 71 2 x.2.2 (ghist x.1.2).length (bucketCells (ghist x.1.2))

/-- The plain cutter: how many windows have begun, the open window's packets, the kept windows. -/
structure St where
  number : Int
  ps : List Pkt
  kept : List Kept

/-- The cutter's thirteen cells. -/
def cutArr (P M I num f l : Int) (lv gv kv : Value) : Array Value :=
  #[.int .i64 P, .int .i64 M, .int .i64 I, .int .i64 num, .int .u64 (nn f), .int .i64 (ss f), .pointer none, lv, gv, .int .u64 (nn l), .int .i64 (ss l), .pointer none, kv]

/-- The cutter in memory: f and l: the two times that it holds. -/
structure CutAt (base bc : Nat) (P M I d : Int) (num f l : Int) (xs ys : List Int) (K : List Kept) (KH : List (Kept × Value × Value)) (lv gv kv : Value) (w : World) : Prop where
  block : w.heap[bc]? = some (.cells (cutArr P M I num f l lv gv kv) 66 (0, 0))
  lens : w.ownsRow base 68 1 lv xs.length (xs.map (Value.int .u32))
  gaps : w.ownsRow base 67 1 gv ys.length (ys.map (Value.int .u16))
  kept : KeptAt base d K KH kv w

section
variable {base bc : Nat} {P M I d num f l : Int} {xs ys : List Int} {K : List Kept} {KH : List (Kept × Value × Value)} {lv gv kv : Value} {w : World}

theorem KeptAt.later (h : KeptAt base d K KH kv w) {w' : World} (hb : Below w.heap.size w w') : KeptAt base d K KH kv w' :=
  ⟨h.names, owns_later h.own hb, fun x hx => ⟨owns_later (h.rows x hx).1 hb, owns_later (h.rows x hx).2 hb⟩⟩

theorem CutAt.size (h : CutAt base bc P M I d num f l xs ys K KH lv gv kv w) : bc < w.heap.size := (Array.getElem?_eq_some_iff.1 h.block).1

theorem CutAt.later (h : CutAt base bc P M I d num f l xs ys K KH lv gv kv w) {w' : World} (hb : Below w.heap.size w w') : CutAt base bc P M I d num f l xs ys K KH lv gv kv w' :=
  ⟨by rw [hb.block _ h.size]; exact h.block, owns_later h.lens hb, owns_later h.gaps hb, h.kept.later hb⟩

theorem CutAt.cell (h : CutAt base bc P M I d num f l xs ys K KH lv gv kv w) (k : Nat) {u : Value} (hu : (cutArr P M I num f l lv gv kv)[k]? = some u) : w.cell? ⟨bc, k, none⟩ = some u ∧ w.frozen? ⟨bc, k, none⟩ = false := ⟨(row_cell h.block).1.trans hu, (row_cell h.block).2⟩

/-- Writes to a block whose elements are of a type of the cutter's own leave all rows alone. -/
theorem KeptAt.setCell (h : KeptAt base d K KH kv w) {b k : Nat} {c : Array Value} {e : TypeId} {fr : Nat × Nat} (hb : w.heap[b]? = some (.cells c e fr)) (h1 : e ≠ 36) (h2 : e ≠ 71) (u : Value) : KeptAt base d K KH kv (w.setCell ⟨b, k, none⟩ u) :=
  ⟨h.names, ownsRow_setCell_other h.own (owns_ne h.own hb (Ne.symm h1)) u, fun x hx => ⟨ownsRow_setCell_other (h.rows x hx).1 (owns_ne (h.rows x hx).1 hb (Ne.symm h2)) u, ownsRow_setCell_other (h.rows x hx).2 (owns_ne (h.rows x hx).2 hb (Ne.symm h2)) u⟩⟩

/-- A store into one of the cutter's own cells that leaves its three rows' values alone. -/
theorem CutAt.set (h : CutAt base bc P M I d num f l xs ys K KH lv gv kv w) (k : Nat) (u : Value) {num' f' l' : Int} (he : (cutArr P M I num f l lv gv kv).setIfInBounds k u = cutArr P M I num' f' l' lv gv kv) :
    CutAt base bc P M I d num' f' l' xs ys K KH lv gv kv (w.setCell ⟨bc, k, none⟩ u) :=
  ⟨by rw [heap_setCell_row h.block, he], ownsRow_setCell_other h.lens (owns_ne h.lens h.block (by decide)) u, ownsRow_setCell_other h.gaps (owns_ne h.gaps h.block (by decide)) u, h.kept.setCell h.block (by decide) (by decide) u⟩

/-- A store of a row of lengths. -/
theorem CutAt.setLens (h : CutAt base bc P M I d num f l xs ys K KH lv gv kv w) {u : Value} {xs' : List Int} (hu : w.ownsRow base 68 1 u xs'.length (xs'.map (Value.int .u32))) :
    CutAt base bc P M I d num f l xs' ys K KH u gv kv (w.setCell ⟨bc, 7, none⟩ u) :=
  ⟨heap_setCell_row h.block, ownsRow_setCell_other hu (owns_ne hu h.block (by decide)) u, ownsRow_setCell_other h.gaps (owns_ne h.gaps h.block (by decide)) u, h.kept.setCell h.block (by decide) (by decide) u⟩

theorem CutAt.setGaps (h : CutAt base bc P M I d num f l xs ys K KH lv gv kv w) {u : Value} {ys' : List Int} (hu : w.ownsRow base 67 1 u ys'.length (ys'.map (Value.int .u16))) :
    CutAt base bc P M I d num f l xs ys' K KH lv u kv (w.setCell ⟨bc, 8, none⟩ u) :=
  ⟨heap_setCell_row h.block, ownsRow_setCell_other h.lens (owns_ne h.lens h.block (by decide)) u, ownsRow_setCell_other hu (owns_ne hu h.block (by decide)) u, h.kept.setCell h.block (by decide) (by decide) u⟩

theorem CutAt.setKept (h : CutAt base bc P M I d num f l xs ys K KH lv gv kv w) {u : Value} {K' : List Kept} {KH' : List (Kept × Value × Value)} (hu : KeptAt base d K' KH' u w) :
    CutAt base bc P M I d num f l xs ys K' KH' lv gv u (w.setCell ⟨bc, 12, none⟩ u) :=
  ⟨heap_setCell_row h.block, ownsRow_setCell_other h.lens (owns_ne h.lens h.block (by decide)) u, ownsRow_setCell_other h.gaps (owns_ne h.gaps h.block (by decide)) u, hu.setCell h.block (by decide) (by decide) u⟩

/-- A row cut to nothing. -/
theorem owns_cut {base : Nat} {e : TypeId} {v : Value} {n : Nat} {vs : List Value} {w : World} (h : w.ownsRow base e 1 v n vs) : ∃ ao m cap, v = .slice ao m cap ∧ m = n ∧ m ≤ cap ∧ (ao = none → cap = 0) ∧ w.ownsRow base e 1 (.slice ao 0 cap) 0 [] := by
  rcases h.2 with ⟨h1, h2⟩ | ⟨g, cap, cur, h1, h2, h3, h4, h5, h6, h7⟩
  · exact ⟨none, 0, 0, h1, h2.symm, Nat.le_refl _, fun _ => rfl, World.ownsRow_nil _ _ _ _⟩
  · exact ⟨_, _, cap, h1, rfl, h4, (fun e => by cases e), ⟨rfl, .inr ⟨g, cap, cur, rfl, h2, h3, Nat.zero_le _, h5, h6, by simp⟩⟩⟩
end
end Go.Proofs.Qxb6629007a
