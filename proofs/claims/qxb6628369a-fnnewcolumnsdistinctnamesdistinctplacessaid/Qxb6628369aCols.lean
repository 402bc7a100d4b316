import Derived.Test.Qxb6628369aParts
import Derived.WalkSpells
import Derived.Deep.RegionHeld3
import Derived.Deep.DrawnRows
import Derived.Deep.AppendLies
import Derived.Deep.DeepCutAuto
import Derived.OneCell
namespace Go.Proofs.Qxb6628369a
open Go.RowKit Go.Maps

theorem law9 : Keyed Try.prog 9 := string_keyed Try.underlying9
theorem info9 : (Try.prog.info? 9).map (fun i => (i.zero, i.size, i.bytes)) = some (some (.string ByteArray.empty), 1, 16) := by kernel_rfl

theorem run_makeMap24 (n : Int) (w : World) : (Instr.makeMap 24 (some (.int .i64 n))).run Try.prog w = .ok (.map (some w.heap.size)) (w.alloc (.map #[] 0)) := by
  simp [Instr.makeMap, run_underlying Try.underlying24, asInt, newObj]
  rfl

/-- WHAT STANDS BEHIND THE LITERAL: the struct's own block c, the index bi, the texts' row bs. -/
def Laid (H : Type) (N : Nat) (w wc : World) (s3 : Value) : Prop :=
  ∃ bi c bs : Nat, s3 = .pointer (some ⟨c, 0, none⟩) ∧ wc.heap[c]? = some (.cells #[.map (some bi), .slice (some ⟨bs, 0, none⟩) 0 N] 26 (0, 0)) ∧
    wc.heap[w.heap.size]? = some (.cells #[.map none, .slice none 0 0] 26 (0, 0)) ∧ wc.ownsMap (H := H) Try.prog 9 (plainElem Try.prog 3) bi 0 (.map []) ∧
    wc.ownsRow w.heap.size 9 1 (.slice (some ⟨bs, 0, none⟩) 0 N) 0 [] ∧ Below w.heap.size w wc ∧ w.heap.size < c ∧ w.heap.size < bi

theorem heap_drew (w : World) : w.drew.heap = w.heap := rfl
theorem below_new {w wr : World} (h : Below w.heap.size w wr) (o : Obj) : Below w.heap.size w (wr.alloc o) := h.alloc h.size o

theorem heap_alloc_get (w : World) (o : Obj) (i : Nat) : (w.alloc o).heap[i]? = if i = w.heap.size then some o else w.heap[i]? := by
  show (w.heap.push o)[i]? = _
  rw [Array.getElem?_push]

theorem ownsMap_empty_at {H : Type} {w : World} {P : Program} {k : TypeId} {R : Value → Option (DataW H × List MemPlace)} {b : Nat} (h : w.heap[b]? = some (.map #[] 0)) : w.ownsMap P k R b 0 (.map []) := by
  obtain ⟨es, clock, h1, h2, h3, h4⟩ := World.ownsMap_made (H := H) { w with heap := #[] } P k R
  have e : (({ w with heap := #[] } : World).alloc (.map #[] 0)).heap[0]? = some (.map #[] 0) := by rw [heap_alloc_get]; rfl
  have e2 : some (Obj.map es clock) = some (Obj.map #[] 0) := h1.symm.trans e
  cases e2
  exact ⟨_, _, h, h2, h3, h4⟩

theorem laid_of {H : Type} {N : Nat} {w wc : World} (bi c bs : Nat) (hN : N ≤ 65536) (h1 : wc.heap[c]? = some (.cells #[.map (some bi), .slice (some ⟨bs, 0, none⟩) 0 N] 26 (0, 0))) (h2 : wc.heap[w.heap.size]? = some (.cells #[.map none, .slice none 0 0] 26 (0, 0)))
    (h3 : wc.heap[bi]? = some (.map #[] 0)) (h4 : wc.heap[bs]? = some (.cells (madeCells #[.string ByteArray.empty] N) 9 (0, 0))) (h5 : Below w.heap.size w wc) (h6 : w.heap.size < c) (h7 : w.heap.size < bi) (h8 : w.heap.size ≤ bs) :
    Laid H N w wc (.pointer (some ⟨c, 0, none⟩)) :=
  ⟨bi, c, bs, rfl, h1, h2, ownsMap_empty_at h3, ⟨by simp, .inr ⟨bs, N, _, rfl, h8, h4, Nat.zero_le _, by unfold maxLen; omega, by simp [madeCells], by simp⟩⟩, h5, h6, h7⟩

/-- THE LOOP's RELATION. r: the iterator's block. -/
structure Inv {H : Type} (D : DataW H) (N n bm bi c r : Nat) (w wr : World) (left : Lit → Bool) (cnt : Nat) (Dix : DataW H) (ts : List ByteArray) (g cap : Nat) : Prop where
  rng : wr.ranges Try.prog 9 (plainElem Try.prog 9) bm r n D left cnt
  few : ts.length + cnt ≤ N
  box : wr.heap[c]? = some (.cells #[.map (some bi), .slice (some ⟨g, 0, none⟩) ts.length cap] 26 (0, 0))
  res : wr.heap[w.heap.size]? = some (.cells #[.map none, .slice none 0 0] 26 (0, 0))
  index : wr.ownsMap Try.prog 9 (plainElem Try.prog 3) bi ts.length Dix
  row : wr.ownsRow w.heap.size 9 1 (.slice (some ⟨g, 0, none⟩) ts.length cap) ts.length (ts.map Value.string)
  rel : ColRel D Dix left ts
  below : Below w.heap.size w wr

/-- The row of texts is a row of cells of type 9, in a block that is not the struct's, nor a map's. -/
theorem row_block {w : World} {base g n cap : Nat} {xs : List Value} (h : w.ownsRow base 9 1 (.slice (some ⟨g, 0, none⟩) n cap) n xs) : ∃ cur, base ≤ g ∧ w.heap[g]? = some (.cells cur 9 (0, 0)) := by
  rcases h.2 with ⟨h1, _⟩ | ⟨g', cap', cur, h1, h2, h3, _⟩
  · simp at h1
  · simp at h1
    obtain ⟨rfl, rfl⟩ := h1
    exact ⟨cur, h2, h3⟩

theorem owns_block {H : Type} {w : World} {P : Program} {k : TypeId} {R : Value → Option (DataW H × List MemPlace)} {b n : Nat} {D : DataW H} (h : w.ownsMap P k R b n D) : ∃ es clock, w.heap[b]? = some (.map es clock) := by
  obtain ⟨es, clock, h1, _⟩ := h
  exact ⟨es, clock, h1⟩
theorem ranges_block {H : Type} {w : World} {P : Program} {k : TypeId} {R : Value → Option (DataW H × List MemPlace)} {b r n : Nat} {D : DataW H} {left : Lit → Bool} {cnt : Nat} (h : w.ranges P k R b r n D left cnt) : ∃ since seen c0, w.heap[r]? = some (.mapIter (some b) since seen c0) := by
  obtain ⟨es, clock, since, seen, c0, _, _, _, _, h1, _⟩ := h
  exact ⟨since, seen, c0, h1⟩

section
variable {H : Type} {D : DataW H} {N n bm bi c r : Nat} {w wr : World} {left : Lit → Bool} {cnt : Nat} {Dix : DataW H} {ts : List ByteArray} {g cap : Nat} {w1 w2 w3 : World}
theorem step_nes (I : Inv D N n bm bi c r w wr left cnt Dix ts g cap) : c ≠ r ∧ c ≠ bi ∧ c ≠ g ∧ w.heap.size ≠ r ∧ w.heap.size ≠ g ∧ bi ≠ r ∧ bi ≠ g ∧ r ≠ g := by
  obtain ⟨cur, hgb, hg⟩ := row_block I.row
  obtain ⟨es, clock, hib⟩ := owns_block I.index
  obtain ⟨since, seen, c0, hrb⟩ := ranges_block I.rng
  have hbox := I.box
  have hres := I.res
  refine ⟨fun e => ?_, fun e => ?_, fun e => ?_, fun e => ?_, fun e => ?_, fun e => ?_, fun e => ?_, fun e => ?_⟩
  · rw [e, hrb] at hbox; cases hbox
  · rw [e, hib] at hbox; cases hbox
  · rw [e, hg] at hbox; simp at hbox
  · rw [e, hrb] at hres; cases hres
  · rw [e, hg] at hres; simp at hres
  · rw [e, hrb] at hib; cases hib
  · rw [e, hg] at hib; cases hib
  · rw [e, hg] at hrb; cases hrb
theorem step_ne (I : Inv D N n bm bi c r w wr left cnt Dix ts g cap) : some bi ≠ some r := by have := step_nes I; simp; omega
theorem step_box (I : Inv D N n bm bi c r w wr left cnt Dix ts g cap) (hg1 : wr.grownBy w1 (some r)) : w1.heap[c]? = some (.cells #[.map (some bi), .slice (some ⟨g, 0, none⟩) ts.length cap] 26 (0, 0)) := by
  rw [hg1.block c (lt_of_block I.box) (by have := step_nes I; simp; omega)]
  exact I.box
theorem step_box2 (I : Inv D N n bm bi c r w wr left cnt Dix ts g cap) (hg1 : wr.grownBy w1 (some r)) (hg2 : w1.grownBy w2 (some bi)) : w2.heap[c]? = some (.cells #[.map (some bi), .slice (some ⟨g, 0, none⟩) ts.length cap] 26 (0, 0)) := by
  have h := step_box I hg1
  rw [hg2.block c (lt_of_block h) (by have := step_nes I; simp; omega)]
  exact h
theorem step_box3 (I : Inv D N n bm bi c r w wr left cnt Dix ts g cap) {o : Obj} (hg1 : wr.grownBy w1 (some r)) (hg2 : w1.grownBy w2 (some bi)) (hg3 : (w2.alloc o).grownBy w3 (some g)) : w3.heap[c]? = some (.cells #[.map (some bi), .slice (some ⟨g, 0, none⟩) ts.length cap] 26 (0, 0)) := by
  have h := step_box2 I hg1 hg2
  have hl := lt_of_block h
  rw [hg3.block c (by simp; omega) (by have := step_nes I; simp; omega), heap_alloc_get, if_neg (by omega)]
  exact h
theorem step_row (I : Inv D N n bm bi c r w wr left cnt Dix ts g cap) (hg1 : wr.grownBy w1 (some r)) (hg2 : w1.grownBy w2 (some bi)) (o : Obj) : (w2.alloc o).ownsRow w.heap.size 9 1 (.slice (some ⟨g, 0, none⟩) ts.length cap) ts.length (ts.map Value.string) :=
  ((I.row.kept hg1 (by have := step_nes I; simp [Value.ownBlock]; omega)).kept hg2 (by have := step_nes I; simp [Value.ownBlock]; omega)).alloc o
theorem step_base (I : Inv D N n bm bi c r w wr left cnt Dix ts g cap) (hg1 : wr.grownBy w1 (some r)) (hg2 : w1.grownBy w2 (some bi)) (o : Obj) : w.heap.size ≤ (w2.alloc o).heap.size := by
  have := I.below.size
  have := hg1.size
  have := hg2.size
  simp
  omega
end

theorem two_setCells01 {w : World} {b : Nat} {u v : Value} {t : TypeId} (h : w.heap[b]? = some (.cells #[u, v] t (0, 0))) (x y : Value) : ((w.setCell ⟨b, 0, none⟩ x).setCell ⟨b, 1, none⟩ y).heap[b]? = some (.cells #[x, y] t (0, 0)) := by
  have h0 : (w.setCell ⟨b, 0, none⟩ x).heap[b]? = some (.cells #[x, v] t (0, 0)) := by
    have hlt := lt_of_block h
    have h' : w.heap[b] = .cells #[u, v] t (0, 0) := by simpa [Array.getElem?_eq_getElem hlt] using h
    show (w.heap.modify b _)[b]? = _
    rw [Array.getElem?_eq_getElem (by simpa using hlt), Array.getElem_modify_self, h']
    rfl
  exact two_setCell1 h0

/-- THE END: nothing is left; the result's own block has been written. -/
theorem end_step {H : Type} {D : DataW H} {N n bm bi c r : Nat} {w wr : World} {left : Lit → Bool} {cnt : Nat} {Dix : DataW H} {ts : List ByteArray} {g cap : Nat} (I : Inv D N n bm bi c r w wr left cnt Dix ts g cap) (hbi : w.heap.size < bi) (hN : N ≤ 65536) (hl : ∀ kl, left kl = false) {x y : Value} :
    ((wr.setCell ⟨w.heap.size, 0, none⟩ x).setCell ⟨w.heap.size, 1, none⟩ y).ownsMap Try.prog 9 (plainElem Try.prog 3) bi 65536 Dix ∧
    ((wr.setCell ⟨w.heap.size, 0, none⟩ x).setCell ⟨w.heap.size, 1, none⟩ y).ownsRow w.heap.size 9 1 (.slice (some ⟨g, 0, none⟩) ts.length cap) ts.length (ts.map Value.string) ∧ ColRel D Dix (fun _ => false) ts ∧
    Below w.heap.size w ((wr.setCell ⟨w.heap.size, 0, none⟩ x).setCell ⟨w.heap.size, 1, none⟩ y) := by
  have nes := step_nes I
  have few := I.few
  refine ⟨(((I.index.setCell (by simp; omega) x).setCell (by simp; omega) y).mono (by omega)), ownsRow_setCell_other (ownsRow_setCell_other I.row (by simp [Value.ownBlock]; omega) x) (by simp [Value.ownBlock]; omega) y, ?_, (I.below.setCell (by simp) x).setCell (by simp) y⟩
  have e : left = fun _ => false := funext hl
  rw [← e]
  exact I.rel

/-- A ROUND: the step has come (w1), the index has been written (w2), the text appended (w3), the field stored. -/
theorem round_step {H : Type} {D : DataW H} {N n bm bi c r : Nat} {w wr : World} {left : Lit → Bool} {cnt : Nat} {Dix : DataW H} {ts : List ByteArray} {g cap : Nat} (I : Inv D N n bm bi c r w wr left cnt Dix ts g cap)
    (hbm : bm < w.heap.size) (hc : w.heap.size < c) (hbi : w.heap.size < bi) (hr0 : w.heap.size < r) {x s : ByteArray} {w1 w2 w3 : World} {cnt1 : Nat} (hlx : left (.string x.data.toList) = true) (hat : ∀ zd, D.atKey (.string x.data.toList) zd = .lit (.string s.data.toList))
    (hrg1 : w1.ranges Try.prog 9 (plainElem Try.prog 9) bm r n D (fun z => left z && !z.sameKey (.string x.data.toList)) cnt1) (hlt : cnt1 < cnt) (hg1 : wr.grownBy w1 (some r))
    (hix2 : w2.ownsMap Try.prog 9 (plainElem Try.prog 3) bi (ts.length + 1) (Dix.put (.string x.data.toList) (.lit (.int .i64 (ts.length : Int))))) (hg2 : w1.grownBy w2 (some bi))
    {g' cap' : Nat} {o : Obj} (hrow3 : w3.ownsRow w.heap.size 9 1 (.slice (some ⟨g', 0, none⟩) (ts.length + 1) cap') (ts.length + 1) (ts.map Value.string ++ [Value.string s])) (hg3 : (w2.alloc o).grownBy w3 (some g)) :
    Inv D N n bm bi c r w (w3.setCell ⟨c, 1, none⟩ (.slice (some ⟨g', 0, none⟩) (ts.length + 1) cap')) (fun z => left z && !z.sameKey (.string x.data.toList)) cnt1 (Dix.put (.string x.data.toList) (.lit (.int .i64 (ts.length : Int)))) (ts ++ [s]) g' cap' := by
  have few := I.few
  obtain ⟨cur, hgb, hg⟩ := row_block I.row
  obtain ⟨cur', hgb', hgr'⟩ := row_block hrow3
  obtain ⟨es, clock, hib⟩ := owns_block I.index
  obtain ⟨es0, clock0, hmb⟩ := owns_block I.rng.owns
  obtain ⟨since, seen, c0, hrb⟩ := ranges_block I.rng
  have hbox := I.box
  have hres := I.res
  have n1 : c ≠ r := fun e => by rw [e, hrb] at hbox; cases hbox
  have n2 : c ≠ bi := fun e => by rw [e, hib] at hbox; cases hbox
  have n3 : c ≠ g := fun e => by rw [e, hg] at hbox; simp at hbox
  have n4 : w.heap.size ≠ r := fun e => by rw [e, hrb] at hres; cases hres
  have n5 : w.heap.size ≠ g := fun e => by rw [e, hg] at hres; simp at hres
  have n6 : bi ≠ r := fun e => by rw [e, hrb] at hib; cases hib
  have n7 : bi ≠ g := fun e => by rw [e, hg] at hib; cases hib
  have n8 : r ≠ g := fun e => by rw [e, hg] at hrb; cases hrb
  have lt1 : c < w1.heap.size := Nat.lt_of_lt_of_le (lt_of_block hbox) hg1.size
  have s1 := hg1.size
  have s2 := hg2.size
  have s3 := hg3.size
  have s0 := I.below.size
  simp at s3
  have hr1 : r < w1.heap.size := Nat.lt_of_lt_of_le (lt_of_block hrb) hg1.size
  -- a block that is neither written nor new, through all three steps
  have keep : ∀ b ob, wr.heap[b]? = some ob → b ≠ r → b ≠ bi → b ≠ g → w3.heap[b]? = some ob := by
    intro b ob hb e1 e2 e3
    have l0 := lt_of_block hb
    rw [hg3.block b (by simp; omega) (by simpa using e3), heap_alloc_get, if_neg (by omega), hg2.block b (by omega) (by simpa using e2), hg1.block b l0 (by simpa using e1)]
    exact hb
  have box3 := keep c _ hbox n1 n2 n3
  have nc' : c ≠ g' := fun e => by rw [e, hgr'] at box3; simp at box3
  have bel3 : Below w.heap.size w w3 := ((I.below.grown hg1 s0 (fun j hj => by cases hj; omega)).grown hg2 (by omega) (fun j hj => by cases hj; omega) |>.alloc (by omega) o).grown hg3 (by simp; omega) (fun j hj => by cases hj; omega)
  have ix3 : w3.ownsMap Try.prog 9 (plainElem Try.prog 3) bi (ts.length + 1) (Dix.put (.string x.data.toList) (.lit (.int .i64 (ts.length : Int)))) := (hix2.alloc o).kept hg3 (by simpa using n7)
  have rg3 := (((hrg1.kept hg2 (by simp; omega) (by simp; omega)).alloc o).kept hg3 (by simp; omega) (by simp; omega))
  refine ⟨?_, by simp; omega, ?_, ?_, ?_, ?_, ?_, ?_⟩
  · obtain ⟨a1, a2, a3, a4, a5, b1, b2, b3, b4, b5, b6⟩ := rg3
    exact ⟨a1, a2, a3, a4, a5, by rw [Below.heap_setCell _ _ _ _ (by simp; omega)]; exact b1, b2, b3, b4, by rw [Below.heap_setCell _ _ _ _ (by simp; omega)]; exact b5, b6⟩
  · simp only [List.length_append, List.length_singleton]
    exact two_setCell1 box3
  · rw [Below.heap_setCell _ _ _ _ (by simp; omega)]
    exact keep _ _ hres n4 (by omega) n5
  · simp only [List.length_append, List.length_singleton]
    exact ix3.setCell (by simp; omega) _
  · simp only [List.length_append, List.length_singleton, List.map_append, List.map_cons, List.map_nil]
    exact ownsRow_setCell_other hrow3 (by simp [Value.ownBlock]; omega) _
  · exact col_step I.rel (by simp [WideAt.IsKeyLit]) hlx hat
  · exact bel3.setCell (by simp; omega) _

set_option maxRecDepth 100000 in
set_option maxHeartbeats 400000 in
theorem f5_any {H : Type} (bm n : Nat) (D : DataW H) (w : World) (hown : w.ownsMap Try.prog 9 (plainElem Try.prog 9) bm n D) (hsz : Maps.size D ≤ 65536) :
    Calls Try.prog 5 #[.map (some bm)] w fun e w' => ∃ (bi g cap : Nat) (Dix : DataW H) (ts : List ByteArray), e = .returned (.agg #[.map (some bi), .slice (some ⟨g, 0, none⟩) ts.length cap]) ∧
      w'.ownsMap Try.prog 9 (plainElem Try.prog 3) bi 65536 Dix ∧ w'.ownsRow w.heap.size 9 1 (.slice (some ⟨g, 0, none⟩) ts.length cap) ts.length (ts.map Value.string) ∧ ColRel D Dix (fun _ => false) ts ∧ Below w.heap.size w w' := by
  have hmm := run_makeMap24
  obtain ⟨i0, hi, hz0, hz1, hz2⟩ := info_parts info9
  have hlen : ∀ ty W, W.ownsMap Try.prog 9 (plainElem (H := H) Try.prog 9) bm n D → (Builtin.len_ #[22] ty #[.map (some bm)]).run Try.prog W = .ok (.int .i64 (Maps.size D)) W := fun ty W h => h.len Try.underlying22 ty
  have hmk : ∀ W : World, (Instr.makeSlice 23 (.int .i64 0) (.int .i64 (Maps.size D))).run Try.prog W = .ok (.slice (some ⟨W.heap.size, 0, none⟩) 0 (Maps.size D)) (W.alloc (.cells (madeCells (Value.string ByteArray.empty).cells (Maps.size D)) 9)) := by
    intro W
    have := run_make W 23 9 i0 _ Try.underlying23 hi hz0 .i64 .i64 0 (Maps.size D) (by omega) (by omega) (by rw [hz2]; omega) (by omega)
    rw [hz1] at this
    simpa using this
  have hbl := hown.lt
  generalize hN : Maps.size D = N at hmk hlen hsz
  have HN : Hid (Maps.size D = N) := hN
  clear hN
  go_enter Try.func5, Try.ntmps5
  go_wp2
  go_cut [3] (fun s3 wc => Laid H N w wc s3)
  case first =>
    go_region_held3 (fun w' => w'.ownsMap Try.prog 9 (plainElem (H := H) Try.prog 9) bm n D) (repeat (first | assumption | apply World.ownsMap.drew | apply World.ownsMap.alloc)) (fail)
    all_goals go_wp2
    all_goals go_meet
    all_goals first
      | (refine laid_of (w.heap.size + 1) _ (w.heap.size + 1 + 1) hsz ?_ ?_ ?_ ?_ ?_ ?_ ?_ ?_ <;> first | omega | (simp only [heap_alloc_get, heap_drew, World.size_alloc, ↓reduceIte]; (repeat' split); all_goals first | rfl | (exfalso; omega)) | (repeat (first | exact Below.refl _ _ | refine Below.drew ?_ | refine below_new ?_ _)); done)
      | (refine laid_of (w.heap.size + 1) _ (w.heap.size + 1 + 1 + 1) hsz ?_ ?_ ?_ ?_ ?_ ?_ ?_ ?_ <;> first | omega | (simp only [heap_alloc_get, heap_drew, World.size_alloc, ↓reduceIte]; (repeat' split); all_goals first | rfl | (exfalso; omega)) | (repeat (first | exact Below.refl _ _ | refine Below.drew ?_ | refine below_new ?_ _)); done)
      | (refine laid_of (w.heap.size + 1 + 1) _ (w.heap.size + 1) hsz ?_ ?_ ?_ ?_ ?_ ?_ ?_ ?_ <;> first | omega | (simp only [heap_alloc_get, heap_drew, World.size_alloc, ↓reduceIte]; (repeat' split); all_goals first | rfl | (exfalso; omega)) | (repeat (first | exact Below.refl _ _ | refine Below.drew ?_ | refine below_new ?_ _)); done)
      | (refine laid_of (w.heap.size + 1 + 1) _ (w.heap.size + 1 + 1 + 1) hsz ?_ ?_ ?_ ?_ ?_ ?_ ?_ ?_ <;> first | omega | (simp only [heap_alloc_get, heap_drew, World.size_alloc, ↓reduceIte]; (repeat' split); all_goals first | rfl | (exfalso; omega)) | (repeat (first | exact Below.refl _ _ | refine Below.drew ?_ | refine below_new ?_ _)); done)
      | (refine laid_of (w.heap.size + 1 + 1 + 1) _ (w.heap.size + 1) hsz ?_ ?_ ?_ ?_ ?_ ?_ ?_ ?_ <;> first | omega | (simp only [heap_alloc_get, heap_drew, World.size_alloc, ↓reduceIte]; (repeat' split); all_goals first | rfl | (exfalso; omega)) | (repeat (first | exact Below.refl _ _ | refine Below.drew ?_ | refine below_new ?_ _)); done)
      | (refine laid_of (w.heap.size + 1 + 1 + 1) _ (w.heap.size + 1 + 1) hsz ?_ ?_ ?_ ?_ ?_ ?_ ?_ ?_ <;> first | omega | (simp only [heap_alloc_get, heap_drew, World.size_alloc, ↓reduceIte]; (repeat' split); all_goals first | rfl | (exfalso; omega)) | (repeat (first | exact Below.refl _ _ | refine Below.drew ?_ | refine below_new ?_ _)); done)
  case rest =>
    obtain ⟨bi, c, bs, rfl, hc, hr, hix, hrow, hbel, hc0, hbi0⟩ := hcut
    clear hmk hlen hmm
    have hown1 : wc.ownsMap Try.prog 9 (plainElem (H := H) Try.prog 9) bm n D := by
      obtain ⟨es, clock, h1, h2⟩ := hown
      exact ⟨es, clock, by rw [hbel.block bm hbl]; exact h1, h2⟩
    go_wp2_with (first
      | (at_range; refine wpList_range_own _ rfl _ 22 rfl 9 9 law9 Try.underlying22 _ bm n D rfl hown1 ?_; intro w0 hrg0 hg0 hs0)
      | go_in)
    go_frame
    have hcl := lt_of_block hc
    have hrl := lt_of_block hr
    have hil := hix.lt
    go_loopw [4] (fun _ wr => ∃ (left : Lit → Bool) (cnt : Nat) (Dix : DataW H) (ts : List ByteArray) (g cap : Nat), Inv D N n bm bi c wc.heap.size w wr left cnt Dix ts g cap)
      (fun _ wr => wr.rangeLeft bm wc.heap.size)
    case atStart =>
      exact ⟨_, _, .map [], [], bs, N, hrg0, by rw [HN.out]; simp, by rw [hg0.block c hcl (by simp)]; exact hc, by rw [hg0.block _ hrl (by simp)]; exact hr, hix.kept hg0 (by simp), hrow.kept hg0 (by simp [Value.ownBlock]), col_start D, hbel.grown hg0 hbel.size (fun j hj => by cases hj)⟩
    case round =>
      obtain ⟨left, cnt, Dix, ts, g, cap, I⟩ := hrel
      go_wp2_with (first
        | (at_next; refine wpList_next_ranges_ss _ rfl _ rfl 9 9 law9 Try.underlying9 Try.underlying9 bm wc.heap.size n D left cnt rfl I.rng ?_ ?_)
        | go_in)
      · intro hc0 hl0
        obtain ⟨b1, b2, b3, b4⟩ := two_cells I.box
        obtain ⟨r1, r2, r3, r4⟩ := two_cells I.res
        go_wp2
        obtain ⟨e1, e2, e3, e4⟩ := end_step I hbi0 hsz hl0
        refine bodyPost_ret (v := .agg #[.map (some bi), .slice (some ⟨g, 0, none⟩) ts.length cap]) ?_ rfl ⟨bi, g, cap, Dix, ts, rfl, e1, e2, e3, e4⟩
        have r5 := two_cells (two_setCells01 I.res (.map (some bi)) (.slice (some ⟨g, 0, none⟩) ts.length cap))
        simp [results, Try.results5, go_sem, r5.1, r5.2.1]
      · intro x s w1 cnt1 hwx hws hlx hat hrg1 hlt hg1 hs1 hen
        have hbox1 := step_box I hg1
        obtain ⟨b1, b2, b3, b4⟩ := two_cells hbox1
        have hix1 := I.index.kept hg1 (step_ne I)
        have hfew := I.few
        go_wp2_with (first
          | (at_mapUpdate; refine wpList_mapUpdate_own _ rfl _ _ _ 24 rfl 9 3 law9 Try.underlying24 _ bi ts.length Dix rfl hix1 (by unfold maxLen; omega) _ _ (.string x.data.toList) rfl rfl (Go.WideMaps.keyOf_string_mk Try.underlying9 hwx) (.lit (.int .i64 (ts.length : Int))) [] (plainElem_int Try.underlying3 (WalkArith.wf_i64 (by omega))) ?_; intro w2 hix2 hg2; have hbox2 := step_box2 I hg1 hg2; obtain ⟨d1, d2, d3, d4⟩ := two_cells hbox2)
          | (at_builtin; refine wpList_append_lies _ rfl _ _ _ rfl w.heap.size 9 i0 (.string ByteArray.empty) 1 16 Try.underlying23 hi hz0 hz1 hz2 rfl (by omega) _ ts.length (ts.map Value.string) rfl (step_row I hg1 hg2 _) ⟨w2.heap.size, 0, none⟩ 1 1 [.string s] rfl rfl (cell_one_new _ _ _) (by simp [Value.oneCell']) (by omega) (by unfold maxLen; omega) (by omega) (step_base I hg1 hg2 _) _ rfl ?_; intro g' cap' w3 hrow3 hg3 hat3 hlt3; have hbox3 := step_box3 I hg1 hg2 hg3; obtain ⟨f1, f2, f3, f4⟩ := two_cells hbox3)
          | go_in)
        have J := round_step I hbl hc0 hbi0 (by omega) hlx hat hrg1 hlt hg1 hix2 hg2 hrow3 hg3
        exact ⟨⟨_, _, _, _, _, _, J⟩, by rw [J.rng.left_eq, I.rng.left_eq]; exact hlt⟩

set_option maxRecDepth 100000 in
set_option maxHeartbeats 400000 in
/-- A nil map: an empty index, no texts. -/
theorem f5_nil {H : Type} (w : World) :
    Calls Try.prog 5 #[.map none] w fun e w' => ∃ (bi g cap : Nat) (Dix : DataW H) (ts : List ByteArray), e = .returned (.agg #[.map (some bi), .slice (some ⟨g, 0, none⟩) ts.length cap]) ∧
      w'.ownsMap Try.prog 9 (plainElem Try.prog 3) bi 65536 Dix ∧ w'.ownsRow w.heap.size 9 1 (.slice (some ⟨g, 0, none⟩) ts.length cap) ts.length (ts.map Value.string) ∧ ColRel (.map []) Dix (fun _ => false) ts ∧ Below w.heap.size w w' := by
  have hmm := run_makeMap24
  obtain ⟨i0, hi, hz0, hz1, hz2⟩ := info_parts info9
  have hlen : ∀ ty (W : World), (Builtin.len_ #[22] ty #[.map none]).run Try.prog W = .ok (.int .i64 0) W := fun ty W => Maps.len_nil Try.underlying22 ty
  have hmk : ∀ W : World, (Instr.makeSlice 23 (.int .i64 0) (.int .i64 0)).run Try.prog W = .ok (.slice (some ⟨W.heap.size, 0, none⟩) 0 0) (W.alloc (.cells (madeCells (Value.string ByteArray.empty).cells 0) 9)) := by
    intro W
    have := run_make W 23 9 i0 _ Try.underlying23 hi hz0 .i64 .i64 0 0 (by omega) (by omega) (by omega) (by omega)
    rw [hz1] at this
    simpa using this
  have hsz : 0 ≤ 65536 := by omega
  go_enter Try.func5, Try.ntmps5
  go_wp2
  go_cut [3] (fun s3 wc => Laid H 0 w wc s3)
  case first =>
    go_region_held3 (fun _ => True) (trivial) (fail)
    all_goals go_wp2
    all_goals go_meet
    all_goals first
      | (refine laid_of (w.heap.size + 1) _ (w.heap.size + 1 + 1) hsz ?_ ?_ ?_ ?_ ?_ ?_ ?_ ?_ <;> first | omega | (simp only [heap_alloc_get, heap_drew, World.size_alloc, ↓reduceIte]; (repeat' split); all_goals first | rfl | (exfalso; omega)) | (repeat (first | exact Below.refl _ _ | refine Below.drew ?_ | refine below_new ?_ _)); done)
      | (refine laid_of (w.heap.size + 1) _ (w.heap.size + 1 + 1 + 1) hsz ?_ ?_ ?_ ?_ ?_ ?_ ?_ ?_ <;> first | omega | (simp only [heap_alloc_get, heap_drew, World.size_alloc, ↓reduceIte]; (repeat' split); all_goals first | rfl | (exfalso; omega)) | (repeat (first | exact Below.refl _ _ | refine Below.drew ?_ | refine below_new ?_ _)); done)
      | (refine laid_of (w.heap.size + 1 + 1) _ (w.heap.size + 1) hsz ?_ ?_ ?_ ?_ ?_ ?_ ?_ ?_ <;> first | omega | (simp only [heap_alloc_get, heap_drew, World.size_alloc, ↓reduceIte]; (repeat' split); all_goals first | rfl | (exfalso; omega)) | (repeat (first | exact Below.refl _ _ | refine Below.drew ?_ | refine below_new ?_ _)); done)
      | (refine laid_of (w.heap.size + 1 + 1) _ (w.heap.size + 1 + 1 + 1) hsz ?_ ?_ ?_ ?_ ?_ ?_ ?_ ?_ <;> first | omega | (simp only [heap_alloc_get, heap_drew, World.size_alloc, ↓reduceIte]; (repeat' split); all_goals first | rfl | (exfalso; omega)) | (repeat (first | exact Below.refl _ _ | refine Below.drew ?_ | refine below_new ?_ _)); done)
      | (refine laid_of (w.heap.size + 1 + 1 + 1) _ (w.heap.size + 1) hsz ?_ ?_ ?_ ?_ ?_ ?_ ?_ ?_ <;> first | omega | (simp only [heap_alloc_get, heap_drew, World.size_alloc, ↓reduceIte]; (repeat' split); all_goals first | rfl | (exfalso; omega)) | (repeat (first | exact Below.refl _ _ | refine Below.drew ?_ | refine below_new ?_ _)); done)
      | (refine laid_of (w.heap.size + 1 + 1 + 1) _ (w.heap.size + 1 + 1) hsz ?_ ?_ ?_ ?_ ?_ ?_ ?_ ?_ <;> first | omega | (simp only [heap_alloc_get, heap_drew, World.size_alloc, ↓reduceIte]; (repeat' split); all_goals first | rfl | (exfalso; omega)) | (repeat (first | exact Below.refl _ _ | refine Below.drew ?_ | refine below_new ?_ _)); done)
  case rest =>
    obtain ⟨bi, c, bs, rfl, hc, hr, hix, hrow, hbel, hc0, hbi0⟩ := hcut
    clear hmk hlen hmm
    have hrg := run_range_nilMap (P := Try.prog) wc 22 9 9 Try.underlying22
    have hnx : ∀ ty, (Instr.next (.pointer (some ⟨wc.heap.size, 0, none⟩)) false ty).run Try.prog (wc.alloc (.mapIter none 0 #[] 0)) = _ := fun ty => run_next_nilMap wc ty 0 0 #[]
    have hcl := lt_of_block hc
    have hrl := lt_of_block hr
    obtain ⟨b1, b2, b3, b4⟩ := two_cells hc
    obtain ⟨r1, r2, r3, r4⟩ := two_cells hr
    have hcn : c ≠ wc.heap.size := by omega
    have hrn : w.heap.size ≠ wc.heap.size := by omega
    go_wp2
    refine wp_loop_rounds 1 ?_
    rw [rounds_succ]
    go_wp2
    obtain ⟨cur, _, hbs⟩ := row_block hrow
    have hne : bs ≠ w.heap.size := fun e => by rw [e, hr] at hbs; simp at hbs
    refine bodyPost_ret (v := .agg #[.map (some bi), .slice (some ⟨bs, 0, none⟩) 0 0]) ?_ rfl ⟨bi, bs, 0, .map [], [], rfl, (((hix.setCell (by simp; omega) _).setCell (by simp; omega) _).alloc _).mono (by omega),
      (ownsRow_setCell_other (ownsRow_setCell_other hrow (by simpa [Value.ownBlock] using hne) _) (by simpa [Value.ownBlock] using hne) _).alloc _, (funext fun _ => rfl : Maps.has (.map [] : DataW H) = fun _ => false) ▸ col_start _, ((hbel.setCell (by simp) _).setCell (by simp) _).alloc (by simp; omega) _⟩
    have r6 : (((wc.setCell ⟨w.heap.size, 0, none⟩ (.map (some bi))).setCell ⟨w.heap.size, 1, none⟩ (.slice (some ⟨bs, 0, none⟩) 0 0)).alloc (.mapIter none 0 #[] 0)).heap[w.heap.size]? = _ :=
      (heap_alloc_get _ _ _).trans ((if_neg (by simp; omega)).trans (two_setCells01 hr (.map (some bi)) (.slice (some ⟨bs, 0, none⟩) 0 0)))
    obtain ⟨r7, r8, _, _⟩ := two_cells r6
    simp [results, Try.results5, go_sem, r7, r8]
end Go.Proofs.Qxb6628369a
