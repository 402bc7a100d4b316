/-
  Seat b6628445a: SLICES OF BYTES AND SLICES OF SLICES, AS THE WALKS SPEAK OF THEM: whatever address they have (nil, empty, any), 'Rd': the cells from there on; 'Bts': the slice reads as these bytes; carried into every world that has only grown. No walk in here.
-/
import Derived.Test.Qxb6628445aRows
import Derived.WalkKit
import Derived.ProofKit
import Derived.WalkSpells
namespace Go.Proofs.Qxb6628445a
open Go.RowKit

/-- A slice's three words. -/
structure Sl where
  ao : Option Addr
  n : Nat
  cap : Nat

def Sl.val (s : Sl) : Value := .slice s.ao s.n s.cap

/-- From ao on the cells vs lie; nil leads to none. -/
def Rd (w : World) (ao : Option Addr) (vs : List Value) : Prop := (ao = none → vs = []) ∧ ∀ a, ao = some a → ∀ k, k < vs.length → w.cell? (a.add k) = vs[k]?

def byteVals (xs : List Int) : List Value := xs.map (Value.int .u8)

/-- The slice s reads as the bytes xs. -/
structure Bts (w : World) (s : Sl) (xs : List Int) : Prop where
  len : s.n = xs.length
  room : s.n ≤ s.cap
  bare : s.ao = none → s.cap = 0
  rd : Rd w s.ao (byteVals xs)

/-- The slice of slices ao reads as these rows. -/
structure Mat (w : World) (ao : Option Addr) (rs : List Sl) (rows : List (List Int)) : Prop where
  len : rs.length = rows.length
  rd : Rd w ao (rs.map Sl.val)
  each : ∀ k (h : k < rs.length) (h' : k < rows.length), Bts w rs[k] rows[k]

theorem Rd.later {w w' : World} {ao : Option Addr} {vs : List Value} (h : Rd w ao vs) (hb : Below w.heap.size w w') : Rd w' ao vs := by
  refine ⟨h.1, fun a ha k hk => ?_⟩
  have h1 := h.2 a ha k hk
  rw [List.getElem?_eq_getElem hk] at h1
  rw [hb.cell (World.block_lt_of_cell? w _ h1), List.getElem?_eq_getElem hk]
  exact h1

theorem Bts.later {w w' : World} {s : Sl} {xs : List Int} (h : Bts w s xs) (hb : Below w.heap.size w w') : Bts w' s xs := ⟨h.len, h.room, h.bare, h.rd.later hb⟩

theorem Mat.later {w w' : World} {ao : Option Addr} {rs : List Sl} {rows : List (List Int)} (h : Mat w ao rs rows) (hb : Below w.heap.size w w') : Mat w' ao rs rows := ⟨h.len, h.rd.later hb, fun k h1 h2 => (h.each k h1 h2).later hb⟩

theorem Rd.nil (w : World) (ao : Option Addr) : Rd w ao [] := ⟨fun _ => rfl, fun _ _ k hk => by simp at hk⟩

/-- THE ADDRESS OF ELEMENT k, and what lies there: whatever the slice's own address is. -/
theorem Rd.at {w : World} {ao : Option Addr} {vs : List Value} (h : Rd w ao vs) {P : Program} {t e : TypeId} (ht : P.underlying t = some (.slice e)) (hs : ∀ W : World, (sizeOf e).run P W = .ok 1 W) {n : Nat} (hn : n = vs.length) (cap : Nat) {k : Nat} (hk : k < n) :
    ∃ p : Addr, (∀ W : World, (Instr.indexAt t (.slice ao n cap) (.int .i64 (k : Int))).run P W = .ok (.pointer (some p)) W) ∧ w.cell? p = some (vs[k]'(by omega)) := by
  cases ao with
  | none => have := h.1 rfl; subst this; simp at hn; omega
  | some a =>
    refine ⟨a.add k, fun W => ?_, ?_⟩
    · have hb : (0 : Int) ≤ (k : Int) ∧ (k : Int) < (n : Int) := by omega
      simp [Instr.indexAt, run_underlying ht, asIntOf, hk, hs W]
    · rw [h.2 a rfl k (by omega), List.getElem?_eq_getElem]

theorem size5 (W : World) : (sizeOf 5).run Try.prog W = .ok 1 W := by kernel_rfl
theorem size23 (W : World) : (sizeOf 23).run Try.prog W = .ok 1 W := by kernel_rfl

/-- Byte k of a slice that reads as xs. -/
theorem Bts.at {w : World} {s : Sl} {xs : List Int} (h : Bts w s xs) {k : Nat} (hk : k < xs.length) :
    ∃ p : Addr, (∀ W : World, (Instr.indexAt 23 (.slice s.ao s.n s.cap) (.int .i64 (k : Int))).run Try.prog W = .ok (.pointer (some p)) W) ∧ w.cell? p = some (.int .u8 xs[k]) := by
  obtain ⟨p, h1, h2⟩ := h.rd.at Try.underlying23 size5 (n := s.n) (by simp [byteVals, h.len]) s.cap (k := k) (by have := h.len; omega)
  exact ⟨p, h1, by simpa [byteVals] using h2⟩

/-- Row k. -/
theorem Mat.at {w : World} {ao : Option Addr} {rs : List Sl} {rows : List (List Int)} (h : Mat w ao rs rows) (cap : Nat) {k : Nat} (hk : k < rs.length) :
    ∃ p : Addr, (∀ W : World, (Instr.indexAt 22 (.slice ao rs.length cap) (.int .i64 (k : Int))).run Try.prog W = .ok (.pointer (some p)) W) ∧ w.cell? p = some (.slice rs[k].ao rs[k].n rs[k].cap) := by
  obtain ⟨p, h1, h2⟩ := h.rd.at Try.underlying22 size23 (n := rs.length) (by simp) cap (k := k) hk
  exact ⟨p, h1, by simpa [Sl.val] using h2⟩

/-- A row of cells in a block, from its head: read as a slice. -/
theorem Rd.ofBlock {w : World} {b : Nat} {cur : Array Value} {e : TypeId} (h : w.heap[b]? = some (.cells cur e (0, 0))) {vs : List Value} (hv : ∀ k, k < vs.length → cur[k]? = vs[k]?) : Rd w (some ⟨b, 0, none⟩) vs := by
  refine ⟨(fun e => by cases e), fun a ha k hk => ?_⟩
  cases ha
  rw [Addr.add_lit]
  simp only [World.cell?, h, Nat.zero_add]
  exact hv k hk

theorem heap_alloc_get (w : World) (o : Obj) (i : Nat) : (w.alloc o).heap[i]? = if i = w.heap.size then some o else w.heap[i]? := by
  show (w.heap.push o)[i]? = _
  rw [Array.getElem?_push]

/-- The block behind a store into it. -/
theorem heap_setCell_row {w : World} {b k : Nat} {cur : Array Value} {e : TypeId} {v : Value} (h : w.heap[b]? = some (.cells cur e (0, 0))) : (w.setCell ⟨b, k, none⟩ v).heap[b]? = some (.cells (cur.setIfInBounds k v) e (0, 0)) := by
  have hlt := lt_of_block h
  have h' : w.heap[b] = .cells cur e (0, 0) := by simpa [Array.getElem?_eq_getElem hlt] using h
  show (w.heap.modify b _)[b]? = _
  rw [Array.getElem?_eq_getElem (by simpa using hlt), Array.getElem_modify_self, h']
  rfl

/-- A cell of a row, and that it may be written. -/
theorem row_cell {w : World} {b k : Nat} {cur : Array Value} {e : TypeId} (h : w.heap[b]? = some (.cells cur e (0, 0))) : w.cell? ⟨b, k, none⟩ = cur[k]? ∧ w.frozen? ⟨b, k, none⟩ = false := by
  simp [World.cell?, World.frozen?, h]

/-- What a value that owns a row of its own reads as. -/
theorem row_of_owns {w : World} {base : Nat} {e : TypeId} {v : Value} {n : Nat} {xs : List Value} (h : w.ownsRow base e 1 v n xs) : ∃ s : Sl, v = s.val ∧ s.n = n ∧ s.n ≤ s.cap ∧ (s.ao = none → s.cap = 0) ∧ Rd w s.ao xs := by
  have hl := h.1
  rcases h.2 with ⟨h1, h2⟩ | ⟨g, cap, cur, h1, h2, h3, h4, h5, h6, h7⟩
  · subst h2
    have hx : xs = [] := List.eq_nil_of_length_eq_zero (by simpa using hl)
    subst hx
    exact ⟨⟨none, 0, 0⟩, h1, rfl, Nat.le_refl _, fun _ => rfl, Rd.nil _ _⟩
  · refine ⟨⟨some ⟨g, 0, none⟩, n, cap⟩, h1, rfl, h4, (fun e => by cases e), Rd.ofBlock h3 (fun k hk => ?_)⟩
    rw [← h7]
    rw [← h7] at hk
    simp at hk
    rw [List.getElem?_take, if_pos (by omega)]
    simp

theorem info5 : (Try.prog.info? 5).map (fun i => (i.zero, i.size, i.bytes)) = some (some (.int .u8 0), 1, 1) := by kernel_rfl
theorem info23 : (Try.prog.info? 23).map (fun i => (i.zero, i.size, i.bytes)) = some (some (.slice none 0 0), 1, 24) := by kernel_rfl

/-- append ONTO A SLICE THAT IS FULL (its capacity is its length): nothing that was there turns. -/
theorem run_append_full {w : World} {s p : Sl} {xs ys : List Int} (hs : Bts w s xs) (hfull : s.cap = s.n) (hp : Bts w p ys) (hlen : xs.length + ys.length ≤ 4194304) (ty : TypeId) :
    ∃ (r : Sl) (w' : World), (Builtin.append_ #[23, 23] ty #[.slice s.ao s.n s.cap, .slice p.ao p.n p.cap]).run Try.prog w = .ok (.slice r.ao r.n r.cap) w' ∧ Bts w' r (xs ++ ys) ∧ Below w.heap.size w w' := by
  obtain ⟨i0, hi, hz0, hz1, hz2⟩ := info_parts info5
  have hln := hs.len
  have hpn := hp.len
  by_cases h0 : ys = []
  · -- nothing is appended: the slice as it was
    subst h0
    simp only [List.length_nil] at hpn
    refine ⟨s, w, ?_, by simpa using hs, Below.refl _ _⟩
    rw [hpn, hfull]
    have hst : ∀ a : Addr, (storeCells a []).run Try.prog w = .ok () w := fun a => rfl
    cases hsa : s.ao with
    | none => cases hpa : p.ao <;> simp [Builtin.append_, run_underlying Try.underlying23, sizeOf, typeInfo, hi, Builtin.lenOf, Builtin.firstCells, loadCells, loadCellsFrom]
    | some a => cases hpa : p.ao <;> simp [Builtin.append_, run_underlying Try.underlying23, sizeOf, typeInfo, hi, Builtin.lenOf, Builtin.firstCells, loadCells, loadCellsFrom, hst]
  · have hpos : 0 < ys.length := by cases ys <;> simp_all
    obtain ⟨ad, had⟩ : ∃ ad, p.ao = some ad := by
      cases h : p.ao with
      | none => have := hp.rd.1 h; simp [byteVals] at this; exact absurd this h0
      | some ad => exact ⟨ad, rfl⟩
    have hnews : ∀ j u, (byteVals ys)[j]? = some u → w.cell? (ad.add j) = some u := fun j u hj => by
      have hj' := (List.getElem?_eq_some_iff.1 hj).1
      rw [hp.rd.2 ad had j hj']; exact hj
    have fin : ∀ (v' : Value) (w' : World), w'.ownsRow w.heap.size 5 1 v' (s.n + p.n) (byteVals xs ++ byteVals ys) → w.grownBy w' none → ∃ r : Sl, v' = .slice r.ao r.n r.cap ∧ Bts w' r (xs ++ ys) ∧ Below w.heap.size w w' := by
      intro v' w' ho hg
      obtain ⟨r, h1, h2, h3, h4, h5⟩ := row_of_owns ho
      exact ⟨r, h1, ⟨by rw [h2, hln, hpn]; simp, h3, h4, by simpa [byteVals] using h5⟩, (Below.refl _ _).grown hg (Nat.le_refl _) (fun j hj => by cases hj)⟩
    cases hsa : s.ao with
    | some b =>
      have holds : ∀ j u, (byteVals xs)[j]? = some u → w.cell? (b.add j) = some u := fun j u hj => by
        have hj' := (List.getElem?_eq_some_iff.1 hj).1
        rw [hs.rd.2 b hsa j hj']; exact hj
      obtain ⟨v', w', hrun, r1, r2⟩ := run_append_arg_grows (P := Try.prog) w 23 ty 5 i0 (.int .u8 0) 1 1 Try.underlying23 hi hz0 hz1 hz2 rfl (by decide) b s.n s.cap (byteVals xs) (by simp [byteVals, hln]) holds ad p.n p.cap (byteVals ys) (by simp [byteVals, hpn]) hnews (by omega) (by unfold maxLen; omega) (by omega)
      obtain ⟨r, hr, hb, hbel⟩ := fin v' w' r1 r2
      exact ⟨r, w', by rw [had, hrun, hr], hb, hbel⟩
    | none =>
      have hc0 := hs.bare hsa
      have hn0 : s.n = 0 := by omega
      have hx0 : xs = [] := List.eq_nil_of_length_eq_zero (by omega)
      obtain ⟨v', w', hrun, r1, r2, _⟩ := run_append_own (P := Try.prog) w w.heap.size 23 ty 5 i0 (.int .u8 0) 1 1 Try.underlying23 hi hz0 hz1 hz2 rfl (by decide) (.slice none 0 0) 0 [] (World.ownsRow_nil w _ 5 1) ad p.n p.cap (byteVals ys) (by simp [byteVals, hpn]) hnews (by intro u hu; simp [byteVals] at hu; obtain ⟨x, _, rfl⟩ := hu; rfl) (by unfold maxLen; omega) (by omega) (Nat.le_refl _)
      obtain ⟨r, hr, hb, hbel⟩ := fin v' w' (by rw [hn0, hx0]; exact r1) r2
      exact ⟨r, w', by rw [had, hc0, hn0, hrun, hr], hb, hbel⟩

end Go.Proofs.Qxb6628445a
