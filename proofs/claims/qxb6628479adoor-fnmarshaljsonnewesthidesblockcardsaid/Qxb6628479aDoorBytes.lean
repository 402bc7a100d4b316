/-
  Seat b6628479aD: SLICES OF BYTES, AS THE WALKS SPEAK OF THEM: whatever address they have (nil, empty, any), 'Rd': the cells from there on; 'Bts': the slice reads as these bytes; carried into every world that has only grown. No walk in here.
-/
import Derived.Test.Qxb6628479aDoorRows
import Derived.WalkKit
import Derived.ProofKit
import Derived.WalkSpells
namespace Go.Proofs.Qxb6628479aDoor
open Go.RowKit

/-- A slice's three words. -/
structure Sl where
  ao : Option Addr
  n : Nat
  cap : Nat

def Sl.val (s : Sl) : Value := .slice s.ao s.n s.cap

/-- From ao on the cells vs lie; nil leads to none. -/
def Rd (w : World) (ao : Option Addr) (vs : List Value) : Prop := (ao = none → vs = []) ∧ ∀ a, ao = some a → ∀ k, k < vs.length → w.cell? (a.add k) = vs[k]?

def byteVals (xs : List Int) : List Value := xs.map (Value.int .u8)

/-- The slice s reads as the bytes xs. -/
structure Bts (w : World) (s : Sl) (xs : List Int) : Prop where
  len : s.n = xs.length
  room : s.n ≤ s.cap
  bare : s.ao = none → s.cap = 0
  rd : Rd w s.ao (byteVals xs)

theorem Rd.later {w w' : World} {ao : Option Addr} {vs : List Value} (h : Rd w ao vs) (hb : Below w.heap.size w w') : Rd w' ao vs := by
  refine ⟨h.1, fun a ha k hk => ?_⟩
  have h1 := h.2 a ha k hk
  rw [List.getElem?_eq_getElem hk] at h1
  rw [hb.cell (World.block_lt_of_cell? w _ h1), List.getElem?_eq_getElem hk]
  exact h1

theorem Bts.later {w w' : World} {s : Sl} {xs : List Int} (h : Bts w s xs) (hb : Below w.heap.size w w') : Bts w' s xs := ⟨h.len, h.room, h.bare, h.rd.later hb⟩

theorem Rd.nil (w : World) (ao : Option Addr) : Rd w ao [] := ⟨fun _ => rfl, fun _ _ k hk => by simp at hk⟩

/-- THE ADDRESS OF ELEMENT k, and what lies there: whatever the slice's own address is. -/
theorem Rd.at {w : World} {ao : Option Addr} {vs : List Value} (h : Rd w ao vs) {P : Program} {t e : TypeId} (ht : P.underlying t = some (.slice e)) (hs : ∀ W : World, (sizeOf e).run P W = .ok 1 W) {n : Nat} (hn : n = vs.length) (cap : Nat) {k : Nat} (hk : k < n) :
    ∃ p : Addr, (∀ W : World, (Instr.indexAt t (.slice ao n cap) (.int .i64 (k : Int))).run P W = .ok (.pointer (some p)) W) ∧ w.cell? p = some (vs[k]'(by omega)) := by
  cases ao with
  | none => have := h.1 rfl; subst this; simp at hn; omega
  | some a =>
    refine ⟨a.add k, fun W => ?_, ?_⟩
    · have hb : (0 : Int) ≤ (k : Int) ∧ (k : Int) < (n : Int) := by omega
      simp [Instr.indexAt, run_underlying ht, asIntOf, hk, hs W]
    · rw [h.2 a rfl k (by omega), List.getElem?_eq_getElem]

theorem size5 (W : World) : (sizeOf 5).run Tryd.prog W = .ok 1 W := by kernel_rfl

/-- Byte k of a slice that reads as xs. -/
theorem Bts.at {w : World} {s : Sl} {xs : List Int} (h : Bts w s xs) {k : Nat} (hk : k < xs.length) :
    ∃ p : Addr, (∀ W : World, (Instr.indexAt 23 (.slice s.ao s.n s.cap) (.int .i64 (k : Int))).run Tryd.prog W = .ok (.pointer (some p)) W) ∧ w.cell? p = some (.int .u8 xs[k]) := by
  obtain ⟨p, h1, h2⟩ := h.rd.at Tryd.underlying23 size5 (n := s.n) (by simp [byteVals, h.len]) s.cap (k := k) (by have := h.len; omega)
  exact ⟨p, h1, by simpa [byteVals] using h2⟩

/-- A row of cells in a block, from its head: read as a slice. -/
theorem Rd.ofBlock {w : World} {b : Nat} {cur : Array Value} {e : TypeId} {fr : Nat × Nat} (h : w.heap[b]? = some (.cells cur e fr)) {vs : List Value} (hv : ∀ k, k < vs.length → cur[k]? = vs[k]?) : Rd w (some ⟨b, 0, none⟩) vs := by
  refine ⟨(fun e => by cases e), fun a ha k hk => ?_⟩
  cases ha
  rw [Addr.add_lit]
  simp only [World.cell?, h, Nat.zero_add]
  exact hv k hk

theorem heap_alloc_get (w : World) (o : Obj) (i : Nat) : (w.alloc o).heap[i]? = if i = w.heap.size then some o else w.heap[i]? := by
  show (w.heap.push o)[i]? = _
  rw [Array.getElem?_push]

/-- The block behind a store into it. -/
theorem heap_setCell_row {w : World} {b k : Nat} {cur : Array Value} {e : TypeId} {v : Value} (h : w.heap[b]? = some (.cells cur e (0, 0))) : (w.setCell ⟨b, k, none⟩ v).heap[b]? = some (.cells (cur.setIfInBounds k v) e (0, 0)) := by
  have hlt := lt_of_block h
  have h' : w.heap[b] = .cells cur e (0, 0) := by simpa [Array.getElem?_eq_getElem hlt] using h
  show (w.heap.modify b _)[b]? = _
  rw [Array.getElem?_eq_getElem (by simpa using hlt), Array.getElem_modify_self, h']
  rfl

/-- A cell of a row, and that it may be written. -/
theorem row_cell {w : World} {b k : Nat} {cur : Array Value} {e : TypeId} (h : w.heap[b]? = some (.cells cur e (0, 0))) : w.cell? ⟨b, k, none⟩ = cur[k]? ∧ w.frozen? ⟨b, k, none⟩ = false := by
  simp [World.cell?, World.frozen?, h]

/-- What a value that owns a row of its own reads as. -/
theorem row_of_owns {w : World} {base : Nat} {e : TypeId} {v : Value} {n : Nat} {xs : List Value} (h : w.ownsRow base e 1 v n xs) : ∃ s : Sl, v = s.val ∧ s.n = n ∧ s.n ≤ s.cap ∧ (s.ao = none → s.cap = 0) ∧ Rd w s.ao xs := by
  have hl := h.1
  rcases h.2 with ⟨h1, h2⟩ | ⟨g, cap, cur, h1, h2, h3, h4, h5, h6, h7⟩
  · subst h2
    have hx : xs = [] := List.eq_nil_of_length_eq_zero (by simpa using hl)
    subst hx
    exact ⟨⟨none, 0, 0⟩, h1, rfl, Nat.le_refl _, fun _ => rfl, Rd.nil _ _⟩
  · refine ⟨⟨some ⟨g, 0, none⟩, n, cap⟩, h1, rfl, h4, (fun e => by cases e), Rd.ofBlock h3 (fun k hk => ?_)⟩
    rw [← h7]
    rw [← h7] at hk
    simp at hk
    rw [List.getElem?_take, if_pos (by omega)]
    simp

theorem info5 : (Tryd.prog.info? 5).map (fun i => (i.zero, i.size, i.bytes)) = some (some (.int .u8 0), 1, 1) := by kernel_rfl

/-- The row so far: k bytes of n laid. -/
def Filled (wr : World) (B : Nat) (e : TypeId) (n k : Nat) (vs : List Value) : Prop := ∃ cur : Array Value, wr.heap[B]? = some (.cells cur e (0, 0)) ∧ cur.size = n ∧ ∀ j, j < k → cur[j]? = vs[j]?

theorem Filled.step {wr : World} {B : Nat} {e : TypeId} {n k : Nat} {vs : List Value} (h : Filled wr B e n k vs) (hk : k < n) {v : Value} (hv : vs[k]? = some v) : Filled (wr.setCell ⟨B, k, none⟩ v) B e n (k + 1) vs := by
  obtain ⟨cur, h1, h2, h3⟩ := h
  refine ⟨_, heap_setCell_row h1, by simp [h2], fun j hj => ?_⟩
  rw [Array.getElem?_setIfInBounds]
  by_cases e : k = j
  · subst e; rw [if_pos rfl, if_pos (by omega), hv]
  · rw [if_neg e]; exact h3 j (by omega)

theorem Filled.at {wr : World} {B : Nat} {e : TypeId} {n k : Nat} {vs : List Value} (h : Filled wr B e n k vs) {j : Nat} (hj : j < n) : (∃ v, wr.cell? ⟨B, j, none⟩ = some v) ∧ wr.frozen? ⟨B, j, none⟩ = false := by
  obtain ⟨cur, h1, h2, h3⟩ := h
  obtain ⟨c1, c2⟩ := row_cell (k := j) h1
  exact ⟨⟨cur[j]'(by omega), by rw [c1, Array.getElem?_eq_getElem (by omega)]⟩, c2⟩

theorem filled_start {w' : World} {B : Nat} {e : TypeId} {n : Nat} {vs xs : List Value} (h : w'.ownsRow B e 1 (.slice (some ⟨B, 0, none⟩) n n) n xs) : Filled w' B e n 0 vs := by
  rcases h.2 with ⟨h1, _⟩ | ⟨g, cap, cur, h1, _, h3, _, _, h6, _⟩
  · simp at h1
  · simp at h1
    obtain ⟨rfl, rfl⟩ := h1
    exact ⟨cur, h3, by simpa using h6, fun j hj => by omega⟩

theorem filled_bytes {wr : World} {B n k : Nat} {xs : List Int} (hk : xs.length ≤ k) (hn : n = xs.length) (h : Filled wr B 5 n k (byteVals xs)) : Bts wr ⟨some ⟨B, 0, none⟩, n, n⟩ xs := by
  obtain ⟨cur, h1, h2, h3⟩ := h
  exact ⟨hn, Nat.le_refl _, (fun e => by cases e), Rd.ofBlock h1 (fun j hj => h3 j (by simp [byteVals] at hj; omega))⟩

end Go.Proofs.Qxb6628479aDoor
