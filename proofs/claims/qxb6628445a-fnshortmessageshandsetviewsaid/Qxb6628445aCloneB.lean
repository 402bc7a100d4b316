/-
  Seat b6628445a: zzsmsCloneBytes (function 8), walked: a fresh slice that reads as the old one; nil for nil.
-/
import Derived.Test.Qxb6628445aBytes
namespace Go.Proofs.Qxb6628445a
open Go.RowKit

set_option maxRecDepth 100000 in
set_option maxHeartbeats 400000 in
theorem f8_none (w : World) : Calls Try.prog 8 #[.slice none 0 0] w fun e w' => e = .returned (.slice none 0 0) ∧ w' = w := by
  have hnil : ∀ W : World, (binOp .eql 23 (.slice none 0 0) (.slice none 0 0)).run Try.prog W = .ok (.bool true) W := fun W => Lib.run_eql_slice_nil W 23 5 none 0 0 0 0 Try.underlying23
  go_enter Try.func8, Try.ntmps8
  go_wp2
  go_ret
  exact ⟨rfl, rfl⟩

/-- The row so far: k bytes of n laid. -/
def Filled (wr : World) (B : Nat) (e : TypeId) (n k : Nat) (vs : List Value) : Prop := ∃ cur : Array Value, wr.heap[B]? = some (.cells cur e (0, 0)) ∧ cur.size = n ∧ ∀ j, j < k → cur[j]? = vs[j]?

theorem Filled.step {wr : World} {B : Nat} {e : TypeId} {n k : Nat} {vs : List Value} (h : Filled wr B e n k vs) (hk : k < n) {v : Value} (hv : vs[k]? = some v) : Filled (wr.setCell ⟨B, k, none⟩ v) B e n (k + 1) vs := by
  obtain ⟨cur, h1, h2, h3⟩ := h
  refine ⟨_, heap_setCell_row h1, by simp [h2], fun j hj => ?_⟩
  rw [Array.getElem?_setIfInBounds]
  by_cases e : k = j
  · subst e; rw [if_pos rfl, if_pos (by omega), hv]
  · rw [if_neg e]; exact h3 j (by omega)

theorem Filled.at {wr : World} {B : Nat} {e : TypeId} {n k : Nat} {vs : List Value} (h : Filled wr B e n k vs) {j : Nat} (hj : j < n) : (∃ v, wr.cell? ⟨B, j, none⟩ = some v) ∧ wr.frozen? ⟨B, j, none⟩ = false := by
  obtain ⟨cur, h1, h2, h3⟩ := h
  obtain ⟨c1, c2⟩ := row_cell (k := j) h1
  exact ⟨⟨cur[j]'(by omega), by rw [c1, Array.getElem?_eq_getElem (by omega)]⟩, c2⟩

theorem filled_start {w' : World} {B : Nat} {e : TypeId} {n : Nat} {vs xs : List Value} (h : w'.ownsRow B e 1 (.slice (some ⟨B, 0, none⟩) n n) n xs) : Filled w' B e n 0 vs := by
  rcases h.2 with ⟨h1, _⟩ | ⟨g, cap, cur, h1, _, h3, _, _, h6, _⟩
  · simp at h1
  · simp at h1
    obtain ⟨rfl, rfl⟩ := h1
    exact ⟨cur, h3, by simpa using h6, fun j hj => by omega⟩

theorem filled_bytes {wr : World} {B n k : Nat} {xs : List Int} (hk : xs.length ≤ k) (hn : n = xs.length) (h : Filled wr B 5 n k (byteVals xs)) : Bts wr ⟨some ⟨B, 0, none⟩, n, n⟩ xs := by
  obtain ⟨cur, h1, h2, h3⟩ := h
  exact ⟨hn, Nat.le_refl _, (fun e => by cases e), Rd.ofBlock h1 (fun j hj => h3 j (by simp [byteVals] at hj; omega))⟩

set_option maxRecDepth 100000 in
set_option maxHeartbeats 400000 in
theorem f8_some (a : Addr) (n cap : Nat) (xs : List Int) (w : World) (hs : Bts w ⟨some a, n, cap⟩ xs) (hle : n ≤ 1048576) :
    Calls Try.prog 8 #[.slice (some a) n cap] w fun e w' => e = .returned (.slice (some ⟨w.heap.size, 0, none⟩) n n) ∧ Bts w' ⟨some ⟨w.heap.size, 0, none⟩, n, n⟩ xs ∧ Below w.heap.size w w' := by
  have hnil : ∀ W : World, (binOp .eql 23 (.slice (some a) n cap) (.slice none 0 0)).run Try.prog W = .ok (.bool false) W := fun W => Lib.run_eql_slice_nil W 23 5 (some a) n cap 0 0 Try.underlying23
  obtain ⟨i0, hi, hz0, hz1, hz2⟩ := info_parts info5
  have hln : n = xs.length := hs.len
  have HL : Hid (n = xs.length) := hln
  clear hln
  go_enter Try.func8, Try.ntmps8
  go_wp2_with (first
    | (at_make; refine wpList_make_full _ rfl _ _ 23 rfl w.heap.size 5 i0 (.int .u8 0) 1 Try.underlying23 hi hz0 hz1 .i64 .i64 _ _ n rfl rfl rfl rfl (by rw [hz2]; omega) (by unfold maxLen; omega) (Nat.le_refl _) ?_; intro w0 hown0 hg0)
    | go_in)
  go_loopw [4] (fun i wr => ∃ k : Nat, k ≤ n ∧ i = .int .i64 k ∧ Filled wr w.heap.size 5 n k (byteVals xs) ∧ Below w.heap.size w wr) (fun i _ => n - (intOf i).toNat)
  case atStart => exact ⟨0, Nat.zero_le _, rfl, filled_start hown0, (Below.refl _ _).grown hg0 (Nat.le_refl _) (fun j hj => by cases hj)⟩
  case round =>
    obtain ⟨k, hk, rfl, hf, hb⟩ := hrel
    by_cases hlt : k < n
    · obtain ⟨⟨v, hc1⟩, hc2⟩ := hf.at hlt
      obtain ⟨p, hp1, hp2⟩ := (hs.later hb).at (k := k) (by rw [← HL.out]; exact hlt)
      simp only at hp1
      have hkx : k < xs.length := by rw [← HL.out]; exact hlt
      go_wp2
      exact ⟨⟨k + 1, by omega, by go_num, hf.step hlt (by simp [byteVals, hkx]), hb.setCell (by simp) _⟩, by simp [intOf]; omega⟩
    · go_wp2
      go_ret
      exact ⟨rfl, filled_bytes (by have := HL.out; omega) HL.out hf, hb⟩

theorem f8_any (s : Sl) (xs : List Int) (w : World) (hs : Bts w s xs) (hle : xs.length ≤ 1048576) :
    Calls Try.prog 8 #[.slice s.ao s.n s.cap] w fun e w' => ∃ r : Sl, e = .returned (.slice r.ao r.n r.cap) ∧ Bts w' r xs ∧ r.ao.isNone = s.ao.isNone ∧ Below w.heap.size w w' := by
  obtain ⟨ao, n, cap⟩ := s
  cases ao with
  | none =>
    have h1 : cap = 0 := hs.bare rfl
    have h2 : n ≤ cap := hs.room
    obtain rfl : n = 0 := by omega
    subst h1
    refine (f8_none w).mono ?_
    rintro e w' ⟨rfl, rfl⟩
    exact ⟨⟨none, 0, 0⟩, rfl, hs, rfl, Below.refl _ _⟩
  | some a =>
    refine (f8_some a n cap xs w hs (by have : n = xs.length := hs.len; omega)).mono ?_
    rintro e w' ⟨rfl, h1, h2⟩
    exact ⟨⟨some ⟨w.heap.size, 0, none⟩, n, n⟩, rfl, h1, rfl, h2⟩
end Go.Proofs.Qxb6628445a
