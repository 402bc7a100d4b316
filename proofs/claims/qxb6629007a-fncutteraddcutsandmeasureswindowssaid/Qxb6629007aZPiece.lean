/-
  Seat b6629007a: the pieces of the flow: where they lie, what is kept of them.
-/
import Derived.Test.Qxb6629007aZPlain
import Derived.Test.Qxb6629007aKept
namespace Go.Proofs.Qxb6629007a
open Go.RowKit

theorem offs_get (o : Nat) (all : List (List Pkt)) : ∀ k, k < all.length → (offs o all).getD k 0 = ((o + (all.take k).flatten.length : Nat) : Int) := by
  induction all generalizing o with
  | nil => intro k hk; simp at hk
  | cons a l ih =>
    intro k hk
    rw [offs]
    match k with
    | 0 => simp
    | k + 1 =>
      have := ih (o + a.length) k (by simpa using hk)
      rw [List.getD_cons_succ, this, List.take_succ_cons, List.flatten_cons, List.length_append, Nat.add_assoc]

theorem keptFrom_append (M i : Int) (l r : List (List Pkt)) : keptFrom M i (l ++ r) = keptFrom M i l ++ keptFrom M (i + l.length) r := by
  induction l generalizing i with
  | nil => simp [keptFrom]
  | cons a l ih =>
    rw [List.cons_append, keptFrom, keptFrom, ih]
    have e : i + 1 + (l.length : Int) = i + ((a :: l).length : Int) := by simp; omega
    rw [e]
    split <;> simp

theorem piece_split {all : List (List Pkt)} {k : Nat} (hk : k < all.length) : all = all.take k ++ all[k] :: all.drop (k + 1) := by
  rw [← List.drop_eq_getElem_cons hk, List.take_append_drop]

theorem kept_piece {M : Int} {all : List (List Pkt)} {k : Nat} (hk : k < all.length) (h : M ≤ (all[k].length : Int)) : (keptFrom M 1 all)[(keptFrom M 1 (all.take k)).length]? = some ((k : Int) + 1, all[k]) := by
  have e := piece_split hk
  have hl : (all.take k).length = k := by simp; omega
  rw [show keptFrom M 1 all = keptFrom M 1 (all.take k) ++ keptFrom M (1 + (all.take k).length) (all[k] :: all.drop (k + 1)) from by rw [← keptFrom_append, ← e]]
  rw [List.getElem?_append_right (Nat.le_refl _), Nat.sub_self, keptFrom, if_pos h, hl, show (1 : Int) + (k : Int) = (k : Int) + 1 from by omega]
  rfl

theorem kept_next {M : Int} {all : List (List Pkt)} {k : Nat} (hk : k < all.length) : (keptFrom M 1 (all.take (k + 1))).length = (keptFrom M 1 (all.take k)).length + (if M ≤ (all[k].length : Int) then 1 else 0) := by
  rw [List.take_succ_eq_append_getElem hk, keptFrom_snoc, List.length_append]
  split <;> simp

/-- Piece k: its bounds. -/
theorem piece_bounds {all : List (List Pkt)} {ps : List Pkt} (hf : all.flatten = ps) {k : Nat} (hk : k < all.length) :
    (all.take (k + 1)).flatten.length = (all.take k).flatten.length + all[k].length ∧ (all.take (k + 1)).flatten.length ≤ ps.length ∧ (k + 1 = all.length → (all.take (k + 1)).flatten.length = ps.length) ∧
    ∀ i (hi : i < all[k].length), ∃ h : (all.take k).flatten.length + i < ps.length, ps[(all.take k).flatten.length + i] = all[k][i] := by
  have e1 : (all.take (k + 1)).flatten.length = (all.take k).flatten.length + all[k].length := by
    rw [List.take_succ_eq_append_getElem hk, List.flatten_append, List.length_append]
    simp
  have e2 : ps = (all.take k).flatten ++ (all[k] ++ (all.drop (k + 1)).flatten) := by
    rw [← hf]
    conv => lhs; rw [piece_split hk]
    rw [List.flatten_append, List.flatten_cons]
  have e3 := congrArg List.length e2
  rw [List.length_append, List.length_append] at e3
  refine ⟨e1, by omega, fun h => ?_, fun i hi => ⟨by omega, ?_⟩⟩
  · rw [List.take_of_length_le (by omega), hf]
  · have : ps[(all.take k).flatten.length + i]? = all[k][i]? := by
      rw [e2, List.getElem?_append_right (by omega), List.getElem?_append_left (by omega)]
      congr 1
      omega
    rw [List.getElem?_eq_getElem (by omega), List.getElem?_eq_getElem hi] at this
    exact Option.some.inj this

theorem elem22 : Try.prog.underlying 22 = some (.slice (Try.prog.elem 22)) := by kernel_rfl
theorem size22 (w : World) : (sizeOf (Try.prog.elem 22)).run Try.prog w = .ok 2 w := by kernel_rfl

/-- Where the packets lie. -/
structure PkAt (w : World) (ao : Option Addr) (n cap : Nat) (ps : List Pkt) : Prop where
  room : n ≤ cap
  lie : 0 < n → ∃ b off, ao = some ⟨b, off, none⟩ ∧ b < w.heap.size ∧ ∀ k (hk : k < ps.length), w.cell? ⟨b, off + k * 2, none⟩ = some (.int .i64 ps[k].1) ∧ w.cell? ⟨b, off + k * 2 + 1, none⟩ = some (.int .i64 ps[k].2)

/-- The slice of piece k. -/
theorem piece_pks {w : World} {ao : Option Addr} {n cap : Nat} {ps : List Pkt} (hp : Pks w ao n cap ps) (ha : PkAt w ao n cap ps) {all : List (List Pkt)} (hf : all.flatten = ps) {k : Nat} (hk : k < all.length) (hne : all[k] ≠ []) :
    ∃ ao2 cap2, (∀ W : World, (Instr.sliceAt 22 (.slice ao n cap) (some (.int .i64 (((all.take k).flatten.length : Nat) : Int))) (some (.int .i64 (((all.take (k + 1)).flatten.length : Nat) : Int))) none).run Try.prog W = .ok (.slice ao2 all[k].length cap2) W) ∧
      ∀ w', Below w.heap.size w w' → Pks w' ao2 all[k].length cap2 all[k] := by
  obtain ⟨e1, e2, _, e4⟩ := piece_bounds hf hk
  have hl := hp.len
  have hpos := List.length_pos_iff.2 hne
  have hroom := ha.room
  obtain ⟨b, off, rfl, hb, hc⟩ := ha.lie (by omega)
  generalize (all.take k).flatten.length = s at *
  generalize (all.take (k + 1)).flatten.length = e at *
  refine ⟨some ⟨b, off + s * 2, none⟩, cap - s, fun W => ?_, fun w' hw => ⟨rfl, ⟨b, off + s * 2, by have := hw.size; omega, fun i hi => ⟨fun W => ?_, ?_, ?_, by have := hw.size; omega⟩⟩, fun q hq => ?_⟩⟩
  · rw [run_sliceAt_slice _ _ _ _ _ _ elem22, run_slice_lh _ _ _ _ _ elem22 _ _ _ _ (by omega) (by omega) (by omega), size22]
    have h1 : ¬ cap = s := by omega
    simp [sliced, h1, Addr.add]
    omega
  · simp [Instr.indexAt, run_underlying Try.underlying22, asIntOf, hi, Addr.add]
  · obtain ⟨h1, h2⟩ := e4 i hi
    have := (hc (s + i) h1).1
    rw [h2, Nat.add_mul, ← Nat.add_assoc] at this
    rw [hw.cell (by exact hb)]
    exact this
  · obtain ⟨h1, h2⟩ := e4 i hi
    have := (hc (s + i) h1).2
    rw [h2, Nat.add_mul, ← Nat.add_assoc] at this
    rw [hw.cell (by exact hb)]
    exact this
  · obtain ⟨i, hi, rfl⟩ := List.mem_iff_getElem.1 hq
    obtain ⟨h1, h2⟩ := e4 i hi
    rw [← h2]
    exact hp.wf _ (List.getElem_mem h1)

/-- A row of ints: where its numbers lie. -/
theorem ints3_at {w : World} {base : Nat} {v : Value} {xs : List Int} (h : w.ownsRow base 3 1 v xs.length (xs.map (Value.int .i64))) : ∃ ao cap, v = .slice ao xs.length cap ∧ ∃ g, ∀ k, k < xs.length → (∀ W : World, (Instr.indexAt 27 (.slice ao xs.length cap) (.int .i64 (k : Int))).run Try.prog W = .ok (.pointer (some ⟨g, k, none⟩)) W) ∧ w.cell? ⟨g, k, none⟩ = some (.int .i64 (xs.getD k 0)) := by
  rcases h.2 with ⟨h1, h2⟩ | ⟨g, cap, cur, h1, h2, h3, h4, h5, h6, h7⟩
  · exact ⟨none, 0, by rw [h1, h2], 0, fun k hk => absurd hk (by omega)⟩
  · subst h1
    refine ⟨_, cap, rfl, g, fun k hk => ⟨fun W => ?_, ?_⟩⟩
    · simp [Instr.indexAt, run_underlying Try.underlying27, asIntOf, hk, Addr.add]
      intro h0; omega
    · rw [(row_cell h3).1, ← Array.getElem?_toList]
      have : (cur.toList.take (xs.length * 1))[k]? = (xs.map (Value.int .i64))[k]? := by rw [h7]
      rw [List.getElem?_take_of_lt (by omega), List.getElem?_map, List.getElem?_eq_getElem hk] at this
      rw [this, List.getD_eq_getElem?_getD, List.getElem?_eq_getElem hk]
      rfl
end Go.Proofs.Qxb6629007a
