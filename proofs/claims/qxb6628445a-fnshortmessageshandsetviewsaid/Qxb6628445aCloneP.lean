/-
  Seat b6628445a: zzsmsCloneParts (function 7), walked: fresh rows that read as the old ones.
-/
import Derived.Test.Qxb6628445aCloneB
namespace Go.Proofs.Qxb6628445a
open Go.RowKit

/-- What reads as bytes is not touched by a store over a slice's word. -/
theorem Bts.store {w : World} {s : Sl} {xs : List Int} (h : Bts w s xs) {q : Addr} {ao : Option Addr} {n c : Nat} (hq : w.cell? q = some (.slice ao n c)) (v : Value) : Bts (w.setCell q v) s xs := by
  refine ⟨h.len, h.room, h.bare, h.rd.1, fun a ha k hk => ?_⟩
  have h1 := h.rd.2 a ha k hk
  rw [← h1]
  refine World.cell?_setCell_other _ _ _ _ (fun e => ?_)
  have hk' : k < xs.length := by simpa [byteVals] using hk
  have h2 : (byteVals xs)[k]? = some (.int .u8 xs[k]) := by simp [byteVals, hk']
  rw [h2] at h1
  have h3 := hq.symm.trans ((congrArg w.cell? e).symm ▸ h1)
  cases h3

/-- k rows laid of n: the block of the rows, and what each reads as. -/
structure Laid (wr : World) (B n : Nat) (rs : List Sl) (rows : List (List Int)) : Prop where
  le : rs.length ≤ n
  block : wr.heap[B]? = some (.cells (rs.map Sl.val ++ List.replicate (n - rs.length) (Value.slice none 0 0)).toArray 23 (0, 0))
  each : ∀ j (_ : j < rs.length) (_ : j < rows.length), Bts wr rs[j] rows[j]

theorem laid_start {w' : World} {B n : Nat} {rows : List (List Int)} {xs : List Value} (h : w'.ownsRow B 23 1 (.slice (some ⟨B, 0, none⟩) n n) n xs) (hx : xs = List.replicate n (.slice none 0 0)) : Laid w' B n [] rows := by
  rcases h.2 with ⟨h1, _⟩ | ⟨g, cap, cur, h1, _, h3, _, _, h6, h7⟩
  · simp at h1
  · simp at h1
    obtain ⟨rfl, rfl⟩ := h1
    refine ⟨Nat.zero_le _, ?_, fun j hj => by simp at hj⟩
    have e : cur = (List.replicate n (Value.slice none 0 0)).toArray := by
      rw [List.take_of_length_le (by simp at h6 ⊢; omega)] at h7
      rw [← hx, ← h7]
    rw [h3, e]
    simp

theorem Laid.later {wr w1 : World} {B n : Nat} {rs : List Sl} {rows : List (List Int)} (h : Laid wr B n rs rows) (hb : Below wr.heap.size wr w1) : Laid w1 B n rs rows :=
  ⟨h.le, by rw [hb.block B (lt_of_block h.block)]; exact h.block, fun j h1 h2 => (h.each j h1 h2).later hb⟩

theorem Laid.at {wr : World} {B n : Nat} {rs : List Sl} {rows : List (List Int)} (h : Laid wr B n rs rows) {k : Nat} (hk : k = rs.length) (hkn : k < n) : wr.cell? ⟨B, k, none⟩ = some (.slice none 0 0) ∧ wr.frozen? ⟨B, k, none⟩ = false := by
  obtain ⟨c1, c2⟩ := row_cell (k := k) h.block
  refine ⟨?_, c2⟩
  rw [c1]
  simp only [List.getElem?_toArray]
  rw [List.getElem?_append_right (by simp; omega), List.getElem?_replicate, if_pos (by simp; omega)]

theorem set_next {α : Type} (l : List α) (z v : α) (n : Nat) (h : l.length < n) : (l ++ List.replicate (n - l.length) z).set l.length v = (l ++ [v]) ++ List.replicate (n - (l.length + 1)) z := by
  rw [List.set_append_right _ _ (Nat.le_refl _), Nat.sub_self]
  have e : n - l.length = (n - (l.length + 1)) + 1 := by omega
  rw [e, List.replicate_succ, List.set_cons_zero, List.append_assoc]
  rfl

theorem Laid.step {wr : World} {B n : Nat} {rs : List Sl} {rows : List (List Int)} (h : Laid wr B n rs rows) {k : Nat} (hk : k = rs.length) (hkn : k < n) {r : Sl} (hr : ∀ (hkr : k < rows.length), Bts wr r rows[k]) :
    Laid (wr.setCell ⟨B, k, none⟩ (.slice r.ao r.n r.cap)) B n (rs ++ [r]) rows := by
  subst hk
  obtain ⟨c1, _⟩ := h.at rfl hkn
  refine ⟨by simp; omega, ?_, fun j h1 h2 => ?_⟩
  · rw [heap_setCell_row h.block]
    have e := set_next (rs.map Sl.val) (.slice none 0 0) r.val n (by simpa using hkn)
    simp only [List.length_map] at e
    congr 2
    simp only [List.setIfInBounds_toArray]
    rw [show (Value.slice r.ao r.n r.cap) = r.val from rfl, e]
    simp
  · by_cases e : j < rs.length
    · rw [List.getElem_append_left e]
      exact (h.each j e h2).store c1 _
    · have : j = rs.length := by simp at h1; omega
      subst this
      simp only [List.getElem_append_right (Nat.le_refl _), Nat.sub_self, List.getElem_cons_zero]
      exact (hr h2).store c1 _

theorem Laid.done {wr : World} {B n : Nat} {rs : List Sl} {rows : List (List Int)} (h : Laid wr B n rs rows) (hn : rs.length = n) (hr : rows.length = n) : Mat wr (some ⟨B, 0, none⟩) rs rows := by
  refine ⟨by omega, Rd.ofBlock h.block (fun k hk => ?_), h.each⟩
  simp only [List.getElem?_toArray]
  rw [List.getElem?_append_left (by simpa using hk)]

theorem made23 (n : Nat) : (madeCells (Value.slice none 0 0).cells (n * 1)).toList = List.replicate n (.slice none 0 0) := by
  apply List.ext_getElem
  · simp [madeCells]
  · intro i h1 h2
    simp [madeCells, Value.cells, Nat.mod_one]

set_option maxRecDepth 100000 in
set_option maxHeartbeats 400000 in
theorem f7_none (n cap : Nat) (w : World) : Calls Try.prog 7 #[.slice none n cap] w fun e w' => e = .returned (.slice none 0 0) ∧ w' = w := by
  have hnil : ∀ W : World, (binOp .eql 22 (.slice none n cap) (.slice none 0 0)).run Try.prog W = .ok (.bool true) W := fun W => Lib.run_eql_slice_nil W 22 23 none n cap 0 0 Try.underlying22
  go_enter Try.func7, Try.ntmps7
  go_wp2
  go_ret
  exact ⟨rfl, rfl⟩

set_option maxRecDepth 100000 in
set_option maxHeartbeats 400000 in
theorem f7_some (a : Addr) (rs : List Sl) (n cap : Nat) (rows : List (List Int)) (w : World) (hm : Mat w (some a) rs rows) (hn : n = rs.length) (hle : n ≤ 1048576) (hrow : ∀ x ∈ rows, x.length ≤ 1048576) :
    Calls Try.prog 7 #[.slice (some a) n cap] w fun e w' => ∃ rs' : List Sl, e = .returned (.slice (some ⟨w.heap.size, 0, none⟩) n n) ∧ rs'.length = n ∧ Mat w' (some ⟨w.heap.size, 0, none⟩) rs' rows ∧ Below w.heap.size w w' := by
  have hnil : ∀ W : World, (binOp .eql 22 (.slice (some a) n cap) (.slice none 0 0)).run Try.prog W = .ok (.bool false) W := fun W => Lib.run_eql_slice_nil W 22 23 (some a) n cap 0 0 Try.underlying22
  obtain ⟨i0, hi, hz0, hz1, hz2⟩ := info_parts info23
  have HL : Hid (n = rs.length) := hn
  have HR : Hid (n = rows.length) := hn.trans hm.len
  clear hn
  go_enter Try.func7, Try.ntmps7
  go_wp2_with (first
    | (at_make; refine wpList_make_full _ rfl _ _ 22 rfl w.heap.size 23 i0 (.slice none 0 0) 1 Try.underlying22 hi hz0 hz1 .i64 .i64 _ _ n rfl rfl rfl rfl (by rw [hz2]; omega) (by unfold maxLen; omega) (Nat.le_refl _) ?_; intro w0 hown0 hg0)
    | go_in)
  go_loopw [4] (fun i wr => ∃ (k : Nat) (rs' : List Sl), k ≤ n ∧ i = .int .i64 k ∧ rs'.length = k ∧ Laid wr w.heap.size n rs' rows ∧ Below w.heap.size w wr) (fun i _ => n - (intOf i).toNat)
  case atStart => exact ⟨0, [], Nat.zero_le _, rfl, rfl, laid_start hown0 (made23 n), (Below.refl _ _).grown hg0 (Nat.le_refl _) (fun j hj => by cases hj)⟩
  case round =>
    obtain ⟨k, rs', hk, rfl, hkl, hf, hb⟩ := hrel
    have HK : Hid (rs'.length = k) := hkl
    clear hkl
    by_cases hlt : k < n
    · obtain ⟨p, hp1, hp2⟩ := (hm.later hb).at cap (k := k) (by rw [← HL.out]; exact hlt)
      rw [← HL.out] at hp1
      have hkr : k < rows.length := by rw [← HR.out]; exact hlt
      have hks : k < rs.length := by rw [← HL.out]; exact hlt
      have hbt := (hm.later hb).each k hks hkr
      have hle' := hrow _ (List.getElem_mem hkr)
      go_wp2_with fail
      refine (f8_any rs[k] rows[k] wr hbt hle').mono ?_
      rintro e w1 ⟨r, rfl, hr, _, hb1⟩
      have hf1 := hf.later hb1
      obtain ⟨c1, c2⟩ := hf1.at HK.out.symm hlt
      go_wp2
      exact ⟨⟨k + 1, rs' ++ [r], by omega, by go_num, by simp [HK.out], hf1.step HK.out.symm hlt (fun _ => hr), (hb.trans (hb1.mono hb.size)).setCell (by simp) _⟩, by simp [intOf]; omega⟩
    · go_wp2
      go_ret
      exact ⟨rs', rfl, by have := HK.out; omega, hf.done (by have := HK.out; omega) HR.out.symm, hb⟩

/-- zzsmsCloneParts: fresh rows that read as the old ones. -/
theorem f7_any (ao : Option Addr) (rs : List Sl) (cap : Nat) (rows : List (List Int)) (w : World) (hm : Mat w ao rs rows) (hle : rs.length ≤ 1048576) (hrow : ∀ x ∈ rows, x.length ≤ 1048576) :
    Calls Try.prog 7 #[.slice ao rs.length cap] w fun e w' => ∃ (ao' : Option Addr) (rs' : List Sl) (cap' : Nat), e = .returned (.slice ao' rs'.length cap') ∧ rs'.length = rs.length ∧ Mat w' ao' rs' rows ∧ Below w.heap.size w w' := by
  cases ao with
  | none =>
    have h0 : rs = [] := by simpa using hm.rd.1 rfl
    refine (f7_none rs.length cap w).mono ?_
    rintro e w' ⟨rfl, rfl⟩
    refine ⟨none, [], 0, rfl, by rw [h0], ?_, Below.refl _ _⟩
    rw [h0] at hm
    exact hm
  | some a =>
    refine (f7_some a rs rs.length cap rows w hm rfl hle hrow).mono ?_
    rintro e w' ⟨rs', rfl, h1, h2, h3⟩
    exact ⟨_, rs', rs.length, by rw [h1], h1, h2, h3⟩
end Go.Proofs.Qxb6628445a
