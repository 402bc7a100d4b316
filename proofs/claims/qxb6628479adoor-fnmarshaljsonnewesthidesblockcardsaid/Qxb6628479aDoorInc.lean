/-
  Seat b6628479aD: incDecimal (function 7), walked: it adds one to a numeral.
-/
import Derived.Test.Qxb6628479aDoorMarshal
namespace Go.Proofs.Qxb6628479aDoor
open Go.RowKit

/-- Block B is just these bytes. -/
def RowIs (w : World) (B : Nat) (l : List Int) : Prop := w.heap[B]? = some (.cells (byteVals l).toArray 5 (0, 0))

theorem byteVals_at {l : List Int} {k : Nat} (h : k < l.length) : (byteVals l)[k]? = some (.int .u8 l[k]) := by simp [byteVals, h]

theorem RowIs.of {w : World} {B n k : Nat} {l : List Int} (h : Filled w B 5 n k (byteVals l)) (hn : n = l.length) (hk : n ≤ k) : RowIs w B l := by
  obtain ⟨cur, h1, h2, h3⟩ := h
  unfold RowIs
  rw [h1]
  congr 2
  apply Array.ext_getElem?
  intro j
  by_cases hj : j < n
  · rw [h3 j (by omega)]; simp
  · rw [Array.getElem?_eq_none (by omega), Array.getElem?_eq_none (by simp [byteVals]; omega)]

theorem RowIs.set {w : World} {B : Nat} {l : List Int} (h : RowIs w B l) (i : Nat) (v : Int) : RowIs (w.setCell ⟨B, i, none⟩ (.int .u8 v)) B (l.set i v) := by
  unfold RowIs
  rw [heap_setCell_row h]
  simp [byteVals, List.map_set]

theorem RowIs.at {w : World} {B : Nat} {l : List Int} (h : RowIs w B l) (i : Nat) (v : Int) (hi : l[i]? = some v) : w.cell? ⟨B, i, none⟩ = some (.int .u8 v) ∧ w.frozen? ⟨B, i, none⟩ = false := by
  obtain ⟨c1, c2⟩ := row_cell (k := i) h
  refine ⟨?_, c2⟩
  rw [c1]
  simp [byteVals, hi]

theorem RowIs.bts {w : World} {B n : Nat} {l : List Int} (h : RowIs w B l) (hn : n = l.length) : Bts w ⟨some ⟨B, 0, none⟩, n, n⟩ l :=
  ⟨hn, Nat.le_refl _, (fun e => by cases e), Rd.ofBlock h (fun k _ => by simp)⟩

theorem RowIs.later {w w' : World} {B : Nat} {l : List Int} (h : RowIs w B l) (hb : Below w.heap.size w w') : RowIs w' B l := by
  unfold RowIs
  rw [hb.block B (lt_of_block h)]
  exact h

theorem RowIs.other {w : World} {B B' : Nat} {l : List Int} (h : RowIs w B l) (hne : B ≠ B') (i : Nat) (v : Value) : RowIs (w.setCell ⟨B', i, none⟩ v) B l := by
  unfold RowIs
  rw [Below.heap_setCell _ _ _ _ hne]
  exact h

/-- The lists on the way, the nines at the end turned one by one. -/
def listA (pre : List Int) (c : Int) (j t : Nat) : List Int := pre ++ c :: (List.replicate j 57 ++ List.replicate t 48)

theorem listA_nine (pre : List Int) (c : Int) (j t : Nat) : (listA pre c (j + 1) t)[pre.length + 1 + j]? = some 57 := by
  unfold listA
  rw [List.getElem?_append_right (by omega), show pre.length + 1 + j - pre.length = j + 1 from by omega, List.getElem?_cons_succ, List.getElem?_append_left (by simp)]
  simp
theorem listA_set (pre : List Int) (c : Int) (j t : Nat) : (listA pre c (j + 1) t).set (pre.length + 1 + j) 48 = listA pre c j (t + 1) := by
  unfold listA
  rw [List.set_append_right _ _ (by omega), show pre.length + 1 + j - pre.length = j + 1 from by omega, List.set_cons_succ, ← rep_snoc j (57 : Int), List.append_assoc, List.set_append_right _ _ (by simp)]
  simp [List.replicate_succ]
theorem listA_here (pre : List Int) (c : Int) (t : Nat) : (listA pre c 0 t)[pre.length]? = some c := by
  unfold listA
  rw [List.getElem?_append_right (Nat.le_refl _)]
  simp
theorem listA_up (pre : List Int) (c : Int) (t : Nat) : (listA pre c 0 t).set pre.length (c + 1) = pre ++ (c + 1) :: List.replicate t 48 := by
  unfold listA
  rw [List.set_append_right _ _ (Nat.le_refl _)]
  simp

set_option maxRecDepth 100000 in
set_option maxHeartbeats 1000000 in
theorem f7_up (x : Sl) (pre : List Int) (c : Int) (m : Nat) (w : World) (hx : Bts w x (pre ++ c :: List.replicate m 57)) (hc1 : 48 ≤ c) (hc2 : c ≤ 57) (hc3 : c ≠ 57) (hle : (pre ++ c :: List.replicate m 57).length ≤ 20) :
    Calls Tryd.prog 7 #[.slice x.ao x.n x.cap] w fun e w' => ∃ r : Sl, e = .returned (.slice r.ao r.n r.cap) ∧ Bts w' r (pre ++ (c + 1) :: List.replicate m 48) ∧ Below w.heap.size w w' := by
  obtain ⟨i0, hi, hz0, hz1, hz2⟩ := info_parts info5
  have hlen : (pre ++ c :: List.replicate m 57).length = pre.length + 1 + m := by simp; omega
  obtain ⟨L, hL⟩ : ∃ L, L = pre.length + 1 + m := ⟨_, rfl⟩
  have hxn : x.n = L := hx.len.trans (hlen.trans hL.symm)
  have hLb : L ≤ 20 := by rw [hL, ← hlen]; exact hle
  have hL1 : 1 ≤ L := by omega
  have HL : Hid (L = pre.length + 1 + m) := hL
  have HLx : Hid (L = (pre ++ c :: List.replicate m 57).length) := hL.trans hlen.symm
  have d64 : decide (64 < (L : Int)) = false := decide_eq_false (by omega)
  have hne : (c == 57) = false := beq_eq_false_iff_ne.2 hc3
  have e0 : pre ++ c :: List.replicate m 57 = listA pre c m 0 := by simp [listA]
  have E0 : Hid (pre ++ c :: List.replicate m 57 = listA pre c m 0) := e0
  clear hL hlen hle hc3 e0
  go_enter Tryd.func7, Tryd.ntmps7
  go_wp2_with (first
    | (at_make; refine wpList_make_full _ rfl _ _ 23 rfl w.heap.size 5 i0 (.int .u8 0) 1 Tryd.underlying23 hi hz0 hz1 .i64 .i64 _ _ L rfl rfl rfl rfl (by rw [hz2]; omega) (by unfold maxLen; omega) (Nat.le_refl _) ?_; intro w0 hown0 hg0)
    | go_in)
  go_loopw [4] (fun i wr => ∃ k : Nat, k ≤ L ∧ i = .int .i64 k ∧ Filled wr w.heap.size 5 L k (byteVals (pre ++ c :: List.replicate m 57)) ∧ Below w.heap.size w wr) (fun i _ => L - (intOf i).toNat)
  case atStart => exact ⟨0, Nat.zero_le _, rfl, filled_start hown0, (Below.refl _ _).grown hg0 (Nat.le_refl _) (fun j hj => by cases hj)⟩
  case round =>
    obtain ⟨k, hk, rfl, hf, hb⟩ := hrel
    by_cases hlt : k < L
    · obtain ⟨⟨v, hd1⟩, hd2⟩ := hf.at hlt
      have hkx : k < (pre ++ c :: List.replicate m 57).length := by rw [← HLx.out]; exact hlt
      obtain ⟨p, hp1, hp2⟩ := (hx.later hb).at (k := k) hkx
      rw [hxn] at hp1
      generalize hg : (pre ++ c :: List.replicate m 57)[k] = y at *
      have HG : Hid ((byteVals (pre ++ c :: List.replicate m 57))[k]? = some (.int .u8 y)) := by rw [Hid, ← hg]; exact byteVals_at hkx
      clear hg
      go_wp2
      exact ⟨⟨k + 1, by omega, by go_num, hf.step hlt HG.out, hb.setCell (by simp) _⟩, by simp [intOf]; omega⟩
    · have hr := RowIs.of hf HLx.out (by omega)
      rw [E0.out] at hr
      clear hf
      go_wp2
      go_loopw [5] (fun i wv => ∃ j t : Nat, j + t = m ∧ i = .int .i64 ((pre.length + j : Nat) : Int) ∧ RowIs wv w.heap.size (listA pre c j t) ∧ Below w.heap.size w wv) (fun i _ => (intOf i).toNat)
      case atStart => exact ⟨m, 0, rfl, by rw [show ((pre.length + m : Nat) : Int) = (L : Int) - 1 from by have := HL.out; omega], hr, hb⟩
      case round =>
        clear hr hb
        obtain ⟨j, t, hjt, rfl, hr, hb⟩ := hrel
        have hl := HL.out
        have HJ : Hid (j + t = m) := hjt
        match j, hr, HJ, hjt with
        | j + 1, hr, HJ, hjt =>
          obtain ⟨g1, g2⟩ := hr.at (pre.length + 1 + j) 57 (listA_nine pre c j t)
          have hs := hr.set (pre.length + 1 + j) 48
          rw [listA_set] at hs
          clear hjt hr
          generalize hG : pre.length + 1 + j = G at *
          have hG2 : pre.length + (j + 1) = G := by omega
          rw [hG2]
          have hGL : G < L := by have := HJ.out; omega
          have hG1 : 1 ≤ G := by omega
          have HG : Hid (pre.length + 1 + j = G) := hG
          clear hl hG hG2
          go_wp2
          exact ⟨⟨j, t + 1, by have := HJ.out; omega, by rw [show ((pre.length + j : Nat) : Int) = (G : Int) - 1 from by have := HG.out; omega], hs, hb.setCell (by simp) _⟩, by simp [intOf]; omega⟩
        | 0, hr, HJ, hjt =>
          obtain ⟨g1, g2⟩ := hr.at pre.length c (listA_here pre c t)
          have hs := hr.set pre.length (c + 1)
          rw [listA_up] at hs
          obtain rfl : t = m := by omega
          clear hjt hr HJ
          generalize hG : pre.length = G at *
          have hGL : G < L := by omega
          rw [Nat.add_zero]
          clear hl
          have HG : Hid (pre.length = G) := hG
          clear hG
          go_wp2
          go_ret
          exact ⟨⟨some ⟨w.heap.size, 0, none⟩, L, L⟩, rfl, hs.bts (by have := HL.out; have := HG.out; simp; omega), hb.setCell (by simp) _⟩
/-- .. where they are all nines. -/
def listB (j t : Nat) : List Int := List.replicate j 57 ++ List.replicate t 48
theorem listB_nine (j t : Nat) : (listB (j + 1) t)[j]? = some 57 := by
  unfold listB
  rw [List.getElem?_append_left (by simp)]
  simp
theorem listB_set (j t : Nat) : (listB (j + 1) t).set j 48 = listB j (t + 1) := by
  unfold listB
  rw [← rep_snoc j (57 : Int), List.append_assoc, List.set_append_right _ _ (by simp)]
  simp [List.replicate_succ]

set_option maxRecDepth 100000 in
set_option maxHeartbeats 1000000 in
theorem f7_wrap (x : Sl) (m : Nat) (w : World) (hx : Bts w x (List.replicate m 57)) (hm1 : 1 ≤ m) (hle : m ≤ 20) :
    Calls Tryd.prog 7 #[.slice x.ao x.n x.cap] w fun e w' => ∃ r : Sl, e = .returned (.slice r.ao r.n r.cap) ∧ Bts w' r (49 :: List.replicate m 48) ∧ Below w.heap.size w w' := by
  obtain ⟨i0, hi, hz0, hz1, hz2⟩ := info_parts info5
  have hxn : x.n = m := hx.len.trans (by simp)
  have d64 : decide (64 < (m : Int)) = false := decide_eq_false (by omega)
  go_enter Tryd.func7, Tryd.ntmps7
  go_wp2_with (first
    | (at_make; refine wpList_make_full _ rfl _ _ 23 rfl w.heap.size 5 i0 (.int .u8 0) 1 Tryd.underlying23 hi hz0 hz1 .i64 .i64 _ _ m rfl rfl rfl rfl (by rw [hz2]; omega) (by unfold maxLen; omega) (Nat.le_refl _) ?_; intro w0 hown0 hg0)
    | go_in)
  go_loopw [4] (fun i wr => ∃ k : Nat, k ≤ m ∧ i = .int .i64 k ∧ Filled wr w.heap.size 5 m k (byteVals (List.replicate m 57)) ∧ Below w.heap.size w wr) (fun i _ => m - (intOf i).toNat)
  case atStart => exact ⟨0, Nat.zero_le _, rfl, filled_start hown0, (Below.refl _ _).grown hg0 (Nat.le_refl _) (fun j hj => by cases hj)⟩
  case round =>
    obtain ⟨k, hk, rfl, hf, hb⟩ := hrel
    by_cases hlt : k < m
    · obtain ⟨⟨v, hd1⟩, hd2⟩ := hf.at hlt
      have hkx : k < (List.replicate m (57 : Int)).length := by simpa using hlt
      obtain ⟨p, hp1, hp2⟩ := (hx.later hb).at (k := k) hkx
      rw [hxn] at hp1
      generalize hg : (List.replicate m (57 : Int))[k] = y at *
      have HG : Hid ((byteVals (List.replicate m 57))[k]? = some (.int .u8 y)) := by rw [Hid, ← hg]; exact byteVals_at hkx
      clear hg
      go_wp2
      exact ⟨⟨k + 1, by omega, by go_num, hf.step hlt HG.out, hb.setCell (by simp) _⟩, by simp [intOf]; omega⟩
    · have hr := RowIs.of hf (by simp) (by omega)
      have e0 : List.replicate m (57 : Int) = listB m 0 := by simp [listB]
      rw [e0] at hr
      clear e0
      clear hf
      go_wp2
      go_loopw [5] (fun i wv => ∃ j t : Nat, Hid (j + t = m) ∧ i = .int .i64 ((j : Int) - 1) ∧ RowIs wv w.heap.size (listB j t) ∧ Below w.heap.size w wv) (fun i _ => (intOf i + 1).toNat)
      case atStart => exact ⟨m, 0, rfl, rfl, hr, hb⟩
      case round =>
        clear hr hb
        obtain ⟨j, t, HJ, rfl, hr, hb⟩ := hrel
        match j, hr, HJ with
        | j + 1, hr, HJ =>
          obtain ⟨g1, g2⟩ := hr.at j 57 (listB_nine j t)
          have hs := hr.set j 48
          rw [listB_set] at hs
          have hjm : j < m := by have := HJ.out; omega
          rw [show (((j + 1 : Nat) : Int) - 1) = (j : Int) from by omega]
          clear hr
          go_wp2
          exact ⟨⟨j, t + 1, by have := HJ.out; rw [Hid]; omega, by go_num, hs, hb.setCell (by simp) _⟩, by simp [intOf]⟩
        | 0, hr, HJ =>
          obtain rfl : t = m := by have := HJ.out; omega
          have e1 : listB 0 t = List.replicate t 48 := by simp [listB]
          rw [e1] at hr
          clear e1
          rw [show (((0 : Nat) : Int) - 1) = -1 from rfl]
          go_wp2_with (first
            | (at_make; refine wpList_make_full _ rfl _ _ 23 rfl wr.heap.size 5 i0 (.int .u8 0) 1 Tryd.underlying23 hi hz0 hz1 .i64 .i64 _ _ (t + 1) rfl rfl (by omega) (by omega) (by rw [hz2]; omega) (by unfold maxLen; omega) (Nat.le_refl _) ?_; intro w1 hown1 hg1; have hF := filled_start (vs := byteVals (49 :: List.replicate t 48)) hown1; obtain ⟨⟨v0, z1⟩, z2⟩ := hF.at (j := 0) (by omega))
            | go_in)
          have hBlt : w.heap.size < wr.heap.size := lt_of_block hr
          have hb1 : Below wr.heap.size wr w1 := (Below.refl _ _).grown hg1 (Nat.le_refl _) (fun j hj => by cases hj)
          have hr1 := hr.later hb1
          go_loopw [7] (fun i wv => ∃ k : Nat, k ≤ t ∧ i = .int .i64 k ∧ Filled wv wr.heap.size 5 (t + 1) (k + 1) (byteVals (49 :: List.replicate t 48)) ∧ RowIs wv w.heap.size (List.replicate t 48) ∧ Below w.heap.size w wv) (fun i _ => t - (intOf i).toNat)
          case atStart => exact ⟨0, Nat.zero_le _, rfl, hF.step (by omega) rfl, hr1.other (by omega) _ _, (hb.trans (hb1.mono (by omega))).setCell (by simp; omega) _⟩
          case round =>
            clear hr hr1 hF z1 z2 hown1
            obtain ⟨i, hi2, rfl, hF, hr, hbv⟩ := hrel
            by_cases hlt2 : i < t
            · obtain ⟨g1, g2⟩ := hr.at i 48 (by simp [hlt2])
              obtain ⟨⟨v1, z1⟩, z2⟩ := hF.at (j := i + 1) (by omega)
              have hi1 : ((i + 1 : Nat) : Int) = (i : Int) + 1 := by omega
              have hiN : ((i : Int) + 1).toNat = i + 1 := by omega
              go_wp2
              exact ⟨⟨i + 1, by omega, by go_num, hF.step (by omega) (by simp [byteVals, hlt2]), hr.other (by omega) _ _, hbv.setCell (by simp; omega) _⟩, by simp [intOf]; omega⟩
            · have hQ := RowIs.of hF (by simp) (by omega)
              go_wp2
              go_ret
              exact ⟨⟨_, t + 1, t + 1⟩, rfl, hQ.bts (by simp), hbv⟩

/-- incDecimal ADDS ONE. -/
theorem f7_any (x : Sl) (n : Nat) (w : World) (hx : Bts w x (dig n)) (h2 : n < 18446744073709551616) :
    Calls Tryd.prog 7 #[.slice x.ao x.n x.cap] w fun e w' => ∃ r : Sl, e = .returned (.slice r.ao r.n r.cap) ∧ Bts w' r (dig (n + 1)) ∧ Below w.heap.size w w' := by
  have hlen := dig_length_le n h2
  rcases dig_succ n n (Nat.le_refl _) with ⟨pre, c, m, g1, g2, g3, g4, g5⟩ | ⟨m, g1, g2⟩
  · rw [g5]
    rw [g1] at hx hlen
    exact f7_up x pre c m w hx g3 g4 g2 hlen
  · rw [g2]
    have hne := dig_ne n
    rw [g1] at hx hlen hne
    refine f7_wrap x m w hx ?_ (by simpa using hlen)
    rcases m with _ | m
    · exact absurd rfl hne
    · omega
end Go.Proofs.Qxb6628479aDoor
