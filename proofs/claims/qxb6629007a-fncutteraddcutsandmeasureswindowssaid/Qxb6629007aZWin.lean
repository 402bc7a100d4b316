/-
  Seat b6629007a: zzWindowIs (function 8), walked.
-/
import Derived.Test.Qxb6629007aZWin0
import Derived.Deep.OwnRows
namespace Go.Proofs.Qxb6629007a
open Go.RowKit

theorem info2 : (Try.prog.info? 2).map (fun i => (i.zero, i.size, i.bytes)) = some (some (.int .i64 0), 1, 8) := by kernel_rfl

theorem made_row (w : World) (n : Nat) : IRow w.heap.size n (List.replicate n 0) (w.alloc (.cells (madeCells #[.int .i64 0] n) 2)) := by
  refine ⟨_, alloc1_row _ _ _, size_madeCells _ _, by simp, ?_⟩
  have e : madeCells #[Value.int .i64 0] n = Array.replicate n (.int .i64 0) := by
    apply Array.ext
    · simp [madeCells]
    · intro i h1 h2
      simp [madeCells, Nat.mod_one]
  rw [e]
  simp

theorem fill_set {xs : List Int} {k : Nat} (hk : k < xs.length) : (xs.take k ++ List.replicate (xs.length - k) 0).set k xs[k] = xs.take (k + 1) ++ List.replicate (xs.length - (k + 1)) 0 := by
  have e : List.replicate (xs.length - k) (0 : Int) = 0 :: List.replicate (xs.length - (k + 1)) 0 := by
    rw [show xs.length - k = (xs.length - (k + 1)) + 1 from by omega, List.replicate_succ]
  have h := mid_set (xs.take k) (List.replicate (xs.length - (k + 1)) 0) 0 xs[k]
  rw [show (xs.take k).length = k from by simp; omega] at h
  rw [e, h, List.take_succ_eq_append_getElem hk, List.append_assoc]
  rfl

/-- What zzWindowIs holds behind k lengths. -/
structure Win1 (W1 : World) (n : Nat) (xs : List Int) (k : Nat) (s o : Int) (wr : World) : Prop where
  row : IRow W1.heap.size n (xs.take k ++ List.replicate (xs.length - k) 0) wr
  low : Below W1.heap.size W1 wr
  sum : s = (xs.take k).sum
  over : o = ((overs (xs.take k)).length : Int)

theorem Win1.step {W1 : World} {n : Nat} {xs : List Int} {k : Nat} {s o : Int} {wr : World} (h : Win1 W1 n xs k s o wr) (hk : k < xs.length) {x : Int} (hx : x = xs[k]) {o' : Int} (ho : o' = o + if 800 < x then 1 else 0) :
    Win1 W1 n xs (k + 1) (s + x) o' (wr.setCell ⟨W1.heap.size, k, none⟩ (.int .i64 x)) := by
  subst hx
  refine ⟨?_, h.low.setCell (Nat.le_refl _) _, ?_, ?_⟩
  · have := h.row.set k xs[k]
    rw [fill_set hk] at this
    exact this
  · rw [List.take_succ_eq_append_getElem hk, List.sum_append, h.sum]; simp
  · rw [ho, h.over, List.take_succ_eq_append_getElem hk, overs_snoc]
    split <;> simp

theorem gaps_take {pk : List Pkt} {m : Nat} (h : m + 1 < pk.length) : gapsOf (pk.take (m + 1 + 1)) = gapsOf (pk.take (m + 1)) ++ gapOf pk[m].1 pk[m + 1].1 := by
  have e1 : pk.take (m + 1) = pk.take m ++ [pk[m]] := List.take_succ_eq_append_getElem (by omega)
  have e2 : pk.take (m + 1 + 1) = pk.take m ++ [pk[m], pk[m + 1]] := by
    rw [List.take_succ_eq_append_getElem h, e1, List.append_assoc]; rfl
  rw [e2, e1, gapsOf_snoc]

theorem getD_get {pk : List Pkt} {m : Nat} (h : m < pk.length) : pk.getD m (0, 0) = pk[m] := by rw [List.getD_eq_getElem?_getD, List.getElem?_eq_getElem h]; rfl

set_option maxRecDepth 100000 in
set_option maxHeartbeats 4000000 in
theorem f8_true (b1 : Nat) (num t1 t2 sum p5 p50 p95 ov : Int) (pk : List Pkt) (lh gh : Value) (ao : Option Addr) (n cap : Nat) (w : World) (hp : Pks w ao n cap pk) (hne : pk ≠ []) (hn : n ≤ 4096)
    (h1 : w.ownsRow b1 71 2 lh (lhist pk).length (bucketCells (lhist pk))) (h2 : w.ownsRow b1 71 2 gh (ghist pk).length (bucketCells (ghist pk)))
    (hg : ∀ i, i + 1 < n → 0 ≤ clampI ((pk.getD (i + 1) (0, 0)).1 - (pk.getD i (0, 0)).1))
    (HT1 : Hid (t1 = firstT pk)) (HT2 : Hid (t2 = lastT pk)) (HSUM : Hid (sum = (lensOf pk).sum)) (H5 : Hid (p5 = rk (lensOf pk) 5)) (H50 : Hid (p50 = rk (lensOf pk) 50)) (H95 : Hid (p95 = rk (lensOf pk) 95)) (HOV : Hid (ov = (overs (lensOf pk)).length)) :
    Calls Try.prog 8 #[.agg (winArr num t1 t2 n sum p5 p50 p95 ov lh gh), .int .i64 num, .slice ao n cap] w fun e w' => e = .returned (.bool true) ∧ Below w.heap.size w w' := by
  have HN : Hid (n = pk.length) := hp.len
  have HLL : Hid ((lensOf pk).length = n) := by rw [Hid, lensOf_length]; exact HN.out.symm
  have hn1 : 1 ≤ n := by have := HN.out; have := List.length_pos_iff.2 hne; omega
  obtain ⟨la, ln, lc, rfl⟩ : ∃ a n c, lh = .slice a n c := by
    rcases h1.2 with ⟨h, _⟩ | ⟨_, _, _, h, _⟩ <;> exact ⟨_, _, _, h⟩
  obtain ⟨ga, gn, gc, rfl⟩ : ∃ a n c, gh = .slice a n c := by
    rcases h2.2 with ⟨h, _⟩ | ⟨_, _, _, h, _⟩ <;> exact ⟨_, _, _, h⟩
  have hmk := run_make_row' (P := Try.prog) 55 2 (.int .i64 0) 8 Try.underlying55 info2 rfl .i64 .i64 n (by omega) (by omega)
  obtain ⟨W1, hW1⟩ : ∃ W1, W1 = w.alloc (Obj.cells (winArr num t1 t2 n sum p5 p50 p95 ov (.slice la ln lc) (.slice ga gn gc)) 36) := ⟨_, rfl⟩
  have HW1 : Hid (W1 = w.alloc (Obj.cells (winArr num t1 t2 n sum p5 p50 p95 ov (.slice la ln lc) (.slice ga gn gc)) 36)) := hW1
  have hs1 : W1.heap.size = w.heap.size + 1 := by rw [hW1, World.size_alloc]
  have hbw1 : Below w.heap.size w W1 := by rw [hW1]; exact (Below.refl _ _).alloc (Nat.le_refl _) _
  have hst : Win1 W1 n (lensOf pk) 0 0 0 (W1.alloc (.cells (madeCells #[.int .i64 0] n) 2)) := by
    refine ⟨?_, (Below.refl _ _).alloc (Nat.le_refl _) _, by simp, by simp [overs]⟩
    have := made_row W1 n
    simpa [HLL.out] using this
  clear hW1
  have hIA : ∀ (k : Nat), k < n → ∀ W : World, (Instr.indexAt 55 (.slice (some ⟨w.heap.size + 1, 0, none⟩) n n) (.int .i64 (k : Int))).run Try.prog W = .ok (.pointer (some ⟨w.heap.size + 1, k, none⟩)) W := fun k hk W => by
    simp [Instr.indexAt, run_underlying Try.underlying55, asIntOf, hk, Addr.add]
    intro h0; omega
  obtain ⟨i0, hi, hz0, hz1, hz2⟩ := info_parts info2
  rw [winArr]
  go_enter Try.func8, Try.ntmps8
  go_wp2_with fail
  go_loopw [9, 10, 11] (fun s o i wr => ∃ (k : Nat) (S O : Int), k ≤ n ∧ i = .int .i64 (k : Int) ∧ s = .int .i64 S ∧ o = .int .i64 O ∧ Win1 W1 n (lensOf pk) k S O wr)
    (fun _ _ i _ => n - (intOf i).toNat)
  case atStart =>
    have := HW1.out
    rw [winArr] at this
    exact ⟨0, 0, 0, Nat.zero_le _, rfl, rfl, rfl, by rw [this] at hst ⊢; exact hst⟩
  case round => 
    clear hst hmk
    obtain ⟨k, S, O, hk, rfl, rfl, rfl, hR⟩ := hrel
    have hbel : Below w.heap.size w wr := hbw1.trans (hR.low.mono (by omega))
    by_cases hkl : k < n
    · have hkl' : (k : Int) < (n : Int) := by omega
      have hkp : k < pk.length := by rw [← HN.out]; exact hkl
      have hkx : k < (lensOf pk).length := by rw [HLL.out]; exact hkl
      obtain ⟨b, off, _, hrd⟩ := (hp.later hbel).rd
      obtain ⟨a1, a2, a3, a4⟩ := hrd k hkp
      have hlen : ((lensOf pk).take k ++ List.replicate ((lensOf pk).length - k) 0).length = n := by
        have := HLL.out
        simp; omega
      obtain ⟨hct, hcf⟩ := hR.row.cell (k := k) (by rw [hlen]; exact hkl)
      generalize ((lensOf pk).take k ++ List.replicate ((lensOf pk).length - k) 0)[k]'_ = z at hct
      rw [hs1] at hct hcf
      have hia := hIA k hkl
      have hX : pk[k].2 % 4294967296 = (lensOf pk)[k] := by simp [lensOf]
      have hsb := sum_bound (xs := (lensOf pk).take k) (fun x hx => lensOf_bound x (List.mem_of_mem_take hx))
      have hSb : 0 ≤ S ∧ S ≤ 4294967296 * 4096 := by
        rw [hR.sum]
        refine ⟨hsb.1, Int.le_trans hsb.2 ?_⟩
        rw [List.length_take]
        omega
      have hOb : 0 ≤ O ∧ O ≤ 4096 := by
        rw [hR.over, overs_length]
        have := List.countP_le_length (p := fun x : Int => decide (800 < x)) (l := (lensOf pk).take k)
        rw [List.length_take] at this
        omega
      obtain ⟨hS1, hS2⟩ := hSb
      obtain ⟨hO1, hO2⟩ := hOb
      have hstep : ∀ o', o' = O + (if 800 < pk[k].2 % 4294967296 then 1 else 0) → Win1 W1 n (lensOf pk) (k + 1) (S + pk[k].2 % 4294967296) o' (wr.setCell ⟨w.heap.size + 1, k, none⟩ (.int .i64 (pk[k].2 % 4294967296))) := fun o' ho => by
        have := hR.step hkx hX ho
        rw [hs1] at this
        exact this
      have HST : Hid (∀ o', o' = O + (if 800 < pk[k].2 % 4294967296 then 1 else 0) → Win1 W1 n (lensOf pk) (k + 1) (S + pk[k].2 % 4294967296) o' (wr.setCell ⟨w.heap.size + 1, k, none⟩ (.int .i64 (pk[k].2 % 4294967296)))) := hstep
      clear hstep hX hsb hrd a2 hR
      generalize pk[k] = q at *
      obtain ⟨T, N⟩ := q
      simp only at HST a3
      have k21 := f21_any N wr
      have hXb : 0 ≤ N % 4294967296 ∧ N % 4294967296 < 4294967296 := by omega
      generalize N % 4294967296 = X at *
      obtain ⟨hX1, hX2⟩ := hXb
      by_cases hov : 800 < X
      · go_wp2_with fail
        refine k21.mono ?_
        rintro e w2 ⟨rfl, rfl⟩
        clear k21
        go_wp2_with fail
        exact ⟨⟨k + 1, S + X, O + 1, by omega, by go_num, by go_num, by go_num, HST.out _ (by rw [if_pos hov])⟩, by simp [intOf]; omega⟩
      · have hov' : decide (800 < X) = false := decide_eq_false hov
        go_wp2_with fail
        refine k21.mono ?_
        rintro e w2 ⟨rfl, rfl⟩
        clear k21
        go_wp2_with fail
        exact ⟨⟨k + 1, S + X, O, by omega, by go_num, by go_num, by go_num, HST.out _ (by rw [if_neg (by omega)]; omega)⟩, by simp [intOf]; omega⟩
    · have hkl' : decide ((k : Int) < (n : Int)) = false := decide_eq_false (by omega)
      obtain rfl : k = n := by omega
      have hrow : IRow (w.heap.size + 1) k (lensOf pk) wr := by
        have := hR.row
        rw [hs1, List.take_of_length_le (by rw [HLL.out]; omega), HLL.out, Nat.sub_self, List.replicate_zero, List.append_nil] at this
        exact this
      have hSe := hR.sum
      have hOe := hR.over
      have hlow := hR.low
      rw [List.take_of_length_le (by rw [HLL.out]; omega)] at hSe hOe
      rw [hs1] at hlow
      rw [← HSUM.out] at hSe
      rw [← HOV.out] at hOe
      subst hSe hOe
      clear hR
      go_wp2_with fail
      refine (f22_row (w.heap.size + 1) k k (lensOf pk) wr hrow HLL.out.symm hn).mono ?_
      rintro e w2 ⟨rfl, hrow2, hb2⟩
      have hw2 : Below (w.heap.size + 1) W1 w2 := hlow.trans hb2
      have hbel2 : Below w.heap.size w w2 := hbw1.trans (hw2.mono (by omega))
      have hs2 := hrow2.size
      clear hlow hrow hb2 hbel
      go_wp2_with fail
      go_loopw [13, 14] (fun v i wx => ∃ m : Nat, m + 1 ≤ k ∧ i = .int .i64 ((m : Int) + 1) ∧ wx.ownsRow (w.heap.size + 2) 2 1 v (gapsOf (pk.take (m + 1))).length ((gapsOf (pk.take (m + 1))).map (Value.int .i64)) ∧ Below (w.heap.size + 2) w2 wx)
        (fun _ i _ => k - (intOf i).toNat)
      case atStart =>
        refine ⟨0, hn1, rfl, ?_, Below.refl _ _⟩
        have e : gapsOf (pk.take (0 + 1)) = [] := by
          cases pk with
          | nil => rfl
          | cons a l => simp [gapsOf]
        rw [e]
        exact World.ownsRow_nil _ _ _ _
      case round =>
        obtain ⟨m, hm, rfl, hown, hB⟩ := hrel
        have hbel : Below w.heap.size w wr := hbel2.trans (hB.mono (by omega))
        have hgl : (gapsOf (pk.take (m + 1))).length ≤ 4096 := by
          have := gapsOf_length (pk.take (m + 1))
          rw [List.length_take] at this
          omega
        by_cases hml : m + 1 < k
        · have hml' : (m : Int) + 1 < (k : Int) := by omega
          have hmp : m + 1 < pk.length := by rw [← HN.out]; exact hml
          have hgs := gaps_take hmp
          have hg0 := hg m hml
          rw [getD_get hmp, getD_get (by omega)] at hg0
          obtain ⟨b, off, _, hrd⟩ := (hp.later hbel).rd
          obtain ⟨a1, a2, a3, a4⟩ := hrd (m + 1) hmp
          obtain ⟨c1, c2, c3, c4⟩ := hrd m (by omega)
          have wf1 := hp.wf _ (List.getElem_mem hmp)
          have wf2 := hp.wf _ (List.getElem_mem (show m < pk.length by omega))
          rw [show (((m + 1 : Nat) : Nat) : Int) = (m : Int) + 1 from by omega] at a1
          generalize pk[m + 1] = x at *
          generalize pk[m]'_ = y at *
          obtain ⟨T, N⟩ := x
          obtain ⟨U, V⟩ := y
          simp only at hgs hg0 a2 c2
          have HC : Hid (∀ W, Calls Try.prog 23 #[.int .i64 T, .int .i64 U] W fun e w' => e = .returned (.int .i64 (clampI (T - U))) ∧ w' = W) := fun W => f23_any T U W wf1.1 wf2.1
          have hw1 : IntKind.i64.wrap (m : Int) = (m : Int) := by rw [IntKind.wrap_i64]; omega
          have HGS : Hid (gapsOf (pk.take (m + 1 + 1)) = gapsOf (pk.take (m + 1)) ++ gapOf U T) := hgs
          have HGO : Hid (gapOf U T = if clampI (T - U) < 1000000000 then [clampI (T - U) / 1000000] else []) := by
            rw [Hid, gapOf]
            by_cases e : clampI (T - U) < 1000000000 <;> simp [e, hg0]
          clear hrd wf1 wf2 a3 c3 hgs
          generalize clampI (T - U) = G at *
          generalize gapsOf (pk.take (m + 1)) = Q at *
          by_cases hG : G < 1000000000
          · rw [Hid, if_pos hG] at HGO
            go_wp2_with fail
            go_quiet ((go_at_call 23; exact Calls.quiet_of_same (HC.out _)))
            have hbq := fun r : Nat => below_q (w := wr) r
            have hownq := fun r : Nat => owns_later hown (hbq r)
            go_wp2_with (first
              | (at_builtin; refine wpList_append_own _ rfl _ _ 55 rfl (w.heap.size + 2) 2 i0 _ 1 8 Try.underlying55 hi hz0 hz1 hz2 rfl (by decide) _ _ _ rfl ((hownq _).alloc _) ⟨wr.heap.size, 0, none⟩ 1 1 [.int .i64 (G / 1000000)] rfl rfl ?c1 ?c2 ?c3 ?c4 ?c5 ?_)
              | go_in)
            case c1 => exact cell_new1 (by simp)
            case c2 => intro u hu; simp at hu; subst hu; rfl
            case c3 => unfold maxLen; omega
            case c4 => omega
            case c5 => rw [World.size_alloc]; have := (hbq nq).size; have := hB.size; omega
            · intro v' w4 hown' hgrow _
              have hne2 : ∀ j, u13.ownBlock = some j → w.heap.size + 2 ≤ j := fun j hj => (hown.lt j hj).1
              have hBq : Below (w.heap.size + 2) w2 (wr.drewN nq) := hB.trans ((hbq nq).mono (by have := hB.size; omega))
              have hB4 : Below (w.heap.size + 2) w2 w4 := (hBq.alloc (by have := hBq.size; omega) _).grown hgrow (by rw [World.size_alloc]; have := hBq.size; omega) hne2
              have hown2 : w4.ownsRow (w.heap.size + 2) 2 1 v' (gapsOf (pk.take (m + 1 + 1))).length ((gapsOf (pk.take (m + 1 + 1))).map (Value.int .i64)) := by
                rw [HGS.out, HGO, List.length_append, List.map_append]
                exact hown'
              clear hown' hgrow hown hne2 hbq hownq
              go_wp2_with fail
              exact ⟨⟨m + 1, by omega, by go_num, hown2, hB4⟩, by simp [intOf]; omega⟩
          · have hG' : decide (G < 1000000000) = false := decide_eq_false hG
            rw [Hid, if_neg hG] at HGO
            go_wp2_with fail
            go_quiet ((go_at_call 23; exact Calls.quiet_of_same (HC.out _)))
            go_wp2_with fail
            exact ⟨⟨m + 1, by omega, by go_num, by rw [HGS.out, HGO, List.append_nil]; exact owns_later hown (below_q _), hB.trans ((below_q _).mono (by have := hB.size; omega))⟩, by simp [intOf]; omega⟩
        · have hml' : decide ((m : Int) + 1 < (k : Int)) = false := decide_eq_false (by omega)
          have hkp : pk.take (m + 1) = pk := List.take_of_length_le (by rw [← HN.out]; omega)
          rw [hkp] at hown hgl
          go_wp2_with fail
          refine (f22_any (w.heap.size + 2) u13 (gapsOf pk) wr hown hgl).mono ?_
          rintro e w3 ⟨rfl, hown3, hb3⟩
          have hB3 : Below (w.heap.size + 2) w2 w3 := hB.trans hb3
          have hW3 : Below (w.heap.size + 1) W1 w3 := hw2.trans (hB3.mono (by omega))
          have hrow3 : IRow (w.heap.size + 1) k (sortZ (lensOf pk)) w3 := hrow2.later hB3 (by omega)
          have hbel3 : Below w.heap.size w w3 := hbw1.trans (hW3.mono (by omega))
          have hblk3 : w3.heap[w.heap.size]? = some (.cells (winArr num t1 t2 k S p5 p50 p95 O (.slice la ln lc) (.slice ga gn gc)) 36 (0, 0)) := by
            refine below_row hW3 (by omega) ?_
            rw [HW1.out]; exact alloc1_row _ _ _
          have hs3 : w.heap.size + 2 ≤ w3.heap.size := by have := hB3.size; omega
          clear hB3 hW3 hown hb3 hbel hB hbel2 hw2 hrow2 hIA hg hi hz0 hz1 hz2 HW1 hbw1 hs1 HSUM HOV
          have hp3 := hp.later hbel3
          obtain ⟨b, off, _, hrd⟩ := hp3.rd
          have hkk : k - 1 < pk.length := by rw [← HN.out]; omega
          obtain ⟨a1, a2, a3, a4⟩ := hrd 0 (by rw [← HN.out]; omega)
          obtain ⟨c1, c2, c3, c4⟩ := hrd (k - 1) hkk
          have wf1 := hp.wf _ (List.getElem_mem (show 0 < pk.length by rw [← HN.out]; omega))
          have wf2 := hp.wf _ (List.getElem_mem hkk)
          have e1 : (pk[0]'(by rw [← HN.out]; omega)).1 = t1 := by rw [HT1.out]; cases pk with
            | nil => exact absurd rfl hne
            | cons a l => rfl
          have e2 : (pk[k - 1]'hkk).1 = t2 := by
            have e := HN.out
            rw [HT2.out]
            unfold lastT
            subst e
            cases pk with
            | nil => exact absurd rfl hne
            | cons a l => simp [List.getLastD, List.getLast_eq_getElem]
          rw [e1] at a2 wf1
          rw [e2] at c2 wf2
          have a1' : ∀ W : World, (Instr.indexAt 22 (.slice ao k cap) (.int .i64 0)).run Try.prog W = .ok (.pointer (some ⟨b, off, none⟩)) W := fun W => by simpa using a1 W
          rw [Nat.zero_mul, Nat.add_zero] at a2
          rw [show ((k - 1 : Nat) : Int) = (k : Int) - 1 from by omega] at c1
          have hnum : (num == num) = true := by simp
          have hZ : WinZ w b1 num t1 t2 k S p5 p50 p95 O (.slice la ln lc) (.slice ga gn gc) (.slice (some ⟨w.heap.size + 1, 0, none⟩) k k) u13 (lhist pk) (ghist pk) (sortZ (lensOf pk)) (sortZ (gapsOf pk)) b off (off + (k - 1) * 2) w3 := by
            refine ⟨hblk3, a2, c2, a4, owns_later h1 hbel3, owns_later h2 hbel3, ?_, ?_, hbel3⟩
            · obtain ⟨cur, g1, g2, g3, g4⟩ := hrow3
              have e : (sortZ (lensOf pk)).length = k := by rw [sortZ_length, HLL.out]
              rw [e] at g4 g3 ⊢
              exact ⟨by simp [e], .inr ⟨_, k, cur, rfl, Nat.le_refl _, g1, Nat.le_refl _, by unfold maxLen; omega, by omega, by simpa using g4⟩⟩
            · rw [sortZ_length]; exact hown3
          have hlen4 : pk.length ≤ 4096 := by rw [← HN.out]; exact hn
          obtain ⟨Z, hZ3, ZDR, ZALL, Z14a, Z14b, Z24a, Z24b, Z24c, Z25a, Z25b, ZLOW⟩ := winz_calls hZ wf1.1 wf2.1 hne hlen4 H5.out H50.out H95.out
          clear hZ hblk3 hrow3 hown3 a2 c2 a4 c4 wf1 wf2 hp3 hbel3 hp h1 h2 HT1 HT2 H5 H50 H95 HLL hgl hkp hkk hs3 hlen4 a1 a3 c3 hrd e1 e2 hne HN
          go_wp2_with fail
          simp only [List.append_eq, List.cons_append, List.nil_append]
          have hq1 := tm_same t1
          have hq2 := tm_same t2
          have hgd := guard33
          have n1 : ((k : Int) == (k : Int)) = true := by simp
          have n2 : (S == S) = true := by simp
          have n3 : (O == O) = true := by simp
          have n5 : (p5 == p5) = true := by simp
          have n50 : (p50 == p50) = true := by simp
          have n95 : (p95 == p95) = true := by simp
          have hwk : IntKind.i64.wrap ((k : Int) - 1) = (k : Int) - 1 := by rw [IntKind.wrap_i64]; omega
          obtain ⟨⟨x0, x1, x2, x3, x4, x5, x6, x7, x8, x9, x10, x11, x12, x13, x14, y1, y2⟩, _⟩ := ZALL.out w3 hZ3
          go_region_held3 (fun W => (W.cell? ⟨w.heap.size, 0, none⟩ = some (.int .i64 num) ∧ W.cell? ⟨w.heap.size, 1, none⟩ = some (.int .u64 (nn t1)) ∧ W.cell? ⟨w.heap.size, 2, none⟩ = some (.int .i64 (ss t1)) ∧ W.cell? ⟨w.heap.size, 3, none⟩ = some (.pointer none) ∧ W.cell? ⟨w.heap.size, 4, none⟩ = some (.int .u64 (nn t2)) ∧ W.cell? ⟨w.heap.size, 5, none⟩ = some (.int .i64 (ss t2)) ∧ W.cell? ⟨w.heap.size, 6, none⟩ = some (.pointer none) ∧ W.cell? ⟨w.heap.size, 7, none⟩ = some (.int .i64 (k : Int)) ∧ W.cell? ⟨w.heap.size, 8, none⟩ = some (.int .i64 S) ∧ W.cell? ⟨w.heap.size, 9, none⟩ = some (.int .i64 p5) ∧ W.cell? ⟨w.heap.size, 10, none⟩ = some (.int .i64 p50) ∧ W.cell? ⟨w.heap.size, 11, none⟩ = some (.int .i64 p95) ∧ W.cell? ⟨w.heap.size, 12, none⟩ = some (.int .i64 O) ∧ W.cell? ⟨w.heap.size, 13, none⟩ = some (.slice la ln lc) ∧ W.cell? ⟨w.heap.size, 14, none⟩ = some (.slice ga gn gc) ∧ W.cell? ⟨b, off, none⟩ = some (.int .i64 t1) ∧ W.cell? ⟨b, off + (k - 1) * 2, none⟩ = some (.int .i64 t2)) ∧ Z W) (exact ZALL.out _ (by first | assumption | exact ZDR.out _ (by assumption)))
            (first
              | (go_at_call 14; (first | with_reducible refine (Z14a.out _ (by first | assumption | exact ZDR.out _ (by assumption))).mono ?_ | with_reducible refine (Z14b.out _ (by first | assumption | exact ZDR.out _ (by assumption))).mono ?_); rintro e w' ⟨rfl, hzx⟩)
              | (go_at_call 24; (first | with_reducible refine (Z24a.out _ (by first | assumption | exact ZDR.out _ (by assumption))).mono ?_ | with_reducible refine (Z24b.out _ (by first | assumption | exact ZDR.out _ (by assumption))).mono ?_ | with_reducible refine (Z24c.out _ (by first | assumption | exact ZDR.out _ (by assumption))).mono ?_); rintro e w' ⟨rfl, hzx⟩)
              | (go_at_call 25; (first | with_reducible refine (Z25a.out _ (by first | assumption | exact ZDR.out _ (by assumption))).mono ?_ | with_reducible refine (Z25b.out _ (by first | assumption | exact ZDR.out _ (by assumption))).mono ?_); rintro e w' ⟨rfl, hzx⟩))
          go_wp2
          go_ret
          exact ⟨rfl, ZLOW.out _ (by first | assumption | exact ZDR.out _ (by assumption))⟩
end Go.Proofs.Qxb6629007a
