/-
  Seat b6629007a: function 4 (FnCutterAddIgnoresTheClocksOrigin), walked, at every input.
-/
import Derived.Test.Qxb6629007aKept
namespace Go.Proofs.Qxb6629007a
open Go.RowKit

theorem Win15.later {g o : Nat} {num t1 t2 n sum p5 p50 p95 ov : Int} {lh gh : Value} {w w2 : World} (h : Win15 g o num t1 t2 n sum p5 p50 p95 ov lh gh w) (hb : Below w.heap.size w w2) (hg : g < w.heap.size) : Win15 g o num t1 t2 n sum p5 p50 p95 ov lh gh w2 := by
  obtain ⟨h0, h1, h2, h3, h4, h5, h6, h7, h8, h9, h10, h11, h12, h13, h14⟩ := h
  refine ⟨?_, ?_, ?_, ?_, ?_, ?_, ?_, ?_, ?_, ?_, ?_, ?_, ?_, ?_, ?_⟩ <;> rw [hb.cell (by exact hg)] <;> assumption


/-- Every packet of a window is one of the flow's; a kept window is not empty. -/
theorem add_mem (P M I : Int) (s : St) (q : Pkt) (R : Pkt → Prop) (h1 : ∀ x ∈ s.ps, R x) (h2 : ∀ x ∈ s.kept, x.2 ≠ [] ∧ ∀ y ∈ x.2, R y) (hq : R q) :
    (∀ x ∈ (addSt P M I s q).ps, R x) ∧ (∀ x ∈ (addSt P M I s q).kept, x.2 ≠ [] ∧ ∀ y ∈ x.2, R y) := by
  have hend : ∀ s : St, (∀ x ∈ s.ps, R x) → (∀ x ∈ s.kept, x.2 ≠ [] ∧ ∀ y ∈ x.2, R y) → s.ps ≠ [] → ∀ x ∈ (endSt M s).kept, x.2 ≠ [] ∧ ∀ y ∈ x.2, R y := fun s a b c x hx => by
    have hx' : x ∈ (if M ≤ (s.ps.length : Int) then s.kept ++ [(s.number, s.ps)] else s.kept) := hx
    split at hx'
    · rcases List.mem_append.1 hx' with hx' | hx'
      · exact b x hx'
      · obtain rfl : x = (s.number, s.ps) := by simpa using hx'
        exact ⟨c, a⟩
    · exact b x hx'
  have hs1 : (∀ x ∈ (if brk I s.ps q.1 then endSt M s else s).ps, R x) ∧ (∀ x ∈ (if brk I s.ps q.1 then endSt M s else s).kept, x.2 ≠ [] ∧ ∀ y ∈ x.2, R y) := by
    split
    · rename_i hb
      exact ⟨fun x hx => by simp [endSt] at hx, hend s h1 h2 (fun e => by rw [e] at hb; simp [brk] at hb)⟩
    · exact ⟨h1, h2⟩
  have e : addSt P M I s q = (if P ≤ (((pushSt (if brk I s.ps q.1 then endSt M s else s) q).ps.length : Nat) : Int) then endSt M (pushSt (if brk I s.ps q.1 then endSt M s else s) q) else pushSt (if brk I s.ps q.1 then endSt M s else s) q) := rfl
  rw [e]
  generalize (if brk I s.ps q.1 then endSt M s else s) = s1 at *
  obtain ⟨p1, p2, _, _⟩ := pushSt_facts s1 q
  have ha : ∀ x ∈ (pushSt s1 q).ps, R x := fun x hx => by
    rw [p1] at hx
    rcases List.mem_append.1 hx with hx | hx
    · exact hs1.1 x hx
    · obtain rfl : x = q := by simpa using hx
      exact hq
  have hb : ∀ x ∈ (pushSt s1 q).kept, x.2 ≠ [] ∧ ∀ y ∈ x.2, R y := fun x hx => by rw [p2] at hx; exact hs1.2 x hx
  by_cases hh : P ≤ (((pushSt s1 q).ps.length : Nat) : Int)
  · rw [if_pos hh]
    exact ⟨fun x hx => by simp [endSt] at hx, hend _ ha hb (by rw [p1]; simp)⟩
  · rw [if_neg hh]
    exact ⟨ha, hb⟩

theorem feed_mem (P M I : Int) (R : Pkt → Prop) : ∀ (ps : List Pkt) (s : St), (∀ q ∈ ps, R q) → (∀ x ∈ s.ps, R x) → (∀ x ∈ s.kept, x.2 ≠ [] ∧ ∀ y ∈ x.2, R y) →
    (∀ x ∈ (ps.foldl (addSt P M I) s).ps, R x) ∧ (∀ x ∈ (ps.foldl (addSt P M I) s).kept, x.2 ≠ [] ∧ ∀ y ∈ x.2, R y)
  | [], s, _, h1, h2 => ⟨h1, h2⟩
  | q :: l, s, h, h1, h2 => by
    obtain ⟨a, b⟩ := add_mem P M I s q R h1 h2 (h q (by simp))
    exact feed_mem P M I R l _ (fun x hx => h x (by simp [hx])) a b

theorem fin_mem (P M I : Int) (ps : List Pkt) (R : Pkt → Prop) (h : ∀ q ∈ ps, R q) : ∀ x ∈ (fin P M I ps).kept, x.2 ≠ [] ∧ ∀ y ∈ x.2, R y := by
  obtain ⟨a, b⟩ := feed_mem P M I R ps ⟨0, [], []⟩ h (fun x hx => by cases hx) (fun x hx => by cases hx)
  intro x hx
  rw [fin] at hx
  split at hx
  · exact b x hx
  · rename_i he
    have hx' : x ∈ (if M ≤ ((feed P M I ps).ps.length : Int) then (feed P M I ps).kept ++ [((feed P M I ps).number, (feed P M I ps).ps)] else (feed P M I ps).kept) := hx
    split at hx'
    · rcases List.mem_append.1 hx' with hx' | hx'
      · exact b x hx'
      · obtain rfl : x = ((feed P M I ps).number, (feed P M I ps).ps) := by simpa using hx'
        exact ⟨he, a⟩
    · exact b x hx'

theorem firstT_mem {l : List Pkt} (h : l ≠ []) : ∃ q ∈ l, firstT l = q.1 := by
  cases l with
  | nil => exact absurd rfl h
  | cons a t => exact ⟨a, by simp, rfl⟩
theorem lastT_mem {l : List Pkt} (h : l ≠ []) : ∃ q ∈ l, lastT l = q.1 := by
  refine ⟨l.getLast h, List.getLast_mem h, ?_⟩
  unfold lastT
  cases l with
  | nil => exact absurd rfl h
  | cons a t => simp [List.getLastD]

/-- Window k of either run. -/
theorem pair_at {b1 b2 : Nat} {d : Int} {K : List Kept} {KH KH2 : List (Kept × Value × Value)} {kv kv2 : Value} {w2 w3 w4 : World} (h1 : KeptAt b1 0 K KH kv w2) (h2 : KeptAt b2 d K KH2 kv2 w3) (hB2 : Below w2.heap.size w2 w4) (hB3 : Below w3.heap.size w3 w4) {xg yg k : Nat} (hk : k < KH.length) (hk2 : k < KH2.length)
    (hR : ∀ x ∈ K, x.2 ≠ [] ∧ ∀ q ∈ x.2, (-9223372036854775808 ≤ q.1 ∧ q.1 < 9223372036854775808) ∧ (-9223372036854775808 ≤ q.1 + d ∧ q.1 + d < 9223372036854775808))
    (hx : xg < w2.heap.size ∧ Win15 xg (k * 15) KH[k].1.1 (firstT KH[k].1.2 + 0) (lastT KH[k].1.2 + 0) KH[k].1.2.length (lensOf KH[k].1.2).sum (rk (lensOf KH[k].1.2) 5) (rk (lensOf KH[k].1.2) 50) (rk (lensOf KH[k].1.2) 95) (overs (lensOf KH[k].1.2)).length KH[k].2.1 KH[k].2.2 w2)
    (hy : yg < w3.heap.size ∧ Win15 yg (k * 15) KH2[k].1.1 (firstT KH2[k].1.2 + d) (lastT KH2[k].1.2 + d) KH2[k].1.2.length (lensOf KH2[k].1.2).sum (rk (lensOf KH2[k].1.2) 5) (rk (lensOf KH2[k].1.2) 50) (rk (lensOf KH2[k].1.2) 95) (overs (lensOf KH2[k].1.2)).length KH2[k].2.1 KH2[k].2.2 w3) :
    ∃ num t1 t2 N S p5 p50 p95 ov lh gh lh2 gh2, ∃ L G : List (Int × Int), Win15 xg (k * 15) num t1 t2 N S p5 p50 p95 ov lh gh w4 ∧ Win15 yg (k * 15) num (t1 + d) (t2 + d) N S p5 p50 p95 ov lh2 gh2 w4 ∧
      w4.ownsRow b1 71 2 lh L.length (bucketCells L) ∧ w4.ownsRow b1 71 2 gh G.length (bucketCells G) ∧ w4.ownsRow b2 71 2 lh2 L.length (bucketCells L) ∧ w4.ownsRow b2 71 2 gh2 G.length (bucketCells G) ∧ L.length ≤ 1000 ∧ G.length ≤ 1000 ∧
      (-9223372036854775808 ≤ t1 ∧ t1 < 9223372036854775808) ∧ (-9223372036854775808 ≤ t2 ∧ t2 < 9223372036854775808) ∧ (-9223372036854775808 ≤ t1 + d ∧ t1 + d < 9223372036854775808) ∧ (-9223372036854775808 ≤ t2 + d ∧ t2 + d < 9223372036854775808) := by
  have hm1 := List.getElem_mem hk
  have hm2 := List.getElem_mem hk2
  have e : KH2[k].1 = KH[k].1 := by
    have a1 : K[k]? = some KH[k].1 := by rw [← h1.names, List.getElem?_map, List.getElem?_eq_getElem hk]; rfl
    have a2 : K[k]? = some KH2[k].1 := by rw [← h2.names, List.getElem?_map, List.getElem?_eq_getElem hk2]; rfl
    rw [a1] at a2
    exact (Option.some.inj a2).symm
  have hKm : KH[k].1 ∈ K := by rw [← h1.names]; exact List.mem_map_of_mem hm1
  have r1 := h1.rows _ hm1
  have r2 := h2.rows _ hm2
  obtain ⟨hx0, hx⟩ := hx
  obtain ⟨hy0, hy⟩ := hy
  generalize KH[k] = X at *
  generalize KH2[k] = Y at *
  obtain ⟨⟨num, pk⟩, lh, gh⟩ := X
  obtain ⟨⟨num2, pk2⟩, lh2, gh2⟩ := Y
  cases e
  obtain ⟨hne, hall⟩ := hR _ hKm
  obtain ⟨q1, hq1, e1⟩ := firstT_mem hne
  obtain ⟨q2, hq2, e2⟩ := lastT_mem hne
  have b1 := hall q1 hq1
  have b2 := hall q2 hq2
  simp only [Int.add_zero] at hx
  exact ⟨num, firstT pk, lastT pk, _, _, _, _, _, _, lh, gh, lh2, gh2, lhist pk, ghist pk, hx.later hB2 hx0, hy.later hB3 hy0, owns_later r1.1 hB2, owns_later r1.2 hB2, owns_later r2.1 hB3, owns_later r2.2 hB3, hist_small_tail _ _, hist_small _ _ _ (by omega), by rw [show firstT pk = q1.1 from e1]; exact b1.1, by rw [show lastT pk = q2.1 from e2]; exact b2.1, by rw [show firstT pk = q1.1 from e1]; exact b1.2, by rw [show lastT pk = q2.1 from e2]; exact b2.2⟩

set_option maxRecDepth 100000 in
set_option maxHeartbeats 2000000 in
theorem f4_big (P M I d : Int) (ao : Option Addr) (n cap : Nat) (w : World) (h : 4096 < n) :
    Calls Try.prog 4 #[.int .i64 P, .int .i64 M, .int .i64 I, .slice ao n cap, .int .i64 d] w fun e w' => e = .returned (.bool true) ∧ Below w.heap.size w w' := by
  have k9 := f9_any P M I d ao n cap w
  have h2 : (4096 : Int) < (n : Int) := by omega
  by_cases hb : n ≤ 1048576
  · rw [decide_eq_true hb] at k9
    go_enter Try.func4, Try.ntmps4
    go_wp2_with fail
    refine k9.mono ?_
    rintro e w1 ⟨rfl, rfl⟩
    go_wp2
    go_ret
    exact ⟨rfl, Below.refl _ _⟩
  · rw [decide_eq_false hb] at k9
    go_enter Try.func4, Try.ntmps4
    go_wp2_with fail
    refine k9.mono ?_
    rintro e w1 ⟨rfl, rfl⟩
    go_wp2
    go_ret
    exact ⟨rfl, Below.refl _ _⟩

set_option maxRecDepth 100000 in
set_option maxHeartbeats 4000000 in
theorem f4_small (P M I d : Int) (ao : Option Addr) (n cap : Nat) (ps : List Pkt) (w : World) (hp : Pks w ao n cap ps) (hn : n ≤ 4096) (hd : -9223372036854775808 ≤ d ∧ d < 9223372036854775808) :
    Calls Try.prog 4 #[.int .i64 P, .int .i64 M, .int .i64 I, .slice ao n cap, .int .i64 d] w fun e w' => e = .returned (.bool true) ∧ Below w.heap.size w w' := by
  have k9 := f9_any P M I d ao n cap w
  rw [decide_eq_true (by omega)] at k9
  have h4 : decide ((4096 : Int) < (n : Int)) = false := decide_eq_false (by omega)
  have HL : Hid (n = ps.length) := hp.len
  obtain ⟨hd1, hd2⟩ := hd
  go_enter Try.func4, Try.ntmps4
  go_wp2_with fail
  refine k9.mono ?_
  rintro e w1 ⟨rfl, rfl⟩
  clear k9
  go_wp2_with fail
  go_loopw [11] (fun i wr => ∃ k : Nat, k ≤ n ∧ i = .int .i64 k ∧ wr = w1 ∧ ∀ q ∈ ps.take k, -9223372036854775808 ≤ q.1 + d ∧ q.1 + d < 9223372036854775808)
    (fun i _ => n - (intOf i).toNat)
  case atStart => exact ⟨0, Nat.zero_le _, rfl, rfl, fun q hq => by simp at hq⟩
  case round =>
    obtain ⟨k, hk, rfl, rfl, hok⟩ := hrel
    by_cases hkl : k < n
    · have hkp : k < ps.length := by rw [← HL.out]; exact hkl
      obtain ⟨b, off, _, hrd⟩ := hp.rd
      obtain ⟨a1, a2, a3, a4⟩ := hrd k hkp
      have hwf := hp.wf _ (List.getElem_mem hkp)
      have hT : ps.take (k + 1) = ps.take k ++ [ps[k]] := List.take_succ_eq_append_getElem hkp
      generalize ps[k] = q at *
      obtain ⟨T, N⟩ := q
      have HT : Hid (ps.take (k + 1) = ps.take k ++ [(T, N)]) := hT
      have HOK : Hid (∀ q ∈ ps.take k, -9223372036854775808 ≤ q.1 + d ∧ q.1 + d < 9223372036854775808) := hok
      obtain ⟨⟨hT1, hT2⟩, _⟩ := hwf
      clear hT hok hrd a3
      simp only at hT1 hT2
      have fin1 : -9223372036854775808 ≤ T + d → T + d < 9223372036854775808 → ∀ q ∈ ps.take (k + 1), -9223372036854775808 ≤ q.1 + d ∧ q.1 + d < 9223372036854775808 := fun x y q hq => by
        rw [HT.out] at hq
        rcases List.mem_append.1 hq with hq | hq
        · exact HOK.out q hq
        · obtain rfl : q = (T, N) := by simpa using hq
          exact ⟨x, y⟩
      have FIN : Hid (-9223372036854775808 ≤ T + d → T + d < 9223372036854775808 → ∀ q ∈ ps.take (k + 1), -9223372036854775808 ≤ q.1 + d ∧ q.1 + d < 9223372036854775808) := fin1
      clear fin1
      by_cases hpos : 0 < d
      · by_cases ho : 9223372036854775807 - d < T
        · go_wp2
          go_ret
          exact ⟨rfl, Below.refl _ _⟩
        · have ho' : decide (9223372036854775807 - d < T) = false := decide_eq_false ho
          have hng : decide (d < 0) = false := decide_eq_false (by omega)
          go_wp2
          exact ⟨⟨k + 1, by omega, by go_num, trivial, FIN.out (by omega) (by omega)⟩, by simp [intOf]; omega⟩
      · have hpos' : decide (0 < d) = false := decide_eq_false hpos
        by_cases hneg : d < 0
        · by_cases ho : T < -9223372036854775808 - d
          · go_wp2
            go_ret
            exact ⟨rfl, Below.refl _ _⟩
          · have ho' : decide (T < -9223372036854775808 - d) = false := decide_eq_false ho
            go_wp2
            exact ⟨⟨k + 1, by omega, by go_num, trivial, FIN.out (by omega) (by omega)⟩, by simp [intOf]; omega⟩
        · have hneg' : decide (d < 0) = false := decide_eq_false hneg
          go_wp2
          exact ⟨⟨k + 1, by omega, by go_num, trivial, FIN.out (by omega) (by omega)⟩, by simp [intOf]; omega⟩
    · have hkl' : decide ((k : Int) < (n : Int)) = false := decide_eq_false (by omega)
      rw [List.take_of_length_le (by rw [← HL.out]; omega)] at hok
      have HOK : Hid (∀ q ∈ ps, -9223372036854775808 ≤ q.1 + d ∧ q.1 + d < 9223372036854775808) := hok
      clear hok
      have k6 := f6_any P M I 0 ao n cap ps wr hp hn (fun q hq => by have := (hp.wf q hq).1; omega)
      go_wp2_with fail
      refine k6.mono ?_
      rintro e w2 ⟨kv, KH, rfl, hK1, hB1⟩
      clear k6
      have k6 := f6_any P M I d ao n cap ps w2 (hp.later hB1) hn HOK.out
      go_wp2_with fail
      refine k6.mono ?_
      rintro e w3 ⟨kv2, KH2, rfl, hK2, hB2⟩
      clear k6
      have k10 := f10_any P M I ao n cap ps w3 ((hp.later hB1).later hB2) hn
      go_wp2_with fail
      refine k10.mono ?_
      rintro e w4 ⟨rfl, hB3⟩
      clear k10
      have hcount := fin_counts P M I ps (by rw [← HL.out]; exact hn)
      rw [← HL.out] at hcount
      have hl1 : KH.length = (fin P M I ps).kept.length := by rw [← hK1.names, List.length_map]
      have hl2 : KH2.length = KH.length := by rw [hl1, ← hK2.names, List.length_map]
      have hKl : KH.length ≤ 4096 := by
        have := (cnts_bound (clampP P) M I ps (clampP_pos P) n)
        omega
      obtain ⟨xa, xc, xg, rfl, hx⟩ := kept_at hK1
      obtain ⟨ya, yc, yg, rfl, hy⟩ := kept_at hK2
      have e1 : (cnts (clampP P) M I ps n).all = (fin P M I ps).number := hcount.1.symm
      have e2 : (cnts (clampP P) M I ps n).kept = (KH.length : Int) := by rw [← hcount.2, hl1]
      rw [e1, e2]
      obtain ⟨A, hA⟩ : ∃ A, A = (fin P M I ps).number := ⟨_, rfl⟩
      obtain ⟨L, hL⟩ : ∃ L, L = KH.length := ⟨_, rfl⟩
      have HX : Hid (∀ k (hk : k < KH.length), (∀ W : World, (Instr.indexAt 24 (.slice xa L xc) (.int .i64 (k : Int))).run Try.prog W = .ok (.pointer (some ⟨xg, k * 15, none⟩)) W)) := fun k hk => by rw [hL]; exact (hx k hk).1
      have HY : Hid (∀ k (hk : k < KH2.length), (∀ W : World, (Instr.indexAt 24 (.slice ya L yc) (.int .i64 (k : Int))).run Try.prog W = .ok (.pointer (some ⟨yg, k * 15, none⟩)) W)) := fun k hk => by rw [hL, ← hl2]; exact (hy k hk).1
      have hR : ∀ x ∈ (fin P M I ps).kept, x.2 ≠ [] ∧ ∀ q ∈ x.2, (-9223372036854775808 ≤ q.1 ∧ q.1 < 9223372036854775808) ∧ (-9223372036854775808 ≤ q.1 + d ∧ q.1 + d < 9223372036854775808) := fin_mem P M I ps _ (fun q hq => ⟨(hp.wf q hq).1, HOK.out q hq⟩)
      have HPA : Hid (∀ k (hk : k < KH.length) (hk2 : k < KH2.length) W, Below w4.heap.size w4 W → ∃ num t1 t2 N S p5 p50 p95 ov lh gh lh2 gh2, ∃ L G : List (Int × Int), Win15 xg (k * 15) num t1 t2 N S p5 p50 p95 ov lh gh W ∧ Win15 yg (k * 15) num (t1 + d) (t2 + d) N S p5 p50 p95 ov lh2 gh2 W ∧
          W.ownsRow wr.heap.size 71 2 lh L.length (bucketCells L) ∧ W.ownsRow wr.heap.size 71 2 gh G.length (bucketCells G) ∧ W.ownsRow w2.heap.size 71 2 lh2 L.length (bucketCells L) ∧ W.ownsRow w2.heap.size 71 2 gh2 G.length (bucketCells G) ∧ L.length ≤ 1000 ∧ G.length ≤ 1000 ∧
          (-9223372036854775808 ≤ t1 ∧ t1 < 9223372036854775808) ∧ (-9223372036854775808 ≤ t2 ∧ t2 < 9223372036854775808) ∧ (-9223372036854775808 ≤ t1 + d ∧ t1 + d < 9223372036854775808) ∧ (-9223372036854775808 ≤ t2 + d ∧ t2 + d < 9223372036854775808)) := fun k hk hk2 W hW =>
        pair_at hK1 hK2 (below_then (below_then hB2 hB3) hW) (below_then hB3 hW) hk hk2 hR (hx k hk).2 (hy k hk2).2
      have HB04 : Hid (Below wr.heap.size wr w4) := below_then (below_then hB1 hB2) hB3
      have HLK : Hid (L = KH.length) := hL
      have HLK2 : Hid (KH2.length = KH.length) := hl2
      rw [hl2, ← hL, ← hA]
      rw [← hL] at hKl
      clear hx hy hcount hl1 hl2 e1 e2 hA hL hR hK1 hK2 hB1 hB2 hB3
      go_wp2_with fail
      go_loopw [19] (fun i W => ∃ k2 : Nat, k2 ≤ L ∧ i = .int .i64 k2 ∧ Below w4.heap.size w4 W) (fun i _ => L - (intOf i).toNat)
      case atStart => exact ⟨0, Nat.zero_le _, rfl, Below.refl _ _⟩
      case round =>
        rename_i W5
        obtain ⟨k2, hk2, rfl, hBW⟩ := hrel
        by_cases hkl2 : k2 < L
        · have hka : k2 < KH.length := by rw [← HLK.out]; exact hkl2
          have hkb : k2 < KH2.length := by rw [HLK2.out]; exact hka
          have x1 := HX.out k2 hka
          have y1 := HY.out k2 hkb
          obtain ⟨num, t1, t2, N, S, p5, p50, p95, ov, lh, gh, lh2, gh2, LL, GG, hw1, hw2, o1, o2, o3, o4, hL1, hG1, T1, T2, T3, T4⟩ := HPA.out k2 hka hkb w4 (Below.refl _ _)
          obtain ⟨la, ln, lc, rfl⟩ : ∃ a n c, lh = .slice a n c := by
            rcases o1.2 with ⟨h, _⟩ | ⟨_, _, _, h, _⟩ <;> exact ⟨_, _, _, h⟩
          obtain ⟨ga, gn, gc, rfl⟩ : ∃ a n c, gh = .slice a n c := by
            rcases o2.2 with ⟨h, _⟩ | ⟨_, _, _, h, _⟩ <;> exact ⟨_, _, _, h⟩
          obtain ⟨la2, ln2, lc2, rfl⟩ : ∃ a n c, lh2 = .slice a n c := by
            rcases o3.2 with ⟨h, _⟩ | ⟨_, _, _, h, _⟩ <;> exact ⟨_, _, _, h⟩
          obtain ⟨ga2, gn2, gc2, rfl⟩ : ∃ a n c, gh2 = .slice a n c := by
            rcases o4.2 with ⟨h, _⟩ | ⟨_, _, _, h, _⟩ <;> exact ⟨_, _, _, h⟩
          have g1 : xg < w4.heap.size := World.block_lt_of_cell? w4 _ hw1.1
          have g2 : yg < w4.heap.size := World.block_lt_of_cell? w4 _ hw2.1
          have keepS : ∀ W, Below w4.heap.size w4 W → (W.cell? ⟨xg, k2 * 15, none⟩ = some (.int .i64 num) ∧ W.cell? ⟨xg, k2 * 15 + 1, none⟩ = some (.int .u64 (nn (t1))) ∧ W.cell? ⟨xg, k2 * 15 + 2, none⟩ = some (.int .i64 (ss (t1))) ∧ W.cell? ⟨xg, k2 * 15 + 3, none⟩ = some (.pointer none) ∧ W.cell? ⟨xg, k2 * 15 + 4, none⟩ = some (.int .u64 (nn (t2))) ∧ W.cell? ⟨xg, k2 * 15 + 5, none⟩ = some (.int .i64 (ss (t2))) ∧ W.cell? ⟨xg, k2 * 15 + 6, none⟩ = some (.pointer none) ∧ W.cell? ⟨xg, k2 * 15 + 7, none⟩ = some (.int .i64 N) ∧ W.cell? ⟨xg, k2 * 15 + 8, none⟩ = some (.int .i64 S) ∧ W.cell? ⟨xg, k2 * 15 + 9, none⟩ = some (.int .i64 p5) ∧ W.cell? ⟨xg, k2 * 15 + 10, none⟩ = some (.int .i64 p50) ∧ W.cell? ⟨xg, k2 * 15 + 11, none⟩ = some (.int .i64 p95) ∧ W.cell? ⟨xg, k2 * 15 + 12, none⟩ = some (.int .i64 ov) ∧ W.cell? ⟨xg, k2 * 15 + 13, none⟩ = some (.slice la ln lc) ∧ W.cell? ⟨xg, k2 * 15 + 14, none⟩ = some (.slice ga gn gc)) ∧ (W.cell? ⟨yg, k2 * 15, none⟩ = some (.int .i64 num) ∧ W.cell? ⟨yg, k2 * 15 + 1, none⟩ = some (.int .u64 (nn (t1 + d))) ∧ W.cell? ⟨yg, k2 * 15 + 2, none⟩ = some (.int .i64 (ss (t1 + d))) ∧ W.cell? ⟨yg, k2 * 15 + 3, none⟩ = some (.pointer none) ∧ W.cell? ⟨yg, k2 * 15 + 4, none⟩ = some (.int .u64 (nn (t2 + d))) ∧ W.cell? ⟨yg, k2 * 15 + 5, none⟩ = some (.int .i64 (ss (t2 + d))) ∧ W.cell? ⟨yg, k2 * 15 + 6, none⟩ = some (.pointer none) ∧ W.cell? ⟨yg, k2 * 15 + 7, none⟩ = some (.int .i64 N) ∧ W.cell? ⟨yg, k2 * 15 + 8, none⟩ = some (.int .i64 S) ∧ W.cell? ⟨yg, k2 * 15 + 9, none⟩ = some (.int .i64 p5) ∧ W.cell? ⟨yg, k2 * 15 + 10, none⟩ = some (.int .i64 p50) ∧ W.cell? ⟨yg, k2 * 15 + 11, none⟩ = some (.int .i64 p95) ∧ W.cell? ⟨yg, k2 * 15 + 12, none⟩ = some (.int .i64 ov) ∧ W.cell? ⟨yg, k2 * 15 + 13, none⟩ = some (.slice la2 ln2 lc2) ∧ W.cell? ⟨yg, k2 * 15 + 14, none⟩ = some (.slice ga2 gn2 gc2)) ∧ Below w4.heap.size w4 W := fun W hW => ⟨hw1.later hW g1, hw2.later hW g2, hW⟩
          have k11 : ∀ W, Below w4.heap.size w4 W → Calls Try.prog 11 #[.agg (winArr num t1 t2 N S p5 p50 p95 ov (.slice la ln lc) (.slice ga gn gc)), .agg (winArr num (t1 + d) (t2 + d) N S p5 p50 p95 ov (.slice la2 ln2 lc2) (.slice ga2 gn2 gc2)), .int .i64 d] W fun e w' => e = .returned (.bool true) ∧ Below w4.heap.size w4 w' := fun W hW =>
            (f11_same _ _ num t1 t2 N S p5 p50 p95 ov d _ _ _ _ LL GG W (owns_later o1 hW) (owns_later o2 hW) (owns_later o3 hW) (owns_later o4 hW) hL1 hG1 T1 T2 T3 T4 ⟨hd1, hd2⟩).mono fun e w' h => ⟨h.1, below_then hW h.2⟩
          obtain ⟨⟨c0, c1, c2, c3, c4, c5, c6, c7, c8, c9, c10, c11, c12, c13, c14⟩, ⟨e0, e1, e2, e3, e4, e5, e6, e7, e8, e9, e10, e11, e12, e13, e14⟩, _⟩ := keepS wr hBW
          have hBd : Below w4.heap.size w4 wr.drew := hBW.drew
          clear HPA HX HY o1 o2 o3 o4 T1 T2 T3 T4 hw1 hw2
          go_wp2_with fail
          go_region_held3 (fun W => (W.cell? ⟨xg, k2 * 15, none⟩ = some (.int .i64 num) ∧ W.cell? ⟨xg, k2 * 15 + 1, none⟩ = some (.int .u64 (nn (t1))) ∧ W.cell? ⟨xg, k2 * 15 + 2, none⟩ = some (.int .i64 (ss (t1))) ∧ W.cell? ⟨xg, k2 * 15 + 3, none⟩ = some (.pointer none) ∧ W.cell? ⟨xg, k2 * 15 + 4, none⟩ = some (.int .u64 (nn (t2))) ∧ W.cell? ⟨xg, k2 * 15 + 5, none⟩ = some (.int .i64 (ss (t2))) ∧ W.cell? ⟨xg, k2 * 15 + 6, none⟩ = some (.pointer none) ∧ W.cell? ⟨xg, k2 * 15 + 7, none⟩ = some (.int .i64 N) ∧ W.cell? ⟨xg, k2 * 15 + 8, none⟩ = some (.int .i64 S) ∧ W.cell? ⟨xg, k2 * 15 + 9, none⟩ = some (.int .i64 p5) ∧ W.cell? ⟨xg, k2 * 15 + 10, none⟩ = some (.int .i64 p50) ∧ W.cell? ⟨xg, k2 * 15 + 11, none⟩ = some (.int .i64 p95) ∧ W.cell? ⟨xg, k2 * 15 + 12, none⟩ = some (.int .i64 ov) ∧ W.cell? ⟨xg, k2 * 15 + 13, none⟩ = some (.slice la ln lc) ∧ W.cell? ⟨xg, k2 * 15 + 14, none⟩ = some (.slice ga gn gc)) ∧ (W.cell? ⟨yg, k2 * 15, none⟩ = some (.int .i64 num) ∧ W.cell? ⟨yg, k2 * 15 + 1, none⟩ = some (.int .u64 (nn (t1 + d))) ∧ W.cell? ⟨yg, k2 * 15 + 2, none⟩ = some (.int .i64 (ss (t1 + d))) ∧ W.cell? ⟨yg, k2 * 15 + 3, none⟩ = some (.pointer none) ∧ W.cell? ⟨yg, k2 * 15 + 4, none⟩ = some (.int .u64 (nn (t2 + d))) ∧ W.cell? ⟨yg, k2 * 15 + 5, none⟩ = some (.int .i64 (ss (t2 + d))) ∧ W.cell? ⟨yg, k2 * 15 + 6, none⟩ = some (.pointer none) ∧ W.cell? ⟨yg, k2 * 15 + 7, none⟩ = some (.int .i64 N) ∧ W.cell? ⟨yg, k2 * 15 + 8, none⟩ = some (.int .i64 S) ∧ W.cell? ⟨yg, k2 * 15 + 9, none⟩ = some (.int .i64 p5) ∧ W.cell? ⟨yg, k2 * 15 + 10, none⟩ = some (.int .i64 p50) ∧ W.cell? ⟨yg, k2 * 15 + 11, none⟩ = some (.int .i64 p95) ∧ W.cell? ⟨yg, k2 * 15 + 12, none⟩ = some (.int .i64 ov) ∧ W.cell? ⟨yg, k2 * 15 + 13, none⟩ = some (.slice la2 ln2 lc2) ∧ W.cell? ⟨yg, k2 * 15 + 14, none⟩ = some (.slice ga2 gn2 gc2)) ∧ Below w4.heap.size w4 W) (exact keepS _ (by assumption)) (first | (go_at_call 11; refine (k11 _ (by assumption)).mono ?_; rintro e w6 ⟨rfl, hB6⟩))
          go_wp2_with fail
          exact ⟨⟨k2 + 1, by omega, by go_num, hB6⟩, by simp [intOf]; omega⟩
        · have hkl' : decide ((k2 : Int) < (L : Int)) = false := decide_eq_false (by omega)
          go_wp2
          go_ret
          exact ⟨rfl, below_then HB04.out hBW⟩

theorem f4_any (P M I d : Int) (ao : Option Addr) (n cap : Nat) (ps : List Pkt) (w : World) (hp : Pks w ao n cap ps) (hd : -9223372036854775808 ≤ d ∧ d < 9223372036854775808) :
    Calls Try.prog 4 #[.int .i64 P, .int .i64 M, .int .i64 I, .slice ao n cap, .int .i64 d] w fun e w' => e = .returned (.bool true) ∧ Below w.heap.size w w' := by
  by_cases hn : n ≤ 4096
  · exact f4_small P M I d ao n cap ps w hp hn hd
  · exact f4_big P M I d ao n cap w (by omega)
end Go.Proofs.Qxb6629007a
