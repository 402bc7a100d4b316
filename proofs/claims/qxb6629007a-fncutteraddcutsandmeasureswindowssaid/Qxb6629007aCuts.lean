/-
  Seat b6629007a: function 3 (FnCutterAddCutsAndMeasuresWindows), walked, at every input.
-/
import Derived.Test.Qxb6629007aZWin
import Derived.Test.Qxb6629007aZPiece
import Derived.Test.Qxb6629007aIgnores
namespace Go.Proofs.Qxb6629007a
open Go.RowKit

set_option maxRecDepth 100000 in
set_option maxHeartbeats 2000000 in
theorem f3_big (P M I : Int) (ao : Option Addr) (n cap : Nat) (w : World) (h : 4096 < n) :
    Calls Try.prog 3 #[.int .i64 P, .int .i64 M, .int .i64 I, .slice ao n cap] w fun e w' => e = .returned (.bool true) ∧ Below w.heap.size w w' := by
  have k5 := f5_any P M I ao n cap w
  have h2 : (4096 : Int) < (n : Int) := by omega
  by_cases hb : n ≤ 1048576
  · rw [decide_eq_true hb] at k5
    go_enter Try.func3, Try.ntmps3
    go_wp2_with fail
    refine k5.mono ?_
    rintro e w1 ⟨rfl, rfl⟩
    go_wp2
    go_ret
    exact ⟨rfl, Below.refl _ _⟩
  · rw [decide_eq_false hb] at k5
    go_enter Try.func3, Try.ntmps3
    go_wp2_with fail
    refine k5.mono ?_
    rintro e w1 ⟨rfl, rfl⟩
    go_wp2
    go_ret
    exact ⟨rfl, Below.refl _ _⟩

theorem keptFrom_length (M i : Int) (l : List (List Pkt)) : (keptFrom M i l).length ≤ l.length := by
  induction l generalizing i with
  | nil => simp [keptFrom]
  | cons a l ih =>
    rw [keptFrom]
    have := ih (i + 1)
    split <;> simp <;> omega

/-- What is known of piece k, kept as window j. -/
theorem kept_window {b1 : Nat} {M : Int} {all : List (List Pkt)} {KH : List (Kept × Value × Value)} {kv : Value} {w2 w4 : World} (hK : KeptAt b1 0 (keptFrom M 1 all) KH kv w2) (hB : Below w2.heap.size w2 w4) {xg k j : Nat} (hk : k < all.length) (hM : M ≤ (all[k].length : Int)) (hj : j = (keptFrom M 1 (all.take k)).length)
    (hx : ∀ j (hj : j < KH.length), xg < w2.heap.size ∧ Win15 xg (j * 15) KH[j].1.1 (firstT KH[j].1.2 + 0) (lastT KH[j].1.2 + 0) KH[j].1.2.length (lensOf KH[j].1.2).sum (rk (lensOf KH[j].1.2) 5) (rk (lensOf KH[j].1.2) 50) (rk (lensOf KH[j].1.2) 95) (overs (lensOf KH[j].1.2)).length KH[j].2.1 KH[j].2.2 w2) :
    j < KH.length ∧ ∃ la ln lc ga gn gc, Win15 xg (j * 15) ((k : Int) + 1) (firstT all[k]) (lastT all[k]) all[k].length (lensOf all[k]).sum (rk (lensOf all[k]) 5) (rk (lensOf all[k]) 50) (rk (lensOf all[k]) 95) (overs (lensOf all[k])).length (.slice la ln lc) (.slice ga gn gc) w4 ∧
      w4.ownsRow b1 71 2 (.slice la ln lc) (lhist all[k]).length (bucketCells (lhist all[k])) ∧ w4.ownsRow b1 71 2 (.slice ga gn gc) (ghist all[k]).length (bucketCells (ghist all[k])) := by
  have h1 := kept_piece hk hM
  rw [← hj, ← hK.names, List.getElem?_map] at h1
  have hjl : j < KH.length := by
    by_cases e : j < KH.length
    · exact e
    · rw [List.getElem?_eq_none (by omega)] at h1; simp at h1
  rw [List.getElem?_eq_getElem hjl] at h1
  have h2 : KH[j].1 = ((k : Int) + 1, all[k]) := by simpa using h1
  obtain ⟨hg, hw⟩ := hx j hjl
  have hr := hK.rows _ (List.getElem_mem hjl)
  refine ⟨hjl, ?_⟩
  generalize KH[j] = X at *
  obtain ⟨⟨num, pk⟩, lh, gh⟩ := X
  obtain ⟨rfl, rfl⟩ : num = (k : Int) + 1 ∧ pk = all[k] := by simpa using h2
  simp only [Int.add_zero] at hw
  obtain ⟨la, ln, lc, rfl⟩ : ∃ a n c, lh = .slice a n c := by
    rcases hr.1.2 with ⟨h, _⟩ | ⟨_, _, _, h, _⟩ <;> exact ⟨_, _, _, h⟩
  obtain ⟨ga, gn, gc, rfl⟩ : ∃ a n c, gh = .slice a n c := by
    rcases hr.2.2 with ⟨h, _⟩ | ⟨_, _, _, h, _⟩ <;> exact ⟨_, _, _, h⟩
  exact ⟨la, ln, lc, ga, gn, gc, hw.later hB hg, owns_later hr.1 hB, owns_later hr.2 hB⟩

set_option maxRecDepth 100000 in
set_option maxHeartbeats 4000000 in
theorem f3_small (P M I : Int) (ao : Option Addr) (n cap : Nat) (ps : List Pkt) (w : World) (hp : Pks w ao n cap ps) (ha : PkAt w ao n cap ps) (hn : n ≤ 4096) :
    Calls Try.prog 3 #[.int .i64 P, .int .i64 M, .int .i64 I, .slice ao n cap] w fun e w' => e = .returned (.bool true) ∧ Below w.heap.size w w' := by
  have k5 := f5_any P M I ao n cap w
  rw [decide_eq_true (by omega)] at k5
  have h4 : decide ((4096 : Int) < (n : Int)) = false := decide_eq_false (by omega)
  have HL : Hid (n = ps.length) := hp.len
  obtain ⟨p, hpp⟩ : ∃ p : Nat, clampP P = (p : Int) := ⟨(clampP P).toNat, by have := clampP_pos P; omega⟩
  have k6 := f6_any P M I 0 ao n cap ps w hp hn (fun q hq => by have := (hp.wf q hq).1; omega)
  obtain ⟨all, hnum, hkept, hflat, hoffs, hok⟩ := fin_wins P M I p hpp ps (by rw [← HL.out]; exact hn)
  rw [hnum, hkept] at k6
  have hal : all.length ≤ 4096 := by
    have hb := zst_bound p I ps (by have := clampP_pos P; omega) ps.length
    have h1 := offs_length 0 all
    rw [← hoffs] at h1
    have := HL.out
    omega
  go_enter Try.func3, Try.ntmps3
  go_wp2_with fail
  refine k5.mono ?_
  rintro e w1 ⟨rfl, rfl⟩
  clear k5
  go_wp2_with fail
  refine k6.mono ?_
  rintro e w2 ⟨kv, KH, rfl, hK, hB1⟩
  clear k6
  go_wp2_with fail
  refine (f7_any P I p hpp ao n cap ps w2 (hp.later hB1) hn).mono ?_
  rintro e w4 ⟨sv, rfl, hsv, hB2⟩
  rw [HL.out, hoffs] at hsv
  obtain ⟨sa, sc, rfl, sg, hs⟩ := ints3_at hsv
  obtain ⟨xa, xc, xg, rfl, hx⟩ := kept_at hK
  have hsl : (offs 0 all).length = all.length := offs_length 0 all
  have hKl : KH.length = (keptFrom M 1 all).length := by rw [← hK.names, List.length_map]
  have hKw := fun (k j : Nat) (hk : k < all.length) (hM : M ≤ (all[k].length : Int)) (hj : j = (keptFrom M 1 (all.take k)).length) => kept_window hK hB2 hk hM hj (fun j hj => ⟨(hx j hj).2.1, (hx j hj).2.2⟩)
  obtain ⟨L, hL⟩ : ∃ L, L = all.length := ⟨_, rfl⟩
  obtain ⟨KL, hKL⟩ : ∃ KL, KL = KH.length := ⟨_, rfl⟩
  have HX : Hid (∀ j, j < KL → (∀ W : World, (Instr.indexAt 24 (.slice xa KL xc) (.int .i64 (j : Int))).run Try.prog W = .ok (.pointer (some ⟨xg, j * 15, none⟩)) W)) := fun j hj => by rw [hKL]; exact (hx j (by omega)).1
  have HST : Hid (∀ k, k < L → (∀ W : World, (Instr.indexAt 27 (.slice sa L sc) (.int .i64 (k : Int))).run Try.prog W = .ok (.pointer (some ⟨sg, k, none⟩)) W) ∧ ∀ W, Below w4.heap.size w4 W → W.cell? ⟨sg, k, none⟩ = some (.int .i64 (((all.take k).flatten.length : Nat) : Int))) := fun k hk => by
    obtain ⟨a, c⟩ := hs k (by omega)
    rw [offs_get 0 all k (by omega), Nat.zero_add] at c
    rw [hsl, ← hL] at a
    exact ⟨a, fun W hW => by rw [hW.cell (by exact World.block_lt_of_cell? w4 _ c)]; exact c⟩
  have HKW : Hid (∀ (k j : Nat) (hk : k < all.length) (hM : M ≤ (all[k].length : Int)) (hj : j = (keptFrom M 1 (all.take k)).length), j < KL ∧ ∃ la ln lc ga gn gc, Win15 xg (j * 15) ((k : Int) + 1) (firstT all[k]) (lastT all[k]) all[k].length (lensOf all[k]).sum (rk (lensOf all[k]) 5) (rk (lensOf all[k]) 50) (rk (lensOf all[k]) 95) (overs (lensOf all[k])).length (.slice la ln lc) (.slice ga gn gc) w4 ∧
      w4.ownsRow w1.heap.size 71 2 (.slice la ln lc) (lhist all[k]).length (bucketCells (lhist all[k])) ∧ w4.ownsRow w1.heap.size 71 2 (.slice ga gn gc) (ghist all[k]).length (bucketCells (ghist all[k]))) := by rw [Hid, hKL]; exact hKw
  have HKE : Hid (KL = (keptFrom M 1 all).length) := by rw [Hid, hKL]; exact hKl
  have HLA : Hid (L = all.length) := hL
  have HOK : Hid (∀ x ∈ all, x ≠ [] ∧ GapOk x) := hok
  have HFL : Hid (all.flatten = ps) := hflat
  have hB04 : Below w1.heap.size w1 w4 := below_then hB1 hB2
  have hKL4 : KL ≤ 4096 := by
    have := keptFrom_length M 1 all
    omega
  rw [hsl, ← hL, ← hKL]
  rw [← hL] at hal
  clear hnum hkept hoffs hsv hs hx hKl hKw hL hKL hK hB1 hB2 hpp hsl hok hflat
  have hnn : ((L : Int) != (L : Int)) = false := by simp
  go_wp2_with fail
  go_loopw [12, 13] (fun jv kv W => ∃ k j : Nat, k ≤ L ∧ kv = .int .i64 (k : Int) ∧ jv = .int .i64 (j : Int) ∧ Hid (j = (keptFrom M 1 (all.take k)).length) ∧ j ≤ KL ∧ Below w4.heap.size w4 W)
    (fun _ kv _ => L - (intOf kv).toNat)
  case atStart => exact ⟨0, 0, Nat.zero_le _, rfl, rfl, rfl, Nat.zero_le _, Below.refl _ _⟩
  case round =>
    obtain ⟨k, j, hk, rfl, rfl, HJ, hjl, hBW⟩ := hrel
    by_cases hkl : k < L
    · have hkl' : (k : Int) < (L : Int) := by omega
      have hka : k < all.length := by rw [← HLA.out]; exact hkl
      obtain ⟨s1, s2⟩ := HST.out k hkl
      have s2' := s2 wr hBW
      obtain ⟨b1, b2, b3, b4⟩ := piece_bounds HFL.out hka
      clear b4
      obtain ⟨hne, hgap⟩ := HOK.out _ (List.getElem_mem hka)
      obtain ⟨ao2, cap2, hslc, hpk2⟩ := piece_pks hp ha HFL.out hka hne
      have hjn := kept_next (M := M) hka
      have hnext : k + 1 < L → (∀ W : World, (Instr.indexAt 27 (.slice sa L sc) (.int .i64 ((k : Int) + 1))).run Try.prog W = .ok (.pointer (some ⟨sg, k + 1, none⟩)) W) ∧ wr.cell? ⟨sg, k + 1, none⟩ = some (.int .i64 (((all.take (k + 1)).flatten.length : Nat) : Int)) := fun h => by
        obtain ⟨a, c⟩ := HST.out (k + 1) h
        exact ⟨a, c wr hBW⟩
      have HNX : Hid (k + 1 < L → (∀ W : World, (Instr.indexAt 27 (.slice sa L sc) (.int .i64 ((k : Int) + 1))).run Try.prog W = .ok (.pointer (some ⟨sg, k + 1, none⟩)) W) ∧ wr.cell? ⟨sg, k + 1, none⟩ = some (.int .i64 (((all.take (k + 1)).flatten.length : Nat) : Int))) := hnext
      have HLAST : Hid (¬ k + 1 < L → (all.take (k + 1)).flatten.length = n) := fun h => by rw [HL.out]; exact b3 (by have := HLA.out; omega)
      rw [← HL.out] at b2
      by_cases hM : M ≤ (all[k].length : Int)
      · obtain ⟨hjk, la, ln, lc, ga, gn, gc, hw15, o1, o2⟩ := HKW.out k j hka hM HJ.out
        have HJN : Hid (j + 1 = (keptFrom M 1 (all.take (k + 1))).length) := by rw [Hid, hjn, if_pos hM, HJ.out]
        have x1 := HX.out j hjk
        have hN4 : all[k].length ≤ 4096 := by omega
        have k8 : ∀ W, Below w4.heap.size w4 W → Calls Try.prog 8 #[.agg (winArr ((k : Int) + 1) (firstT all[k]) (lastT all[k]) all[k].length (lensOf all[k]).sum (rk (lensOf all[k]) 5) (rk (lensOf all[k]) 50) (rk (lensOf all[k]) 95) (overs (lensOf all[k])).length (.slice la ln lc) (.slice ga gn gc)), .int .i64 ((k : Int) + 1), .slice ao2 all[k].length cap2] W fun e w' => e = .returned (.bool true) ∧ Below w4.heap.size w4 w' := fun W hW =>
          (f8_true _ _ _ _ _ _ _ _ _ all[k] _ _ ao2 _ cap2 W (hpk2 W (below_then hB04 hW)) hne hN4 (owns_later o1 hW) (owns_later o2 hW) hgap rfl rfl rfl rfl rfl rfl rfl).mono fun e w' h => ⟨h.1, below_then hW h.2⟩
        have gx : xg < w4.heap.size := World.block_lt_of_cell? w4 _ hw15.1
        have hlat := fun W (hW : Below w4.heap.size w4 W) => hw15.later hW gx
        clear HKW HX HOK hpk2 o1 o2 hw15 hgap hne hjn hnext s2 b3 HST
        generalize firstT all[k] = T1 at *
        generalize lastT all[k] = T2 at *
        generalize (lensOf all[k]).sum = SM at *
        generalize rk (lensOf all[k]) 5 = R5 at *
        generalize rk (lensOf all[k]) 50 = R50 at *
        generalize rk (lensOf all[k]) 95 = R95 at *
        generalize ((overs (lensOf all[k])).length : Int) = OV at *
        generalize all[k].length = N at *
        generalize (all.take k).flatten.length = S at *
        generalize (all.take (k + 1)).flatten.length = E at *
        have keepS : ∀ W, Below w4.heap.size w4 W → (W.cell? ⟨xg, j * 15, none⟩ = some (.int .i64 ((k : Int) + 1)) ∧ W.cell? ⟨xg, j * 15 + 1, none⟩ = some (.int .u64 (nn T1)) ∧ W.cell? ⟨xg, j * 15 + 2, none⟩ = some (.int .i64 (ss T1)) ∧ W.cell? ⟨xg, j * 15 + 3, none⟩ = some (.pointer none) ∧ W.cell? ⟨xg, j * 15 + 4, none⟩ = some (.int .u64 (nn T2)) ∧ W.cell? ⟨xg, j * 15 + 5, none⟩ = some (.int .i64 (ss T2)) ∧ W.cell? ⟨xg, j * 15 + 6, none⟩ = some (.pointer none) ∧ W.cell? ⟨xg, j * 15 + 7, none⟩ = some (.int .i64 (N : Int)) ∧ W.cell? ⟨xg, j * 15 + 8, none⟩ = some (.int .i64 SM) ∧ W.cell? ⟨xg, j * 15 + 9, none⟩ = some (.int .i64 R5) ∧ W.cell? ⟨xg, j * 15 + 10, none⟩ = some (.int .i64 R50) ∧ W.cell? ⟨xg, j * 15 + 11, none⟩ = some (.int .i64 R95) ∧ W.cell? ⟨xg, j * 15 + 12, none⟩ = some (.int .i64 OV) ∧ W.cell? ⟨xg, j * 15 + 13, none⟩ = some (.slice la ln lc) ∧ W.cell? ⟨xg, j * 15 + 14, none⟩ = some (.slice ga gn gc)) ∧ Below w4.heap.size w4 W := fun W hW => ⟨hlat W hW, hW⟩
        rw [winArr] at k8
        clear hlat
        obtain ⟨⟨c0, c1, c2, c3, c4, c5, c6, c7, c8, c9, c10, c11, c12, c13, c14⟩, _⟩ := keepS wr hBW
        have hBd : Below w4.heap.size w4 wr.drew := hBW.drew
        have hjf : decide (KL ≤ j) = false := decide_eq_false (by omega)
        have hES : decide ((E : Int) - (S : Int) < M) = false := decide_eq_false (by omega)
        have hSE : S ≤ E := by omega
        clear b1 hM
        have hwk : IntKind.i64.wrap ((k : Int) + 1) = (k : Int) + 1 := by rw [IntKind.wrap_i64]; omega
        by_cases hk1 : k + 1 < L
        · have hk1' : (k : Int) + 1 < (L : Int) := by omega
          obtain ⟨q1, q2⟩ := HNX.out hk1
          go_wp2_with fail
          go_region_held3 (fun W => (W.cell? ⟨xg, j * 15, none⟩ = some (.int .i64 ((k : Int) + 1)) ∧ W.cell? ⟨xg, j * 15 + 1, none⟩ = some (.int .u64 (nn T1)) ∧ W.cell? ⟨xg, j * 15 + 2, none⟩ = some (.int .i64 (ss T1)) ∧ W.cell? ⟨xg, j * 15 + 3, none⟩ = some (.pointer none) ∧ W.cell? ⟨xg, j * 15 + 4, none⟩ = some (.int .u64 (nn T2)) ∧ W.cell? ⟨xg, j * 15 + 5, none⟩ = some (.int .i64 (ss T2)) ∧ W.cell? ⟨xg, j * 15 + 6, none⟩ = some (.pointer none) ∧ W.cell? ⟨xg, j * 15 + 7, none⟩ = some (.int .i64 (N : Int)) ∧ W.cell? ⟨xg, j * 15 + 8, none⟩ = some (.int .i64 SM) ∧ W.cell? ⟨xg, j * 15 + 9, none⟩ = some (.int .i64 R5) ∧ W.cell? ⟨xg, j * 15 + 10, none⟩ = some (.int .i64 R50) ∧ W.cell? ⟨xg, j * 15 + 11, none⟩ = some (.int .i64 R95) ∧ W.cell? ⟨xg, j * 15 + 12, none⟩ = some (.int .i64 OV) ∧ W.cell? ⟨xg, j * 15 + 13, none⟩ = some (.slice la ln lc) ∧ W.cell? ⟨xg, j * 15 + 14, none⟩ = some (.slice ga gn gc)) ∧ Below w4.heap.size w4 W) (exact keepS _ (by assumption)) (first | (go_at_call 8; refine (k8 _ (by assumption)).mono ?_; rintro e w6 ⟨rfl, hB6⟩))
          go_wp2_with fail
          exact ⟨⟨k + 1, j + 1, by omega, by go_num, by go_num, HJN.out, by omega, hB6⟩, by simp [intOf]; omega⟩
        · have hk1' : decide ((k : Int) + 1 < (L : Int)) = false := decide_eq_false (by omega)
          obtain rfl := HLAST.out hk1
          go_wp2_with fail
          go_region_held3 (fun W => (W.cell? ⟨xg, j * 15, none⟩ = some (.int .i64 ((k : Int) + 1)) ∧ W.cell? ⟨xg, j * 15 + 1, none⟩ = some (.int .u64 (nn T1)) ∧ W.cell? ⟨xg, j * 15 + 2, none⟩ = some (.int .i64 (ss T1)) ∧ W.cell? ⟨xg, j * 15 + 3, none⟩ = some (.pointer none) ∧ W.cell? ⟨xg, j * 15 + 4, none⟩ = some (.int .u64 (nn T2)) ∧ W.cell? ⟨xg, j * 15 + 5, none⟩ = some (.int .i64 (ss T2)) ∧ W.cell? ⟨xg, j * 15 + 6, none⟩ = some (.pointer none) ∧ W.cell? ⟨xg, j * 15 + 7, none⟩ = some (.int .i64 (N : Int)) ∧ W.cell? ⟨xg, j * 15 + 8, none⟩ = some (.int .i64 SM) ∧ W.cell? ⟨xg, j * 15 + 9, none⟩ = some (.int .i64 R5) ∧ W.cell? ⟨xg, j * 15 + 10, none⟩ = some (.int .i64 R50) ∧ W.cell? ⟨xg, j * 15 + 11, none⟩ = some (.int .i64 R95) ∧ W.cell? ⟨xg, j * 15 + 12, none⟩ = some (.int .i64 OV) ∧ W.cell? ⟨xg, j * 15 + 13, none⟩ = some (.slice la ln lc) ∧ W.cell? ⟨xg, j * 15 + 14, none⟩ = some (.slice ga gn gc)) ∧ Below w4.heap.size w4 W) (exact keepS _ (by assumption)) (first | (go_at_call 8; refine (k8 _ (by assumption)).mono ?_; rintro e w6 ⟨rfl, hB6⟩))
          go_wp2_with fail
          exact ⟨⟨k + 1, j + 1, by omega, by go_num, by go_num, HJN.out, by omega, hB6⟩, by simp [intOf]; omega⟩
      · have HJN : Hid (j = (keptFrom M 1 (all.take (k + 1))).length) := by rw [Hid, hjn, if_neg hM, HJ.out]; rfl
        clear HKW HX HOK hpk2 hgap hne hjn hnext s2 b3 HST
        generalize all[k].length = N at *
        generalize (all.take k).flatten.length = S at *
        generalize (all.take (k + 1)).flatten.length = E at *
        have hES : (E : Int) - (S : Int) < M := by omega
        have hSE : S ≤ E := by omega
        clear b1 hM hslc
        by_cases hk1 : k + 1 < L
        · have hk1' : (k : Int) + 1 < (L : Int) := by omega
          obtain ⟨q1, q2⟩ := HNX.out hk1
          go_wp2_with fail
          exact ⟨⟨k + 1, j, by omega, by go_num, by go_num, HJN.out, by omega, hBW⟩, by simp [intOf]; omega⟩
        · have hk1' : decide ((k : Int) + 1 < (L : Int)) = false := decide_eq_false (by omega)
          obtain rfl := HLAST.out hk1
          go_wp2_with fail
          exact ⟨⟨k + 1, j, by omega, by go_num, by go_num, HJN.out, by omega, hBW⟩, by simp [intOf]; omega⟩
    · have hkl' : decide ((k : Int) < (L : Int)) = false := decide_eq_false (by omega)
      obtain rfl : k = L := by omega
      have hje : j = KL := by
        rw [HJ.out, HKE.out, HLA.out, List.take_of_length_le (Nat.le_refl _)]
      have hje' : ((j : Int) == (KL : Int)) = true := by rw [hje]; simp
      clear hje
      go_wp2
      go_ret
      exact ⟨rfl, below_then hB04 hBW⟩

theorem f3_any (P M I : Int) (ao : Option Addr) (n cap : Nat) (ps : List Pkt) (w : World) (hp : Pks w ao n cap ps) (ha : PkAt w ao n cap ps) :
    Calls Try.prog 3 #[.int .i64 P, .int .i64 M, .int .i64 I, .slice ao n cap] w fun e w' => e = .returned (.bool true) ∧ Below w.heap.size w w' := by
  by_cases hn : n ≤ 4096
  · exact f3_small P M I ao n cap ps w hp ha hn
  · exact f3_big P M I ao n cap w (by omega)
end Go.Proofs.Qxb6629007a
