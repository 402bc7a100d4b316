/-
  Seat b6629007a: zzRun, walked: the kept windows and the number, as the plain cutter says.
-/
import Derived.Test.Qxb6629007aRun0
namespace Go.Proofs.Qxb6629007a
open Go.RowKit

set_option maxRecDepth 100000 in
set_option maxHeartbeats 2000000 in
theorem f6_any (P M I d : Int) (ao : Option Addr) (n cap : Nat) (ps : List Pkt) (w : World) (hp : Pks w ao n cap ps) (hn : n ≤ 4096) (hd : ∀ q ∈ ps, -9223372036854775808 ≤ q.1 + d ∧ q.1 + d < 9223372036854775808) :
    Calls Try.prog 6 #[.int .i64 P, .int .i64 M, .int .i64 I, .slice ao n cap, .int .i64 d] w fun e w' => ∃ kv KH, e = .returned (.tuple #[kv, .int .i64 (fin P M I ps).number]) ∧ KeptAt w.heap.size d (fin P M I ps).kept KH kv w' ∧ Below w.heap.size w w' := by
  have k12 := f12_any P M I d w
  go_enter Try.func6, Try.ntmps6
  go_wp2_with fail
  refine k12.mono ?_
  rintro e w1 ⟨rfl, hS, hB⟩
  clear k12
  go_wp2_with fail
  go_loopw [13] (fun i wr => ∃ k : Nat, k ≤ n ∧ i = .int .i64 k ∧ CutterAt w.heap.size (w.heap.size + 1) P M I d (feed P M I (ps.take k)) wr ∧ Below w.heap.size w wr)
    (fun i _ => n - (intOf i).toNat)
  case atStart => exact ⟨0, Nat.zero_le _, rfl, hS, hB⟩
  case round =>
    obtain ⟨k, hk, rfl, hS, hB⟩ := hrel
    by_cases hkl : k < n
    · have hkp : k < ps.length := by rw [← hp.len]; exact hkl
      obtain ⟨b, off, _, hrd⟩ := hp.rd
      obtain ⟨a1, a2, a3, a4⟩ := hrd k hkp
      have hwf := hp.wf _ (List.getElem_mem hkp)
      have hdd := hd _ (List.getElem_mem hkp)
      have hft := feed_facts P M I ps k (by omega)
      obtain ⟨q, hq⟩ : ∃ q, q = ps[k] := ⟨_, rfl⟩
      have HQ : Hid (ps.take (k + 1) = ps.take k ++ [q]) := by rw [Hid, hq, List.take_succ_eq_append_getElem hkp]
      rw [← hq] at a2 a3 hwf hdd
      obtain ⟨T, N⟩ := q
      clear hrd hq
      obtain ⟨s, hs⟩ : ∃ s, s = feed P M I (ps.take k) := ⟨_, rfl⟩
      rw [← hs] at hS hft
      have HSS : Hid (s = feed P M I (ps.take k)) := hs
      clear hs
      have keepS : ∀ W, Below w.heap.size w W → (W.cell? ⟨b, off + k * 2, none⟩ = some (.int .i64 T) ∧ W.cell? ⟨b, off + k * 2 + 1, none⟩ = some (.int .i64 N)) ∧ Below w.heap.size w W := fun W hW =>
        ⟨⟨by rw [hW.cell (by exact a4)]; exact a2, by rw [hW.cell (by exact a4)]; exact a3⟩, hW⟩
      have k14 : ∀ W, CutterAt w.heap.size (w.heap.size + 1) P M I d s W → Below w.heap.size w W → Calls Try.prog 14 #[.int .i64 (T + d)] W fun e w' => e = .returned (tm (T + d)) ∧ CutterAt w.heap.size (w.heap.size + 1) P M I d s w' ∧ Below w.heap.size w w' := fun W h1 h2 =>
        (f14_any (T + d) W hdd).mono fun e w' h3 => ⟨h3.1, h1.later h3.2, h2.trans (h3.2.mono h2.size)⟩
      have k13 : ∀ W, CutterAt w.heap.size (w.heap.size + 1) P M I d s W → Below w.heap.size w W → Calls Try.prog 13 #[.pointer (some ⟨w.heap.size + 1, 0, none⟩), tm (T + d), .int .i64 N] W fun e w' => e = .returned (.tuple #[]) ∧ CutterAt w.heap.size (w.heap.size + 1) P M I d (addSt P M I s (T, N)) w' ∧ Below w.heap.size w w' := fun W h1 h2 =>
        (f13_any w.heap.size (w.heap.size + 1) P M I d s (T, N) W h1 (by omega) (by omega) ⟨by omega, by omega⟩ hdd hwf.2).mono fun e w' h3 => ⟨h3.1, h3.2.1, h2.trans h3.2.2⟩
      obtain ⟨hd1, hd2⟩ := hdd
      have hwr : IntKind.i64.wrap (T + d) = T + d := by rw [IntKind.wrap_i64]; omega
      have hSd : CutterAt w.heap.size (w.heap.size + 1) P M I d s wr.drew := hS.later (below_q 1)
      have hBd : Below w.heap.size w wr.drew := hB.drew
      have c1 := (keepS wr hB).1.1
      have c2 := (keepS wr hB).1.2
      go_wp2_with fail
      go_region_held3 (fun W => (W.cell? ⟨b, off + k * 2, none⟩ = some (.int .i64 T) ∧ W.cell? ⟨b, off + k * 2 + 1, none⟩ = some (.int .i64 N)) ∧ Below w.heap.size w W) (exact keepS _ (by assumption))
        (first
          | (go_at_call 14; refine (k14 _ (by assumption) (by assumption)).mono ?_; rintro e w2 ⟨rfl, hS2, hB2⟩)
          | (go_at_call 13; refine (k13 _ (by assumption) (by assumption)).mono ?_; rintro e w3 ⟨rfl, hS3, hB3⟩))
      go_wp2_with fail
      exact ⟨⟨k + 1, by omega, by go_num, by rw [HQ.out, feed_snoc, ← HSS.out]; exact hS3, hB3⟩, by simp [intOf]; omega⟩
    · have hkl' : decide ((k : Int) < (n : Int)) = false := decide_eq_false (by omega)
      have hkk : ps.take k = ps := List.take_of_length_le (by rw [← hp.len]; omega)
      rw [hkk] at hS
      have hft := feed_facts P M I ps ps.length (Nat.le_refl _)
      rw [List.take_length] at hft
      have HPL : Hid (n = ps.length) := hp.len
      have k15 := f15_any hS
      by_cases hE : (feed P M I ps).ps = []
      · have h0 : decide ((0 : Int) < ((feed P M I ps).ps.length : Int)) = false := by rw [hE]; rfl
        obtain ⟨f, l, KH, lv, gv, kv, hC, hfl, hl⟩ := hS
        have k17 := f17_any (hC.all.1.2.2.2.2.2.2.2.2.2.2.2.2)
        have k18 := f18_any (⟨f, l, KH, lv, gv, kv, hC, hfl, hl⟩ : CutterAt w.heap.size (w.heap.size + 1) P M I d (feed P M I ps) wr)
        go_wp2_with fail
        refine k15.mono ?_
        rintro e w2 ⟨rfl, rfl⟩
        go_wp2_with fail
        refine k17.mono ?_
        rintro e w3 ⟨rfl, rfl⟩
        go_wp2_with fail
        refine k18.mono ?_
        rintro e w4 ⟨rfl, rfl⟩
        go_wp2_with fail
        refine bodyPost_ret (v := .tuple #[kv, .int .i64 (feed P M I ps).number]) (by simp [results, Try.results6, go_sem]) rfl ⟨kv, KH, ?_, ?_, hB⟩
        · rw [fin, if_pos hE]
        · rw [fin, if_pos hE]; exact hC.kept
      · have h0 : (0 : Int) < ((feed P M I ps).ps.length : Int) := by have := List.length_pos_iff.2 hE; omega
        have k16 := f16_any w.heap.size (w.heap.size + 1) P M I d (feed P M I ps) wr hS (by omega) hE (by have := HPL.out; omega) (by have := HPL.out; omega)
        go_wp2_with fail
        refine k15.mono ?_
        rintro e w2 ⟨rfl, rfl⟩
        go_wp2_with fail
        refine k16.mono ?_
        rintro e w3 ⟨rfl, hS3, hB3⟩
        obtain ⟨f, l, KH, lv, gv, kv, hC, hfl, hl⟩ := hS3
        have k17 := f17_any (hC.all.1.2.2.2.2.2.2.2.2.2.2.2.2)
        have k18 := f18_any (⟨f, l, KH, lv, gv, kv, hC, hfl, hl⟩ : CutterAt w.heap.size (w.heap.size + 1) P M I d (endSt M (feed P M I ps)) w3)
        go_wp2_with fail
        refine k17.mono ?_
        rintro e w4 ⟨rfl, rfl⟩
        go_wp2_with fail
        refine k18.mono ?_
        rintro e w5 ⟨rfl, rfl⟩
        go_wp2_with fail
        refine bodyPost_ret (v := .tuple #[kv, .int .i64 (endSt M (feed P M I ps)).number]) (by simp [results, Try.results6, go_sem]) rfl ⟨kv, KH, ?_, ?_, hB.trans hB3⟩
        · rw [fin, if_neg hE]
        · rw [fin, if_neg hE]; exact hC.kept
end Go.Proofs.Qxb6629007a
