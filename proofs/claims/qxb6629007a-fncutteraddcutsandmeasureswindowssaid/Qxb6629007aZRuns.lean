/-
  Seat b6629007a: zzRunsMatch (function 25), walked.
-/
import Derived.Test.Qxb6629007aZRuns0
namespace Go.Proofs.Qxb6629007a
open Go.RowKit

set_option maxRecDepth 100000 in
set_option maxHeartbeats 2000000 in
theorem f25_true (b1 b2 : Nat) (hv sv : Value) (H : List (Int × Int)) (ys : List Int) (lo hi : Int) (w : World) (hh : w.ownsRow b1 71 2 hv H.length (bucketCells H)) (hs : w.ownsRow b2 2 1 sv ys.length (ys.map (Value.int .i64)))
    (hHl : H.length ≤ 1000) (hyl : ys.length ≤ 4096) (hS : ys.Pairwise (· ≤ ·)) (hB : Bks H ys lo hi) :
    Calls Try.prog 25 #[hv, sv, .int .i64 lo, .int .i64 hi] w fun e w' => e = .returned (.bool true) ∧ w' = w := by
  obtain ⟨ha, hc, hg, rfl, hhr⟩ := bucket_at hh
  obtain ⟨sa, sc, rfl, sg, hsr⟩ := ints_at hs
  clear hh hs
  obtain ⟨L, hL⟩ : ∃ L, L = H.length := ⟨_, rfl⟩
  have HL : Hid (L = H.length) := hL
  have HH : Hid (∀ k (hk : k < H.length), (∀ W : World, (Instr.indexAt 34 (.slice ha L hc) (.int .i64 (k : Int))).run Try.prog W = .ok (.pointer (some ⟨hg, k * 2, none⟩)) W) ∧ w.cell? ⟨hg, k * 2, none⟩ = some (.int .i64 H[k].1) ∧ w.cell? ⟨hg, k * 2 + 1, none⟩ = some (.int .i64 H[k].2)) := by rw [Hid, hL]; exact hhr
  obtain ⟨n, hn⟩ : ∃ n, n = ys.length := ⟨_, rfl⟩
  have HN : Hid (n = ys.length) := hn
  rw [← hL] at hHl ⊢
  rw [← hn] at hyl hsr ⊢
  have HB : Hid (Bks H ys lo hi) := hB
  have HS : Hid (ys.Pairwise (· ≤ ·)) := hS
  have HSR : Hid (∀ k, k < n → (∀ W : World, (Instr.indexAt 55 (.slice sa n sc) (.int .i64 (k : Int))).run Try.prog W = .ok (.pointer (some ⟨sg, k, none⟩)) W) ∧ w.cell? ⟨sg, k, none⟩ = some (.int .i64 (ys.getD k 0))) := hsr
  clear hhr hL hn hB hS hsr
  go_enter Try.func25, Try.ntmps25
  go_wp2_with fail
  go_loopw [9, 10] (fun jv iv wr => ∃ i j : Nat, i ≤ n ∧ j ≤ L ∧ jv = .int .i64 (j : Int) ∧ iv = .int .i64 (i : Int) ∧ Cutp H ys i j ∧ wr = w)
    (fun _ iv _ => n - (intOf iv).toNat)
  case atStart => exact ⟨0, 0, Nat.zero_le _, Nat.zero_le _, rfl, rfl, cutp_start _ _, rfl⟩
  case round =>
    obtain ⟨i, j, hi1, hj1, rfl, rfl, hcut, rfl⟩ := hrel
    by_cases hin : i < n
    · have hin' : (i : Int) < (n : Int) := by omega
      obtain ⟨a1, a2⟩ := HSR.out i hin
      obtain ⟨v, hv⟩ : ∃ v, v = ys.getD i 0 := ⟨_, rfl⟩
      have HV : Hid (v = ys.getD i 0) := hv
      rw [← hv] at a2
      clear hv
      go_wp2_with fail
      go_loopw [10, 12] (fun iv mv wx => ∃ m q : Nat, Hid (q = i + m) ∧ q ≤ n ∧ iv = .int .i64 (q : Int) ∧ mv = .int .i64 (m : Int) ∧ (∀ t, i ≤ t → t < i + m → ys.getD t 0 = v) ∧ wx = wr)
        (fun iv _ _ => n - (intOf iv).toNat)
      case atStart => exact ⟨0, i, rfl, by omega, rfl, rfl, fun t h1 h2 => absurd h1 (by omega), rfl⟩
      case round =>
        obtain ⟨m, q, HQ, him, rfl, rfl, heq, rfl⟩ := hrel
        have hq := HQ.out
        have hfin : 1 ≤ m → (q = n ∨ ys.getD q 0 ≠ v) → (v < lo ∨ hi < v → Cutp H ys q j) ∧ (lo ≤ v → v ≤ hi → ∃ hj : j < H.length, H[j] = (v, (m : Int)) ∧ Cutp H ys q (j + 1)) := fun q2 q3 => by
          have e := HN.out
          have heq' : ∀ t, i ≤ t → t < i + m → ys.getD t 0 = ys.getD i 0 := fun t x y => by rw [heq t x y]; exact HV.out
          have q3' : i + m = ys.length ∨ ys.getD (i + m) 0 ≠ ys.getD i 0 := by rw [← e, ← HV.out, ← hq]; exact q3
          rw [hq, HV.out]
          exact ⟨fun q => cutp_skip HB.out HS.out hcut q2 (by omega) heq' q3' q, fun r1 r2 => cutp_meet HB.out HS.out hcut q2 (by omega) heq' q3' r1 r2⟩
        have HM1 : Hid (m = 0 → ys.getD q 0 = v) := fun e => by rw [hq, e]; exact HV.out.symm
        have HFIN : Hid (1 ≤ m → (q = n ∨ ys.getD q 0 ≠ v) → (v < lo ∨ hi < v → Cutp H ys q j) ∧ (lo ≤ v → v ≤ hi → ∃ hj : j < H.length, H[j] = (v, (m : Int)) ∧ Cutp H ys q (j + 1))) := hfin
        have HEQ : Hid (∀ t, i ≤ t → t < i + m → ys.getD t 0 = v) := heq
        have hmn : m ≤ 4096 := by omega
        have hmi : i + m ≤ q := by omega
        clear hfin heq
        have hbr : (q < n ∧ ys.getD q 0 = v) ∨ (q < n ∧ ys.getD q 0 ≠ v) ∨ q = n := by
          by_cases e : q = n
          · exact .inr (.inr e)
          · by_cases e2 : ys.getD q 0 = v
            · exact .inl ⟨by omega, e2⟩
            · exact .inr (.inl ⟨by omega, e2⟩)
        clear hq
        rcases hbr with ⟨hlt, hy⟩ | hstop
        · obtain ⟨c1, c2⟩ := HSR.out q hlt
          rw [hy] at c2
          have HY : Hid (ys.getD q 0 = v) := hy
          have hlt' : (q : Int) < (n : Int) := by omega
          clear hy
          go_wp2_with fail
          have hq := HQ.out
          exact ⟨⟨m + 1, q + 1, by rw [hq]; rfl, by omega, by go_num, by go_num, fun t q1 q2 => by
            by_cases e : t = q
            · rw [e]; exact HY.out
            · exact HEQ.out t q1 (by omega), trivial⟩, by simp [intOf]; omega⟩
        · have hm : 1 ≤ m := by
            rcases hstop with ⟨h1, h2⟩ | h1
            · by_cases e : m = 0
              · exact absurd (HM1.out e) h2
              · omega
            · have := HQ.out; omega
          obtain ⟨f1, f2⟩ := HFIN.out hm (hstop.elim (fun x => .inr x.2) .inl)
          rcases hstop with ⟨hlt, hy⟩ | hstop
          · obtain ⟨c1, c2⟩ := HSR.out q hlt
            have hlt' : (q : Int) < (n : Int) := by omega
            have hyv : (ys.getD q 0 == v) = false := beq_eq_false_iff_ne.2 hy
            clear HFIN HM1 HEQ hy
            obtain ⟨y, hyy⟩ : ∃ y, y = ys.getD q 0 := ⟨_, rfl⟩
            rw [← hyy] at c2 hyv
            clear hyy
            by_cases hv1 : v < lo
            · have hcu := f1 (.inl hv1)
              have HCU : Hid (Cutp H ys q j) := hcu
              clear f1 f2 hcu
              go_wp2_with fail
              exact ⟨⟨q, j, him, hj1, by go_num, by go_num, HCU.out, trivial⟩, by simp [intOf]; omega⟩
            · have hv1' : decide (v < lo) = false := decide_eq_false hv1
              by_cases hv2 : hi < v
              · have hcu := f1 (.inr hv2)
                have HCU : Hid (Cutp H ys q j) := hcu
                clear f1 f2 hcu
                go_wp2_with fail
                exact ⟨⟨q, j, him, hj1, by go_num, by go_num, HCU.out, trivial⟩, by simp [intOf]; omega⟩
              · have hv2' : decide (hi < v) = false := decide_eq_false hv2
                obtain ⟨hj, hje, hcu⟩ := f2 (by omega) (by omega)
                have HCU : Hid (Cutp H ys q (j + 1)) := hcu
                obtain ⟨d1, d2, d3⟩ := HH.out j hj
                rw [hje] at d2 d3
                simp only at d2 d3
                have hjl : j < L := by rw [HL.out]; exact hj
                have hjl' : decide ((L : Int) ≤ (j : Int)) = false := decide_eq_false (by omega)
                have e1 : (v != v) = false := by simp
                have e2 : ((m : Int) != (m : Int)) = false := by simp
                clear f1 f2 hcu hje
                go_wp2_with fail
                exact ⟨⟨q, j + 1, him, hjl, by go_num, by go_num, HCU.out, trivial⟩, by simp [intOf]; omega⟩
          · clear HFIN HM1 HEQ
            subst hstop
            by_cases hv1 : v < lo
            · have hcu := f1 (.inl hv1)
              have HCU : Hid (Cutp H ys q j) := hcu
              clear f1 f2 hcu
              go_wp2_with fail
              exact ⟨⟨q, j, him, hj1, by go_num, by go_num, HCU.out, trivial⟩, by simp [intOf]; omega⟩
            · have hv1' : decide (v < lo) = false := decide_eq_false hv1
              by_cases hv2 : hi < v
              · have hcu := f1 (.inr hv2)
                have HCU : Hid (Cutp H ys q j) := hcu
                clear f1 f2 hcu
                go_wp2_with fail
                exact ⟨⟨q, j, him, hj1, by go_num, by go_num, HCU.out, trivial⟩, by simp [intOf]; omega⟩
              · have hv2' : decide (hi < v) = false := decide_eq_false hv2
                obtain ⟨hj, hje, hcu⟩ := f2 (by omega) (by omega)
                have HCU : Hid (Cutp H ys q (j + 1)) := hcu
                obtain ⟨d1, d2, d3⟩ := HH.out j hj
                rw [hje] at d2 d3
                simp only at d2 d3
                have hjl : j < L := by rw [HL.out]; exact hj
                have hjl' : decide ((L : Int) ≤ (j : Int)) = false := decide_eq_false (by omega)
                have e1 : (v != v) = false := by simp
                have e2 : ((m : Int) != (m : Int)) = false := by simp
                clear f1 f2 hcu hje
                go_wp2_with fail
                exact ⟨⟨q, j + 1, him, hjl, by go_num, by go_num, HCU.out, trivial⟩, by simp [intOf]; omega⟩
    · have hin' : decide ((i : Int) < (n : Int)) = false := decide_eq_false (by omega)
      obtain rfl : i = n := by omega
      have hjL : j = L := by
        have e := HN.out
        rw [e] at hcut
        rw [HL.out]
        exact cutp_end HB.out hcut
      have hjj : ((j : Int) == (L : Int)) = true := by rw [hjL]; simp
      clear hjL
      go_wp2
      go_ret
      exact ⟨rfl, rfl⟩
end Go.Proofs.Qxb6629007a
