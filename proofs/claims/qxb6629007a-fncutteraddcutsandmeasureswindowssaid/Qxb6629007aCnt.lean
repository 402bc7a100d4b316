/-
  Seat b6629007a: zzCounts, walked.
-/
import Derived.Test.Qxb6629007aLaw0
namespace Go.Proofs.Qxb6629007a
open Go.RowKit

/-- All windows, the kept ones, the open run's first index. -/
structure Cnt where
  all : Int
  kept : Int
  seg : Int

def cstep (p M : Int) (c : Cnt) (i : Int) : Cnt :=
  { all := c.all + (i - c.seg) / p + (if 0 < (i - c.seg) % p then 1 else 0),
    kept := c.kept + (if M ≤ p then (i - c.seg) / p else 0) + (if 0 < (i - c.seg) % p ∧ M ≤ (i - c.seg) % p then 1 else 0),
    seg := i }

def cnts (p M I : Int) (ps : List Pkt) : Nat → Cnt
  | 0 => ⟨0, 0, 0⟩
  | k + 1 => if breakAt I ps (k + 1) then cstep p M (cnts p M I ps k) ((k : Int) + 1) else cnts p M I ps k

theorem div_bound {N p : Int} (hp : 1 ≤ p) (hN : 0 ≤ N) : 0 ≤ N / p ∧ 0 ≤ N % p ∧ N / p + (if 0 < N % p then 1 else 0) ≤ N := by
  have h1 := Int.mul_ediv_add_emod N p
  have h2 : 0 ≤ N % p := Int.emod_nonneg N (by omega)
  have h3 : 0 ≤ N / p := Int.ediv_nonneg hN (by omega)
  have h4 : N / p ≤ p * (N / p) := by
    have := Int.mul_le_mul_of_nonneg_right hp h3
    omega
  refine ⟨h3, h2, ?_⟩
  split <;> omega

theorem cnts_bound (p M I : Int) (ps : List Pkt) (hp : 1 ≤ p) : ∀ k, 0 ≤ (cnts p M I ps k).all ∧ (cnts p M I ps k).all ≤ (cnts p M I ps k).seg ∧ 0 ≤ (cnts p M I ps k).kept ∧ (cnts p M I ps k).kept ≤ (cnts p M I ps k).all ∧ (cnts p M I ps k).seg ≤ k := by
  intro k
  induction k with
  | zero => simp [cnts]
  | succ n ih =>
    rw [cnts]
    split
    · obtain ⟨h1, h2, h3, h4, h5⟩ := ih
      generalize cnts p M I ps n = c at *
      have hd := div_bound (N := (n : Int) + 1 - c.seg) hp (by omega)
      simp only [cstep]
      generalize ((n : Int) + 1 - c.seg) / p = D at *
      generalize ((n : Int) + 1 - c.seg) % p = R at *
      by_cases c1 : 0 < R <;> by_cases c2 : M ≤ p <;> by_cases c3 : M ≤ R <;> simp [c1, c2, c3] at hd ⊢ <;> omega
    · omega

set_option maxRecDepth 100000 in
set_option maxHeartbeats 2000000 in
theorem f10_any (P M I : Int) (ao : Option Addr) (n cap : Nat) (ps : List Pkt) (w : World) (hp : Pks w ao n cap ps) (hn : n ≤ 4096) :
    Calls Try.prog 10 #[.slice ao n cap, .int .i64 P, .int .i64 M, .int .i64 I] w fun e w' => e = .returned (.tuple #[.int .i64 (cnts (clampP P) M I ps n).all, .int .i64 (cnts (clampP P) M I ps n).kept]) ∧ Below w.heap.size w w' := by
  obtain ⟨p, hpp⟩ : ∃ p, p = clampP P := ⟨_, rfl⟩
  have k19 := f19_any P w
  rw [← hpp] at k19 ⊢
  have hp1 : 1 ≤ p ∧ p ≤ 4097 := by rw [hpp, clampP]; split <;> (try split) <;> omega
  clear hpp
  obtain ⟨hp1, hp2⟩ := hp1
  have HNN : Hid (n = ps.length) := hp.len
  go_enter Try.func10, Try.ntmps10
  go_wp2_with fail
  refine k19.mono ?_
  rintro e w1 ⟨rfl, rfl⟩
  clear k19
  go_wp2_with fail
  go_loopw [11, 12, 13, 14] (fun a b c i wr => ∃ k : Nat, k ≤ n ∧ i = .int .i64 ((k : Int) + 1) ∧ a = .int .i64 (cnts p M I ps k).all ∧ b = .int .i64 (cnts p M I ps k).kept ∧ c = .int .i64 (cnts p M I ps k).seg ∧ ∃ r, wr = w1.drewN r)
    (fun _ _ _ i _ => n + 1 - (intOf i).toNat)
  case atStart => exact ⟨0, Nat.zero_le _, rfl, rfl, rfl, rfl, 0, rfl⟩
  case round =>
    obtain ⟨k, hk, rfl, rfl, rfl, rfl, r, rfl⟩ := hrel
    have hbd := cnts_bound p M I ps hp1 k
    have hst : cnts p M I ps (k + 1) = (if breakAt I ps (k + 1) then cstep p M (cnts p M I ps k) ((k : Int) + 1) else cnts p M I ps k) := rfl
    by_cases hkl : k + 1 ≤ n
    · have k20 := f20_any I ao n cap k ps (w1.drewN r) (hp.later (below_q r)) hkl hn
      have hkl' : (k : Int) + 1 ≤ (n : Int) := by omega
      generalize cnts p M I ps k = c at *
      obtain ⟨A, B, C⟩ := c
      simp only at hbd
      obtain ⟨g1, g2, g3, g4, g5⟩ := hbd
      cases hbk : breakAt I ps (k + 1) with
      | true =>
        rw [hbk] at hst k20
        have hdv := div_bound (N := (k : Int) + 1 - C) hp1 (by omega)
        have HST : Hid (cnts p M I ps (k + 1) = cstep p M ⟨A, B, C⟩ ((k : Int) + 1)) := hst
        clear hst
        go_wp2_with fail
        refine k20.mono ?_
        rintro e w2 ⟨rfl, r2, rfl⟩
        clear k20
        go_wp2_with fail
        all_goals exact ⟨⟨k + 1, hkl, by go_num, by rw [HST.out]; simp only [cstep]; congr 1; (repeat' split) <;> omega, by rw [HST.out]; simp only [cstep]; congr 1; (repeat' split) <;> omega, by rw [HST.out]; rfl, _, rfl⟩, by simp [intOf]; omega⟩
      | false =>
        rw [hbk] at hst k20
        have HST : Hid (cnts p M I ps (k + 1) = ⟨A, B, C⟩) := hst
        clear hst
        go_wp2_with fail
        refine k20.mono ?_
        rintro e w2 ⟨rfl, r2, rfl⟩
        clear k20
        go_wp2_with fail
        exact ⟨⟨k + 1, hkl, by go_num, by rw [HST.out], by rw [HST.out], by rw [HST.out], _, rfl⟩, by simp [intOf]; omega⟩
    · have hkl' : decide ((k : Int) + 1 ≤ (n : Int)) = false := decide_eq_false (by omega)
      obtain rfl : k = n := by omega
      go_wp2
      refine bodyPost_ret (v := .tuple #[.int .i64 (cnts p M I ps k).all, .int .i64 (cnts p M I ps k).kept]) (by simp [results, Try.results10, go_sem]) rfl ⟨rfl, below_q _⟩
end Go.Proofs.Qxb6629007a
