/-
  Seat b6629007a: zzPlen (21), the bound (5) and zzRank (24), walked.
-/
import Derived.Test.Qxb6629007aZSort
import Derived.Test.Qxb6629007aLaw0
namespace Go.Proofs.Qxb6629007a
open Go.RowKit

set_option maxRecDepth 100000 in
theorem f5_any (P M I : Int) (ao : Option Addr) (n cap : Nat) (w : World) :
    Calls Try.prog 5 #[.int .i64 P, .int .i64 M, .int .i64 I, .slice ao n cap] w fun e w' => e = .returned (.bool (decide (n ≤ 1048576))) ∧ w' = w := by
  by_cases h : (1048576 : Int) < (n : Int)
  · rw [decide_eq_false (by omega)]
    go_enter Try.func5, Try.ntmps5
    go_wp2
    go_ret
    exact ⟨rfl, rfl⟩
  · rw [decide_eq_true (by omega)]
    have h' : decide ((1048576 : Int) < (n : Int)) = false := decide_eq_false h
    go_enter Try.func5, Try.ntmps5
    go_wp2
    go_ret
    exact ⟨rfl, rfl⟩

set_option maxRecDepth 100000 in
theorem f21_any (l : Int) (w : World) : Calls Try.prog 21 #[.int .i64 l] w fun e w' => e = .returned (.int .i64 (l % 4294967296)) ∧ w' = w := by
  go_enter Try.func21, Try.ntmps21
  go_wp2
  refine bodyPost_ret (v := .int .i64 (l % 4294967296)) (by simp [results, Try.results21, go_sem]) rfl ⟨rfl, rfl⟩

/-- A row of int64s: where its numbers lie. -/
theorem ints_at {w : World} {base : Nat} {v : Value} {xs : List Int} (h : w.ownsRow base 2 1 v xs.length (xs.map (Value.int .i64))) : ∃ ao cap, v = .slice ao xs.length cap ∧ ∃ g, ∀ k, k < xs.length → (∀ W : World, (Instr.indexAt 55 (.slice ao xs.length cap) (.int .i64 (k : Int))).run Try.prog W = .ok (.pointer (some ⟨g, k, none⟩)) W) ∧ w.cell? ⟨g, k, none⟩ = some (.int .i64 (xs.getD k 0)) := by
  rcases h.2 with ⟨h1, h2⟩ | ⟨g, cap, cur, h1, h2, h3, h4, h5, h6, h7⟩
  · exact ⟨none, 0, by rw [h1, h2], 0, fun k hk => absurd hk (by omega)⟩
  · subst h1
    have hr : IRow g cap xs w := ⟨cur, h3, by omega, h4, by simpa using h7⟩
    refine ⟨_, cap, rfl, g, fun k hk => ⟨fun W => ?_, ?_⟩⟩
    · simp [Instr.indexAt, run_underlying Try.underlying55, asIntOf, hk, Addr.add]
      intro h0; omega
    · rw [(hr.cell hk).1, List.getD_eq_getElem?_getD, List.getElem?_eq_getElem hk]
      rfl

set_option maxRecDepth 100000 in
set_option maxHeartbeats 1000000 in
theorem f24_any (base : Nat) (v : Value) (ys : List Int) (p : Int) (w : World) (h : w.ownsRow base 2 1 v ys.length (ys.map (Value.int .i64))) (hne : ys ≠ []) (hl : ys.length ≤ 4096) (hp : 1 ≤ p ∧ p ≤ 100) :
    Calls Try.prog 24 #[v, .int .i64 p] w fun e w' => (∃ k, k < ys.length ∧ (p * ys.length + 99).tdiv 100 = (k : Int) + 1 ∧ e = .returned (.int .i64 (ys.getD k 0))) ∧ w' = w := by
  obtain ⟨ao, cap, rfl, g, hat⟩ := ints_at h
  clear h
  have hpos := List.length_pos_iff.2 hne
  generalize ys.length = n at *
  obtain ⟨hp1, hp2⟩ := hp
  have hb1 : p * (n : Int) ≤ 100 * n := Int.mul_le_mul_of_nonneg_right hp2 (by omega)
  have hb2 : 1 * (n : Int) ≤ p * n := Int.mul_le_mul_of_nonneg_right hp1 (by omega)
  clear hne
  obtain ⟨pn, hpn⟩ : ∃ pn, p * (n : Int) = pn := ⟨_, rfl⟩
  rw [hpn] at hb1 hb2 ⊢
  have HPN : Hid (p * (n : Int) = pn) := hpn
  go_enter Try.func24, Try.ntmps24
  go_wp2_with fail
  go_loopw [6] (fun i wr => ∃ k : Nat, k ≤ n ∧ i = .int .i64 (k : Int) ∧ 100 * (k : Int) < pn ∧ wr = w)
    (fun i _ => n - (intOf i).toNat)
  case atStart => exact ⟨0, by omega, rfl, by omega, rfl⟩
  case round =>
    obtain ⟨k, hk, rfl, hlo, rfl⟩ := hrel
    have hkl : k < n := by omega
    have hkl' : (k : Int) < (n : Int) := by omega
    obtain ⟨a1, a2⟩ := hat k hkl
    generalize ys.getD k 0 = y at *
    by_cases hc : pn ≤ 100 * ((k : Int) + 1)
    · go_wp2
      go_ret
      exact ⟨⟨k, hkl, by have := HPN.out; rw [Int.tdiv_eq_ediv_of_nonneg (by omega)]; omega, rfl⟩, rfl⟩
    · have hc' : decide (pn ≤ 100 * ((k : Int) + 1)) = false := decide_eq_false hc
      go_wp2
      exact ⟨⟨k + 1, by omega, by go_num, by omega, trivial⟩, by simp [intOf]; omega⟩
end Go.Proofs.Qxb6629007a
