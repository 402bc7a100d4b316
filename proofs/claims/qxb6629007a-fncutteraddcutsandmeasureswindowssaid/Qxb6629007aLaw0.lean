/-
  Seat b6629007a: zzGap, zzBreakBefore, zzClampPackets and the bound, walked.
-/
import Derived.Test.Qxb6629007aRun
namespace Go.Proofs.Qxb6629007a
open Go.RowKit

set_option maxRecDepth 100000 in
theorem f9_any (P M I d : Int) (ao : Option Addr) (n cap : Nat) (w : World) :
    Calls Try.prog 9 #[.int .i64 P, .int .i64 M, .int .i64 I, .slice ao n cap, .int .i64 d] w fun e w' => e = .returned (.bool (decide (n ≤ 1048576))) ∧ w' = w := by
  by_cases h : (1048576 : Int) < (n : Int)
  · rw [decide_eq_false (by omega)]
    go_enter Try.func9, Try.ntmps9
    go_wp2
    go_ret
    exact ⟨rfl, rfl⟩
  · rw [decide_eq_true (by omega)]
    have h' : decide ((1048576 : Int) < (n : Int)) = false := decide_eq_false h
    go_enter Try.func9, Try.ntmps9
    go_wp2
    go_ret
    exact ⟨rfl, rfl⟩

/-- The size of a full window. -/
def clampP (P : Int) : Int := if P < 1 then 1 else if 4097 < P then 4097 else P

set_option maxRecDepth 100000 in
theorem f19_any (P : Int) (w : World) : Calls Try.prog 19 #[.int .i64 P] w fun e w' => e = .returned (.int .i64 (clampP P)) ∧ w' = w := by
  by_cases h : P < 1
  · rw [clampP, if_pos h]
    go_enter Try.func19, Try.ntmps19
    go_wp2
    go_ret
    exact ⟨rfl, rfl⟩
  · have h' : decide (P < 1) = false := decide_eq_false h
    by_cases h2 : 4097 < P
    · rw [clampP, if_neg h, if_pos h2]
      go_enter Try.func19, Try.ntmps19
      go_wp2
      go_ret
      exact ⟨rfl, rfl⟩
    · have h2' : decide (4097 < P) = false := decide_eq_false h2
      rw [clampP, if_neg h, if_neg h2]
      go_enter Try.func19, Try.ntmps19
      go_wp2
      go_ret
      exact ⟨rfl, rfl⟩

set_option maxRecDepth 100000 in
set_option maxHeartbeats 1000000 in
theorem f23_any (a b : Int) (w : World) (ha : -9223372036854775808 ≤ a ∧ a < 9223372036854775808) (hb : -9223372036854775808 ≤ b ∧ b < 9223372036854775808) :
    Calls Try.prog 23 #[.int .i64 a, .int .i64 b] w fun e w' => e = .returned (.int .i64 (clampI (a - b))) ∧ w' = w := by
  obtain ⟨D, hD⟩ : ∃ D, wrap64 (a - b) = D := ⟨_, rfl⟩
  have HD : Hid (wrap64 (a - b) = D) := hD
  by_cases ha0 : 0 ≤ a
  · by_cases hb0 : 0 ≤ b
    · skip
      have e : clampI (a - b) = a - b := by
        have := HD.out
        unfold wrap64 at this
        unfold clampI
        (repeat' split) <;> omega
      rw [e]
      clear HD e
      go_enter Try.func23, Try.ntmps23
      go_wp2
      go_ret
      exact ⟨rfl, rfl⟩
    · have hb1 : decide (0 ≤ b) = false := decide_eq_false hb0
      by_cases hD0 : 0 ≤ D
      · skip
        have e : clampI (a - b) = D := by
          have := HD.out
          unfold wrap64 at this
          unfold clampI
          (repeat' split) <;> omega
        rw [e]
        clear HD e
        go_enter Try.func23, Try.ntmps23
        go_wp2
        go_ret
        exact ⟨rfl, rfl⟩
      · have hD1 : decide (0 ≤ D) = false := decide_eq_false hD0
        have h3 : decide (a < b) = false := decide_eq_false (by omega)
        have e : clampI (a - b) = 9223372036854775807 := by
          have := HD.out
          unfold wrap64 at this
          unfold clampI
          (repeat' split) <;> omega
        rw [e]
        clear HD e
        go_enter Try.func23, Try.ntmps23
        go_wp2
        go_ret
        exact ⟨rfl, rfl⟩
  · have ha1 : decide (0 ≤ a) = false := decide_eq_false ha0
    by_cases hb0 : 0 ≤ b
    · by_cases hD0 : 0 ≤ D
      · have h3 : a < b := by omega
        have e : clampI (a - b) = -9223372036854775808 := by
          have := HD.out
          unfold wrap64 at this
          unfold clampI
          (repeat' split) <;> omega
        rw [e]
        clear HD e
        go_enter Try.func23, Try.ntmps23
        go_wp2
        go_ret
        exact ⟨rfl, rfl⟩
      · have hD1 : decide (0 ≤ D) = false := decide_eq_false hD0
        have e : clampI (a - b) = D := by
          have := HD.out
          unfold wrap64 at this
          unfold clampI
          (repeat' split) <;> omega
        rw [e]
        clear HD e
        go_enter Try.func23, Try.ntmps23
        go_wp2
        go_ret
        exact ⟨rfl, rfl⟩
    · have hb1 : decide (0 ≤ b) = false := decide_eq_false hb0
      have e : clampI (a - b) = a - b := by
        have := HD.out
        unfold wrap64 at this
        unfold clampI
        (repeat' split) <;> omega
      rw [e]
      clear HD e
      go_enter Try.func23, Try.ntmps23
      go_wp2
      go_ret
      exact ⟨rfl, rfl⟩

/-- Packet i comes behind a break, or i is the flow's end. -/
def breakAt (I : Int) (ps : List Pkt) (i : Nat) : Bool :=
  if i = ps.length then true else decide (I < clampI ((ps.getD i (0, 0)).1 - (ps.getD (i - 1) (0, 0)).1)) || decide (clampI ((ps.getD i (0, 0)).1 - (ps.getD (i - 1) (0, 0)).1) < 0)

set_option maxRecDepth 100000 in
set_option maxHeartbeats 1000000 in
theorem f20_any (I : Int) (ao : Option Addr) (n cap j : Nat) (ps : List Pkt) (w : World) (hp : Pks w ao n cap ps) (hi : j + 1 ≤ n) (hn : n ≤ 4096) :
    Calls Try.prog 20 #[.slice ao n cap, .int .i64 ((j : Int) + 1), .int .i64 I] w fun e w' => e = .returned (.bool (breakAt I ps (j + 1))) ∧ ∃ r, w' = w.drewN r := by
  have HN : Hid (n = ps.length) := hp.len
  by_cases hE : j + 1 = n
  · have h0 : ((j : Int) + 1 == (n : Int)) = true := by rw [← hE]; simp
    rw [breakAt, if_pos (by rw [hE]; exact HN.out)]
    go_enter Try.func20, Try.ntmps20
    go_wp2
    go_ret
    exact ⟨rfl, 0, rfl⟩
  · have h0 : ((j : Int) + 1 == (n : Int)) = false := beq_eq_false_iff_ne.2 (by omega)
    have hl := HN.out
    rw [breakAt, if_neg (by omega)]
    obtain ⟨b, off, _, hrd⟩ := hp.rd
    obtain ⟨a1, a2, a3, a4⟩ := hrd (j + 1) (by omega)
    obtain ⟨b1, b2, b3, b4⟩ := hrd j (by omega)
    have w1 := hp.wf _ (List.getElem_mem (show j + 1 < ps.length by omega))
    have w2 := hp.wf _ (List.getElem_mem (show j < ps.length by omega))
    have e1 : ps.getD (j + 1) (0, 0) = ps[j + 1]'(by omega) := by rw [List.getD_eq_getElem?_getD, List.getElem?_eq_getElem]; rfl
    have e2 : ps.getD (j + 1 - 1) (0, 0) = ps[j]'(by omega) := by rw [List.getD_eq_getElem?_getD, Nat.add_sub_cancel, List.getElem?_eq_getElem]; rfl
    rw [e1, e2]
    rw [show (((j + 1 : Nat) : Nat) : Int) = (j : Int) + 1 from by omega] at a1
    generalize ps[j + 1]'(by omega) = x at *
    generalize ps[j]'(by omega) = y at *
    obtain ⟨T, N⟩ := x
    obtain ⟨U, V⟩ := y
    have HC : Hid (∀ W, Calls Try.prog 23 #[.int .i64 T, .int .i64 U] W fun e w' => e = .returned (.int .i64 (clampI (T - U))) ∧ w' = W) := fun W => f23_any T U W w1.1 w2.1
    clear hrd e1 e2 w1 w2 hl a3 b3
    obtain ⟨G, hG⟩ : ∃ G, G = clampI (T - U) := ⟨_, rfl⟩
    simp only [← hG] at HC ⊢
    clear hG
    have hw1 : IntKind.i64.wrap (j : Int) = (j : Int) := by rw [IntKind.wrap_i64]; omega
    by_cases hl : I < G
    · rw [decide_eq_true hl]
      go_enter Try.func20, Try.ntmps20
      go_wp2_with fail
      go_quiet ((go_at_call 23; exact Calls.quiet_of_same (HC.out _)))
      go_wp2
      go_ret
      exact ⟨rfl, _, rfl⟩
    · have hl' : decide (I < G) = false := decide_eq_false hl
      rw [hl', Bool.false_or]
      go_enter Try.func20, Try.ntmps20
      go_wp2_with fail
      go_quiet ((go_at_call 23; exact Calls.quiet_of_same (HC.out _)))
      go_wp2
      go_ret
      exact ⟨rfl, _, rfl⟩
end Go.Proofs.Qxb6629007a
