/-
  Seat b6629007a: window.nearestRank, walked: the K-th of the numbers that are counted and listed.
-/
import Derived.Test.Qxb6629007aHist
import Derived.Deep.QuietTactic
import Derived.BigQuiet
import Derived.WalkSmall
import Derived.Deep.RegionWith
namespace Go.Proofs.Qxb6629007a
open Go.RowKit

/-- The first l numbers' sum. -/
def pre (cs : List Int) (l : Nat) : Int := (cs.take l).sum
theorem pre_zero (cs : List Int) : pre cs 0 = 0 := by simp [pre]
theorem pre_succ (cs : List Int) (l : Nat) (h : l < cs.length) : pre cs (l + 1) = pre cs l + cs[l] := by
  rw [pre, pre, List.take_succ_eq_append_getElem h, List.sum_append]
  simp

/-- r is the K-th of the numbers that cs counts and os lists. -/
def Ranked (cs os : List Int) (K r : Int) : Prop :=
  (∃ l, l < cs.length ∧ r = (l : Int) ∧ pre cs l < K ∧ K ≤ pre cs (l + 1)) ∨ (pre cs cs.length < K ∧ ∃ h : (K - pre cs cs.length - 1).toNat < os.length, r = os[(K - pre cs cs.length - 1).toNat])

theorem below_q {w : World} (q : Nat) : Below w.heap.size w (w.drewN q) := ⟨rfl, rfl, rfl, Nat.le_refl _, fun _ _ => rfl⟩

set_option maxRecDepth 100000 in
set_option maxHeartbeats 1000000 in
theorem f40_any (b base : Nat) (v : Value) (cs os : List Int) (n p K : Int) (w : World) (hc : Row w b 0 .i64 cs) (h801 : cs.length = 801) (hown : w.ownsRow base 3 1 v os.length (os.map (Value.int .i64)))
    (hn : 0 ≤ n ∧ n ≤ 4096) (hp : 0 ≤ p ∧ p ≤ 100) (hK : K = (p * n + 99).tdiv 100) (hK1 : 1 ≤ K) (hK2 : K ≤ pre cs cs.length + os.length) (hcs : ∀ c ∈ cs, 0 ≤ c ∧ c ≤ 4096) :
    Calls Try.prog 40 #[.pointer (some ⟨b, 0, none⟩), v, .int .i64 n, .int .i64 p] w fun e w' => ∃ r, e = .returned (.int .i64 r) ∧ Ranked cs os K r ∧ ∃ q, w' = w.drewN q := by
  obtain ⟨hn0, hn1⟩ := hn
  obtain ⟨hp0, hp1⟩ := hp
  obtain ⟨X, hX⟩ : ∃ X, X = p * n := ⟨_, rfl⟩
  have hX0 : 0 ≤ X := by rw [hX]; exact Int.mul_nonneg hp0 hn0
  have hX1 : X ≤ 409600 := by
    rw [hX]
    exact Int.le_trans (Int.mul_le_mul_of_nonneg_right hp1 hn0) (by omega)
  have hK3 : K ≤ 5000 := by rw [hK, ← hX, Int.tdiv_eq_ediv_of_nonneg (by omega)]; omega
  have HX : Hid (X = p * n) := hX
  rw [← hX] at hK
  have HK : Hid (K = (X + 99).tdiv 100) := hK
  clear hK hX
  have hX' := HX.out.symm
  have hK' := HK.out.symm
  go_enter Try.func40, Try.ntmps40
  go_wp2_with fail
  go_loopw [9, 18] (fun k i wr => ∃ l : Nat, l ≤ 801 ∧ i = .int .i64 l ∧ k = .int .i64 (K - pre cs l) ∧ pre cs l < K ∧ 0 ≤ pre cs l ∧ ∃ q, wr = w.drewN q)
    (fun _ i _ => 801 - (intOf i).toNat)
  case atStart => exact ⟨0, Nat.zero_le _, rfl, by rw [pre_zero, Int.sub_zero], by rw [pre_zero]; omega, by rw [pre_zero]; omega, 0, rfl⟩
  case round =>
    obtain ⟨l, hl, rfl, rfl, hlt, hp0, q, rfl⟩ := hrel
    by_cases hkl : l < 801
    · have hlc : l < cs.length := by omega
      have hcx : w.cell? ⟨b, l, none⟩ = some (.int .i64 cs[l]) := by
        have := hc l hlc
        rw [Nat.zero_add] at this
        exact this
      have hbd := hcs _ (List.getElem_mem hlc)
      have hps := pre_succ cs l hlc
      generalize cs[l] = c at *
      obtain ⟨P, hP⟩ : ∃ P, P = pre cs l := ⟨_, rfl⟩
      have HP : Hid (P = pre cs l) := hP
      rw [← hP] at hps hlt hp0 ⊢
      have HS : Hid (pre cs (l + 1) = P + c) := hps
      clear hps hP
      obtain ⟨hbd1, hbd2⟩ := hbd
      by_cases hle : K - P ≤ c
      · go_wp2_with fail
        go_quiet (fail)
        go_wp2
        go_ret
        refine ⟨_, rfl, .inl ⟨l, hlc, rfl, by rw [← HP.out]; exact hlt, by rw [HS.out]; omega⟩, _, rfl⟩
      · have hle' : decide (K - P ≤ c) = false := decide_eq_false hle
        go_wp2_with fail
        go_quiet (fail)
        go_wp2
        exact ⟨⟨l + 1, by omega, by go_num, by rw [HS.out]; go_num, by rw [HS.out]; omega, by rw [HS.out]; omega, _, rfl⟩, by simp [intOf]; omega⟩
    · have hkl' : decide ((l : Int) < 801) = false := decide_eq_false (by omega)
      have hll : l = cs.length := by omega
      have HLL : Hid (l = cs.length) := hll
      rw [← hll] at hK2
      clear hll
      rcases hown.2 with ⟨_, h0⟩ | ⟨g, cap, cur, rfl, _, hg, h1, _, h3, h4⟩
      · exact absurd h0 (by omega)
      · obtain ⟨P, hP⟩ : ∃ P, P = pre cs l := ⟨_, rfl⟩
        have HP : Hid (P = pre cs l) := hP
        rw [← hP] at hK2 hlt hp0 ⊢
        clear hP
        have hidx : (K - P - 1).toNat < os.length := by omega
        have hcx : w.cell? ⟨g, (K - P - 1).toNat, none⟩ = some (.int .i64 os[(K - P - 1).toNat]) := by
          rw [(row_cell hg).1]
          have h5 : (cur.toList.take (os.length * 1))[(K - P - 1).toNat]? = (os.map (Value.int .i64))[(K - P - 1).toNat]? := by rw [h4]
          rw [List.getElem?_take_of_lt (by omega), Array.getElem?_toList] at h5
          rw [h5, List.getElem?_map, List.getElem?_eq_getElem hidx]
          rfl
        obtain ⟨J, hJ⟩ : ∃ J : Nat, (K - P - 1).toNat = J := ⟨_, rfl⟩
        have hJK : K = P + 1 + J := by omega
        have HJK : Hid (K = P + 1 + J) := hJK
        have hJL : J < os.length := by omega
        obtain ⟨o, ho⟩ : ∃ o, o = os[(K - P - 1).toNat] := ⟨_, rfl⟩
        have HO : Hid (o = os[(K - P - 1).toNat]) := ho
        rw [← ho, hJ] at hcx
        have hJ2 : K - P - 1 = (J : Int) := by omega
        obtain ⟨OL, hOL⟩ : ∃ OL, OL = os.length := ⟨_, rfl⟩
        have HOL : Hid (OL = os.length) := hOL
        rw [← hOL] at hJL h1 ⊢
        clear hOL ho hJ hJK
        go_wp2
        go_ret
        refine ⟨_, rfl, .inr ?_, _, rfl⟩
        rw [← HLL.out, ← HP.out]
        exact ⟨hlt, hidx, HO.out⟩
end Go.Proofs.Qxb6629007a
