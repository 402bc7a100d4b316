/-
  Seat b6629007a: zzStarts (function 7), walked.
-/
import Derived.Test.Qxb6629007aZRank
namespace Go.Proofs.Qxb6629007a
open Go.RowKit

/-- The first m of seg, seg + p, .. -/
def pcs (p s m : Nat) : List Int := (List.range m).map fun (t : Nat) => ((s + t * p : Nat) : Int)
theorem pcs_length (p s m : Nat) : (pcs p s m).length = m := by simp [pcs]
theorem pcs_succ (p s m : Nat) : pcs p s (m + 1) = pcs p s m ++ [((s + m * p : Nat) : Int)] := by simp [pcs, List.range_succ]
/-- How many pieces of size p a run of r makes. -/
def cdv (r p : Nat) : Nat := r / p + (if 0 < r % p then 1 else 0)

theorem cdv_iff {r p t : Nat} (hp : 1 ≤ p) : t * p < r ↔ t < cdv r p := by
  have h1 := Nat.div_add_mod r p
  have h2 := Nat.mod_lt r (show p > 0 by omega)
  unfold cdv
  rcases Nat.lt_trichotomy t (r / p) with h | h | h
  · have h3 : (t + 1) * p ≤ r / p * p := Nat.mul_le_mul_right p (by omega)
    rw [Nat.mul_comm (r / p) p] at h3
    rw [Nat.add_mul, Nat.one_mul] at h3
    split <;> omega
  · subst h
    rw [Nat.mul_comm (r / p) p]
    split <;> omega
  · have h3 : (r / p + 1) * p ≤ t * p := Nat.mul_le_mul_right p (by omega)
    rw [Nat.add_mul, Nat.one_mul, Nat.mul_comm (r / p) p] at h3
    split <;> omega

theorem cdv_le {r p : Nat} (hp : 1 ≤ p) : cdv r p ≤ r := by
  by_cases h : cdv r p ≤ r
  · exact h
  · have h1 := (cdv_iff (r := r) (t := r) hp).2 (by omega)
    have h2 : r * 1 ≤ r * p := Nat.mul_le_mul_left r hp
    omega

/-- The starts found behind k packets, and the open run's first index. -/
def zst (p : Nat) (I : Int) (ps : List Pkt) : Nat → List Int × Nat
  | 0 => ([], 0)
  | k + 1 => if breakAt I ps (k + 1) then ((zst p I ps k).1 ++ pcs p (zst p I ps k).2 (cdv (k + 1 - (zst p I ps k).2) p), k + 1) else zst p I ps k

theorem zst_bound (p : Nat) (I : Int) (ps : List Pkt) (hp : 1 ≤ p) : ∀ k, (zst p I ps k).2 ≤ k ∧ (zst p I ps k).1.length ≤ (zst p I ps k).2 := by
  intro k
  induction k with
  | zero => simp [zst]
  | succ n ih =>
    rw [zst]
    split
    · simp only [List.length_append, pcs_length]
      have := cdv_le (r := n + 1 - (zst p I ps n).2) hp
      omega
    · omega

set_option maxRecDepth 100000 in
set_option maxHeartbeats 2000000 in
theorem f7_any (P I : Int) (p : Nat) (hp : clampP P = (p : Int)) (ao : Option Addr) (n cap : Nat) (ps : List Pkt) (w : World) (hpk : Pks w ao n cap ps) (hn : n ≤ 4096) :
    Calls Try.prog 7 #[.slice ao n cap, .int .i64 P, .int .i64 I] w fun e w' => ∃ v, e = .returned v ∧ w'.ownsRow w.heap.size 3 1 v (zst p I ps n).1.length ((zst p I ps n).1.map (Value.int .i64)) ∧ Below w.heap.size w w' := by
  obtain ⟨i0, hi, hz0, hz1, hz2⟩ := info_parts info3
  have k19 := f19_any P w
  have hp1 : 1 ≤ p ∧ p ≤ 4097 := by
    have : 1 ≤ clampP P ∧ clampP P ≤ 4097 := by rw [clampP]; split <;> (try split) <;> omega
    omega
  rw [hp] at k19
  clear hp
  obtain ⟨hp1, hp2⟩ := hp1
  go_enter Try.func7, Try.ntmps7
  go_wp2_with fail
  refine k19.mono ?_
  rintro e w1 ⟨rfl, rfl⟩
  clear k19
  go_wp2_with fail
  go_loopw [8, 9, 10] (fun v sg i wr => ∃ k : Nat, k ≤ n ∧ i = .int .i64 ((k : Int) + 1) ∧ sg = .int .i64 ((zst p I ps k).2 : Int) ∧ wr.ownsRow w1.heap.size 3 1 v (zst p I ps k).1.length ((zst p I ps k).1.map (Value.int .i64)) ∧ Below w1.heap.size w1 wr)
    (fun _ _ i _ => n + 1 - (intOf i).toNat)
  case atStart => exact ⟨0, Nat.zero_le _, rfl, rfl, World.ownsRow_nil _ _ _ _, Below.refl _ _⟩
  case round =>
    obtain ⟨k, hk, rfl, rfl, hown, hbel⟩ := hrel
    have hbd := zst_bound p I ps hp1 k
    have hst : zst p I ps (k + 1) = (if breakAt I ps (k + 1) then ((zst p I ps k).1 ++ pcs p (zst p I ps k).2 (cdv (k + 1 - (zst p I ps k).2) p), k + 1) else zst p I ps k) := rfl
    by_cases hkl : k + 1 ≤ n
    · have k20 := f20_any I ao n cap k ps wr (hpk.later hbel) hkl hn
      have hkl' : (k : Int) + 1 ≤ (n : Int) := by omega
      generalize zst p I ps k = c at *
      obtain ⟨L, seg⟩ := c
      simp only at hbd hown
      obtain ⟨g1, g2⟩ := hbd
      cases hbk : breakAt I ps (k + 1) with
      | true =>
        rw [hbk] at hst k20
        have HST : Hid (zst p I ps (k + 1) = (L ++ pcs p seg (cdv (k + 1 - seg) p), k + 1)) := hst
        clear hst
        have hcl := cdv_le (r := k + 1 - seg) hp1
        have hci : ∀ t, t * p < k + 1 - seg ↔ t < cdv (k + 1 - seg) p := fun t => cdv_iff hp1
        generalize cdv (k + 1 - seg) p = m at *
        go_wp2_with fail
        refine k20.mono ?_
        rintro e w2 ⟨rfl, r2, rfl⟩
        clear k20
        go_wp2_with fail
        have hbel0 : Below w1.heap.size w1 (wr.drewN r2) := hbel.trans ((below_q r2).mono hbel.size)
        have hown0 : (wr.drewN r2).ownsRow w1.heap.size 3 1 u8 L.length (L.map (Value.int .i64)) := owns_later hown (below_q r2)
        go_loopw [8, 11] (fun v s wr2 => ∃ t : Nat, t ≤ m ∧ s = .int .i64 ((seg + t * p : Nat) : Int) ∧ wr2.ownsRow w1.heap.size 3 1 v (L ++ pcs p seg t).length ((L ++ pcs p seg t).map (Value.int .i64)) ∧ Below w1.heap.size w1 wr2)
          (fun _ s _ => k + 1 - (intOf s).toNat)
        case atStart => exact ⟨0, by omega, by simp, by simpa [pcs] using hown0, hbel0⟩
        case round =>
          clear hown0 hbel0 hown hbel
          obtain ⟨t, ht, rfl, hown, hbel⟩ := hrel
          have hit := hci t
          have hlen : (L ++ pcs p seg t).length = L.length + t := by rw [List.length_append, pcs_length]
          by_cases hlt : t < m
          · have hsn : L ++ pcs p seg (t + 1) = (L ++ pcs p seg t) ++ [((seg + t * p : Nat) : Int)] := by rw [pcs_succ, List.append_assoc]
            have HSN : Hid (L ++ pcs p seg (t + 1) = (L ++ pcs p seg t) ++ [((seg + t * p : Nat) : Int)]) := hsn
            have htp := hit.2 hlt
            have hmul : (t + 1) * p = t * p + p := by rw [Nat.add_mul, Nat.one_mul]
            have HMU : Hid ((t + 1) * p = t * p + p) := hmul
            clear hsn hmul hit hci
            generalize L ++ pcs p seg t = Q at *
            have HLEN : Hid (Q.length = L.length + t) := hlen
            generalize t * p = tp at *
            obtain ⟨S, hS⟩ : ∃ S, S = seg + tp := ⟨_, rfl⟩
            have HS : Hid (S = seg + tp) := hS
            rw [← hS] at HSN ⊢
            have hSlt : (S : Int) < (k : Int) + 1 := by omega
            clear hS
            go_wp2_with (first
              | (at_builtin; refine wpList_append_own _ rfl _ _ 27 rfl w1.heap.size 3 i0 _ 1 8 Try.underlying27 hi hz0 hz1 hz2 rfl (by decide) _ _ _ rfl (hown.alloc _) ⟨wr.heap.size, 0, none⟩ 1 1 [.int .i64 (S : Int)] rfl rfl ?c1 ?c2 ?c3 ?c4 ?c5 ?_)
              | go_in)
            case c1 => exact cell_new1 (by simp)
            case c2 => intro u hu; simp at hu; subst hu; rfl
            case c3 => unfold maxLen; omega
            case c4 => omega
            case c5 => rw [World.size_alloc]; have := hbel.size; omega
            · intro v' w2 hown' hgrow _
              have hne : ∀ j, u8.ownBlock = some j → w1.heap.size ≤ j := fun j hj => (hown.lt j hj).1
              have hb1 : Below w1.heap.size w1 w2 := (hbel.alloc hbel.size _).grown hgrow (by rw [World.size_alloc]; have := hbel.size; omega) hne
              have hown2 : w2.ownsRow w1.heap.size 3 1 v' (L ++ pcs p seg (t + 1)).length ((L ++ pcs p seg (t + 1)).map (Value.int .i64)) := by
                rw [HSN.out, List.length_append, List.map_append, HLEN.out]
                exact hown'
              clear hown' hgrow hown hne
              go_wp2_with fail
              have := HS.out
              exact ⟨⟨t + 1, by omega, by rw [HMU.out]; go_num, hown2, hb1⟩, by simp [intOf]; omega⟩
          · have hge : ¬ t * p < k + 1 - seg := fun h => hlt (hit.1 h)
            obtain rfl : t = m := by omega
            generalize t * p = tp at *
            have hfl : decide (((seg + tp : Nat) : Int) < (k : Int) + 1) = false := decide_eq_false (by omega)
            clear hit hci
            go_wp2_with fail
            exact ⟨⟨k + 1, hkl, by go_num, by rw [HST.out]; go_num, by rw [HST.out]; exact hown, hbel⟩, by simp [intOf]; omega⟩
      | false =>
        rw [hbk] at hst k20
        have HST : Hid (zst p I ps (k + 1) = (L, seg)) := hst
        clear hst
        go_wp2_with fail
        refine k20.mono ?_
        rintro e w2 ⟨rfl, r2, rfl⟩
        clear k20
        go_wp2_with fail
        exact ⟨⟨k + 1, hkl, by go_num, by rw [HST.out], by rw [HST.out]; exact owns_later hown (below_q r2), hbel.trans ((below_q r2).mono hbel.size)⟩, by simp [intOf]; omega⟩
    · have hkl' : decide ((k : Int) + 1 ≤ (n : Int)) = false := decide_eq_false (by omega)
      obtain rfl : k = n := by omega
      clear hst
      go_wp2
      go_ret
      exact ⟨_, rfl, hown, hbel⟩
end Go.Proofs.Qxb6629007a
