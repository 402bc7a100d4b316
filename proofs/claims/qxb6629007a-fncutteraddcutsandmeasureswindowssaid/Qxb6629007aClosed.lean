/-
  Seat b6629007a: plain: how many windows a flow begins and keeps: the closed form of zzCounts.
-/
import Derived.Test.Qxb6629007aCnt
namespace Go.Proofs.Qxb6629007a
open Go.RowKit

theorem div_step {r p : Int} (hp : 1 ≤ p) : (r % p + 1 < p ∧ (r + 1) % p = r % p + 1 ∧ (r + 1) / p = r / p) ∨ (r % p + 1 = p ∧ (r + 1) % p = 0 ∧ (r + 1) / p = r / p + 1) := by
  have h1 := Int.mul_ediv_add_emod r p
  have h2 : 0 ≤ r % p := Int.emod_nonneg r (by omega)
  have h3 : r % p < p := Int.emod_lt_of_pos r (by omega)
  have h4 : (r + 1) = (r % p + 1) + p * (r / p) := by omega
  by_cases h : r % p + 1 < p
  · refine .inl ⟨h, ?_, ?_⟩
    · rw [h4, Int.add_mul_emod_self_left, Int.emod_eq_of_lt (by omega) h]
    · rw [h4, Int.add_mul_ediv_left _ _ (by omega), Int.ediv_eq_zero_of_lt (by omega) h]; omega
  · have h5 : r % p + 1 = p := by omega
    refine .inr ⟨h5, ?_, ?_⟩
    · rw [h4, h5, Int.add_mul_emod_self_left, Int.emod_self]
    · rw [h4, h5, Int.add_mul_ediv_left _ _ (by omega), Int.ediv_self (by omega)]; omega

theorem clampP_le {P : Int} {L : Int} (h1 : 1 ≤ L) (h2 : L ≤ 4096) : (P ≤ L ↔ clampP P ≤ L) := by
  unfold clampP
  split
  · omega
  · split <;> omega

theorem clampP_pos (P : Int) : 1 ≤ clampP P := by unfold clampP; split <;> (try split) <;> omega

/-- How many packets are open, how many windows have begun, how many are kept, behind r packets of a run. -/
structure Inv (p M : Int) (all kept r : Int) (s : St) : Prop where
  len : (s.ps.length : Int) = r % p
  num : s.number = all + r / p + (if 0 < r % p then 1 else 0)
  kept : (s.kept.length : Int) = kept + (if M ≤ p then r / p else 0)

theorem push_inv {P M all kept r : Int} {s : St} (h : Inv (clampP P) M all kept r s) (hr : 0 ≤ r) (hr2 : r < 4096) (q : Pkt) :
    Inv (clampP P) M all kept (r + 1) (if P ≤ (((pushSt s q).ps.length : Nat) : Int) then endSt M (pushSt s q) else pushSt s q) := by
  have hp := clampP_pos P
  obtain ⟨p1, p2, p3, p4⟩ := pushSt_facts s q
  have hl : (((pushSt s q).ps.length : Nat) : Int) = r % clampP P + 1 := by rw [p1, List.length_append]; have := h.len; simp; omega
  have hm : 0 ≤ r % clampP P := Int.emod_nonneg r (by omega)
  have hm2 : r % clampP P ≤ r := by
    have h1 := Int.mul_ediv_add_emod r (clampP P)
    have h3 : 0 ≤ r / clampP P := Int.ediv_nonneg hr (by omega)
    have := Int.mul_nonneg (show 0 ≤ clampP P by omega) h3
    omega
  have hnum : (pushSt s q).number = all + r / clampP P + 1 := by
    have hn := h.num
    have hl2 := h.len
    rw [pushSt]
    by_cases e : s.ps = []
    · rw [if_pos e]
      rw [e] at hl2
      simp at hl2
      show s.number + 1 = _
      rw [hn, if_neg (by omega)]
      omega
    · rw [if_neg e]
      have := List.length_pos_iff.2 e
      show s.number = _
      rw [hn, if_pos (by omega)]
  have hcl := clampP_le (P := P) (L := r % clampP P + 1) (by omega) (by omega)
  rw [hl]
  rcases div_step (r := r) hp with ⟨d1, d2, d3⟩ | ⟨d1, d2, d3⟩
  · rw [if_neg (by rw [hcl]; omega)]
    refine ⟨by rw [hl, d2], by rw [hnum, d2, d3, if_pos (by omega)], by rw [p2, d3]; exact h.kept⟩
  · rw [if_pos (by rw [hcl]; omega)]
    refine ⟨by rw [d2]; rfl, ?_, ?_⟩
    · show (pushSt s q).number = _
      rw [hnum, d2, d3, if_neg (by omega)]; omega
    · show (((if M ≤ (((pushSt s q).ps.length : Nat) : Int) then (pushSt s q).kept ++ [((pushSt s q).number, (pushSt s q).ps)] else (pushSt s q).kept).length : Nat) : Int) = _
      have hk := h.kept
      rw [hl, d1, d3, p2]
      by_cases e : M ≤ clampP P
      · rw [if_pos e, if_pos e, List.length_append]
        rw [if_pos e] at hk
        simp; omega
      · rw [if_neg e, if_neg e]
        rw [if_neg e] at hk
        exact hk

theorem addSt_last (P M I : Int) (s : St) (q : Pkt) (h : (addSt P M I s q).ps ≠ []) : lastT (addSt P M I s q).ps = q.1 := by
  have e : addSt P M I s q = (if P ≤ (((pushSt (if brk I s.ps q.1 then endSt M s else s) q).ps.length : Nat) : Int) then endSt M (pushSt (if brk I s.ps q.1 then endSt M s else s) q) else pushSt (if brk I s.ps q.1 then endSt M s else s) q) := rfl
  rw [e] at h ⊢
  generalize (if brk I s.ps q.1 then endSt M s else s) = s1 at *
  by_cases hh : P ≤ (((pushSt s1 q).ps.length : Nat) : Int)
  · rw [if_pos hh] at h; exact absurd rfl h
  · rw [if_neg hh, (pushSt_facts s1 q).1, lastT_push]

theorem feed_inv (P M I : Int) (ps : List Pkt) (hn : ps.length ≤ 4096) : ∀ k, k + 1 ≤ ps.length →
    Inv (clampP P) M (cnts (clampP P) M I ps k).all (cnts (clampP P) M I ps k).kept ((k : Int) + 1 - (cnts (clampP P) M I ps k).seg) (feed P M I (ps.take (k + 1))) ∧
    ((feed P M I (ps.take (k + 1))).ps ≠ [] → lastT (feed P M I (ps.take (k + 1))).ps = (ps.getD k (0, 0)).1) := by
  have hp := clampP_pos P
  intro k
  induction k with
  | zero =>
    intro h
    have e : ps.take (0 + 1) = [] ++ [ps[0]] := by rw [List.take_succ_eq_append_getElem (by omega)]; rfl
    have e2 : feed P M I (ps.take (0 + 1)) = addSt P M I ⟨0, [], []⟩ ps[0] := by rw [e, feed_snoc]; rfl
    have e3 : ps.getD 0 (0, 0) = ps[0] := by rw [List.getD_eq_getElem?_getD, List.getElem?_eq_getElem (by omega)]; rfl
    rw [e2, e3]
    refine ⟨?_, addSt_last P M I _ _⟩
    have h0 : Inv (clampP P) M 0 0 0 ⟨0, [], []⟩ := ⟨by simp, by simp, by simp⟩
    have := push_inv h0 (by omega) (by omega) ps[0]
    exact this
  | succ k ih =>
    intro h
    obtain ⟨h1, h2⟩ := ih (by omega)
    have e : ps.take (k + 1 + 1) = ps.take (k + 1) ++ [ps[k + 1]] := by rw [List.take_succ_eq_append_getElem (by omega)]
    have e3 : ps.getD (k + 1) (0, 0) = ps[k + 1] := by rw [List.getD_eq_getElem?_getD, List.getElem?_eq_getElem (by omega)]; rfl
    rw [e, feed_snoc, e3]
    refine ⟨?_, addSt_last P M I _ _⟩
    have hb := cnts_bound (clampP P) M I ps hp k
    rw [cnts]
    generalize hs : feed P M I (ps.take (k + 1)) = s at *
    generalize hc : cnts (clampP P) M I ps k = c at *
    have hbk : s.ps ≠ [] → brk I s.ps ps[k + 1].1 = breakAt I ps (k + 1) := fun hne => by
      rw [breakAt, if_neg (by omega), e3, Nat.add_sub_cancel, ← h2 hne, brk]
      simp [hne]
    have hx : addSt P M I s ps[k + 1] = (if P ≤ (((pushSt (if brk I s.ps ps[k + 1].1 then endSt M s else s) ps[k + 1]).ps.length : Nat) : Int) then endSt M (pushSt (if brk I s.ps ps[k + 1].1 then endSt M s else s) ps[k + 1]) else pushSt (if brk I s.ps ps[k + 1].1 then endSt M s else s) ps[k + 1]) := rfl
    rw [hx]
    have hempty : s.ps = [] → brk I s.ps ps[k + 1].1 = false := fun he => by simp [brk, he]
    have hlen := h1.len
    have hnum := h1.num
    have hkept := h1.kept
    have hmn : 0 ≤ ((k : Int) + 1 - c.seg) % clampP P := Int.emod_nonneg _ (by omega)
    cases hB : breakAt I ps (k + 1) with
    | true =>
      rw [if_pos rfl]
      have hI : Inv (clampP P) M (cstep (clampP P) M c ((k : Int) + 1)).all (cstep (clampP P) M c ((k : Int) + 1)).kept 0 (if brk I s.ps ps[k + 1].1 then endSt M s else s) := by
        by_cases he : s.ps = []
        · rw [hempty he]
          rw [he] at hlen
          simp at hlen
          refine ⟨by simp [he], ?_, ?_⟩
          · simp only [cstep]; rw [← hlen] at hnum ⊢; simp at hnum ⊢; omega
          · simp only [cstep]; rw [← hlen]; simp; omega
        · rw [hbk he, hB, if_pos rfl]
          have hpos := List.length_pos_iff.2 he
          refine ⟨by simp [endSt], ?_, ?_⟩
          · show s.number = _
            simp only [cstep]
            simp
            omega
          · show (((if M ≤ (s.ps.length : Int) then s.kept ++ [(s.number, s.ps)] else s.kept).length : Nat) : Int) = _
            simp only [cstep]
            rw [hlen]
            generalize ((k : Int) + 1 - c.seg) % clampP P = R at *
            generalize ((k : Int) + 1 - c.seg) / clampP P = D at *
            have hR : 0 < R := by omega
            by_cases hm : M ≤ R <;> by_cases hmp : M ≤ clampP P <;> simp [hm, hmp, hR] at hkept ⊢ <;> omega
      have := push_inv hI (by omega) (by omega) ps[k + 1]
      have e5 : ((k + 1 : Nat) : Int) + 1 - (cstep (clampP P) M c ((k : Int) + 1)).seg = 0 + 1 := by simp only [cstep]; omega
      rw [e5]
      exact this
    | false =>
      rw [if_neg (by simp)]
      have hI : (if brk I s.ps ps[k + 1].1 then endSt M s else s) = s := by
        by_cases he : s.ps = []
        · rw [hempty he]; rfl
        · rw [hbk he, hB]; rfl
      rw [hI]
      have := push_inv h1 (by omega) (by omega) ps[k + 1]
      have e5 : ((k + 1 : Nat) : Int) + 1 - c.seg = (k : Int) + 1 - c.seg + 1 := by omega
      rw [e5]
      exact this

/-- The closed form over the runs between breaks. -/
theorem fin_counts (P M I : Int) (ps : List Pkt) (hn : ps.length ≤ 4096) : (fin P M I ps).number = (cnts (clampP P) M I ps ps.length).all ∧ ((fin P M I ps).kept.length : Int) = (cnts (clampP P) M I ps ps.length).kept := by
  have hp := clampP_pos P
  match hl : ps.length with
  | 0 =>
    have : ps = [] := List.length_eq_zero_iff.1 hl
    subst this
    exact ⟨rfl, rfl⟩
  | k + 1 =>
    obtain ⟨h1, _⟩ := feed_inv P M I ps hn k (by omega)
    rw [show ps.take (k + 1) = ps from List.take_of_length_le (by omega)] at h1
    have hB : breakAt I ps (k + 1) = true := by rw [breakAt, if_pos hl.symm]
    rw [cnts, hB, if_pos rfl, fin]
    have hlen := h1.len
    have hnum := h1.num
    have hkept := h1.kept
    generalize cnts (clampP P) M I ps k = c at *
    have hmn : 0 ≤ ((k : Int) + 1 - c.seg) % clampP P := Int.emod_nonneg _ (by omega)
    by_cases he : (feed P M I ps).ps = []
    · rw [if_pos he]
      rw [he] at hlen
      simp at hlen
      simp only [cstep]
      rw [← hlen] at hnum ⊢
      simp at hnum ⊢
      exact ⟨by omega, by omega⟩
    · rw [if_neg he]
      have hpos := List.length_pos_iff.2 he
      refine ⟨hnum, ?_⟩
      show (((if M ≤ ((feed P M I ps).ps.length : Int) then (feed P M I ps).kept ++ [((feed P M I ps).number, (feed P M I ps).ps)] else (feed P M I ps).kept).length : Nat) : Int) = _
      simp only [cstep]
      rw [hlen]
      generalize ((k : Int) + 1 - c.seg) % clampP P = R at *
      generalize ((k : Int) + 1 - c.seg) / clampP P = D at *
      have hR : 0 < R := by omega
      by_cases hm : M ≤ R <;> by_cases hmp : M ≤ clampP P <;> simp [hm, hmp, hR] at hkept ⊢ <;> omega
end Go.Proofs.Qxb6629007a
