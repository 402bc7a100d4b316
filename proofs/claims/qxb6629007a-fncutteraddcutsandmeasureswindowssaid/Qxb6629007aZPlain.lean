/-
  Seat b6629007a: plain: the flow's windows are the pieces of its runs between breaks; the kept ones, numbered.
-/
import Derived.Test.Qxb6629007aZStarts
import Derived.Test.Qxb6629007aClosed
namespace Go.Proofs.Qxb6629007a
open Go.RowKit

/-- No packet of the window comes before the one ahead of it. -/
def GapOk (x : List Pkt) : Prop := ∀ i, i + 1 < x.length → 0 ≤ clampI ((x.getD (i + 1) (0, 0)).1 - (x.getD i (0, 0)).1)

theorem lastT_getD {x : List Pkt} (h : x ≠ []) : lastT x = (x.getD (x.length - 1) (0, 0)).1 := by
  have hpos := List.length_pos_iff.2 h
  unfold lastT
  rw [List.getD_eq_getElem?_getD, List.getElem?_eq_getElem (by omega)]
  cases x with
  | nil => exact absurd rfl h
  | cons a l => simp [List.getLastD, List.getLast_eq_getElem]

theorem gapOk_nil : GapOk [] := fun i h => by simp at h
theorem gapOk_snoc {x : List Pkt} {q : Pkt} (h : GapOk x) (hq : x ≠ [] → 0 ≤ clampI (q.1 - lastT x)) : GapOk (x ++ [q]) := by
  intro i hi
  rw [List.length_append] at hi
  simp at hi
  by_cases hl : i + 1 < x.length
  · have := h i hl
    simp only [List.getD_eq_getElem?_getD] at this ⊢
    rw [List.getElem?_append_left hl, List.getElem?_append_left (by omega)]
    exact this
  · have hx : x ≠ [] := fun e => by rw [e] at hi; simp at hi
    have e : i = x.length - 1 := by omega
    have := hq hx
    rw [lastT_getD hx, ← e] at this
    simp only [List.getD_eq_getElem?_getD] at this ⊢
    rw [List.getElem?_append_right (by omega), List.getElem?_append_left hi, show i + 1 - x.length = 0 from by omega]
    exact this

/-- The windows of at least M packets, numbered from i on. -/
def keptFrom (M : Int) : Int → List (List Pkt) → List Kept
  | _, [] => []
  | i, p :: l => if M ≤ (p.length : Int) then (i, p) :: keptFrom M (i + 1) l else keptFrom M (i + 1) l

theorem keptFrom_snoc (M i : Int) (l : List (List Pkt)) (p : List Pkt) : keptFrom M i (l ++ [p]) = keptFrom M i l ++ (if M ≤ (p.length : Int) then [(i + l.length, p)] else []) := by
  induction l generalizing i with
  | nil => simp [keptFrom]
  | cons a l ih =>
    rw [List.cons_append, keptFrom, keptFrom, ih]
    have e : i + 1 + (l.length : Int) = i + ((a :: l).length : Int) := by simp; omega
    rw [e]
    split <;> simp

/-- The windows' first indices. -/
def offs : Nat → List (List Pkt) → List Int
  | _, [] => []
  | o, p :: l => (o : Int) :: offs (o + p.length) l

theorem offs_snoc (o : Nat) (l : List (List Pkt)) (p : List Pkt) : offs o (l ++ [p]) = offs o l ++ [((o + l.flatten.length : Nat) : Int)] := by
  induction l generalizing o with
  | nil => simp [offs]
  | cons a l ih =>
    rw [List.cons_append, offs, offs, ih, List.flatten_cons, List.length_append, Nat.add_assoc]
    rfl

theorem offs_length (o : Nat) (l : List (List Pkt)) : (offs o l).length = l.length := by
  induction l generalizing o with
  | nil => rfl
  | cons a l ih => rw [offs, List.length_cons, ih, List.length_cons]

/-- The cutter behind the packets fed: r of them in the open run, which begins at seg; all: the windows that have ended. -/
structure WI (p : Nat) (M : Int) (fed : List Pkt) (L : List Int) (seg r : Nat) (s : St) (all : List (List Pkt)) : Prop where
  number : s.number = (all.length : Int) + (if s.ps = [] then 0 else 1)
  kept : s.kept = keptFrom M 1 all
  ok : ∀ x ∈ all, x ≠ [] ∧ GapOk x
  gap : GapOk s.ps
  flat : all.flatten ++ s.ps = fed
  len : s.ps.length = r % p
  off : offs 0 all = L ++ pcs p seg (r / p)
  tot : seg + r = fed.length

theorem WI.ended {p : Nat} {M : Int} {fed : List Pkt} {L : List Int} {seg r : Nat} {s : St} {all : List (List Pkt)} (h : WI p M fed L seg r s all) : all.flatten.length = seg + r / p * p := by
  have h1 := congrArg List.length h.flat
  rw [List.length_append, h.len, ← h.tot] at h1
  have h2 := Nat.div_add_mod r p
  rw [Nat.mul_comm] at h2
  omega

/-- A window that has packets ends. -/
theorem end_facts {M : Int} {s : St} {all : List (List Pkt)} (hn : s.number = (all.length : Int) + (if s.ps = [] then 0 else 1)) (hk : s.kept = keptFrom M 1 all) (ho : ∀ x ∈ all, x ≠ [] ∧ GapOk x) (hg : GapOk s.ps) (hne : s.ps ≠ []) :
    (endSt M s).number = ((all ++ [s.ps]).length : Int) ∧ (endSt M s).kept = keptFrom M 1 (all ++ [s.ps]) ∧ (∀ x ∈ all ++ [s.ps], x ≠ [] ∧ GapOk x) ∧ (endSt M s).ps = [] := by
  rw [if_neg hne] at hn
  refine ⟨?_, ?_, fun x hx => ?_, rfl⟩
  · show s.number = _
    rw [hn, List.length_append]; simp
  · show (if M ≤ (s.ps.length : Int) then s.kept ++ [(s.number, s.ps)] else s.kept) = _
    rw [keptFrom_snoc, hk, hn, show (1 : Int) + (all.length : Int) = (all.length : Int) + 1 from by omega]
    split <;> simp
  · rcases List.mem_append.1 hx with hx | hx
    · exact ho x hx
    · obtain rfl : x = s.ps := by simpa using hx
      exact ⟨hne, hg⟩

/-- The run ends: a break. -/
theorem WI.brk {p : Nat} {M : Int} {fed : List Pkt} {L : List Int} {seg r : Nat} {s : St} {all : List (List Pkt)} (h : WI p M fed L seg r s all) :
    ∃ all', WI p M fed (L ++ pcs p seg (cdv r p)) fed.length 0 (if s.ps = [] then s else endSt M s) all' := by
  have hl := h.len
  have hE := h.ended
  by_cases e : s.ps = []
  · rw [if_pos e]
    rw [e] at hl
    simp at hl
    refine ⟨all, h.number, h.kept, h.ok, h.gap, h.flat, by rw [e]; simp, ?_, by omega⟩
    rw [h.off, cdv, ← hl]
    simp [pcs]
  · rw [if_neg e]
    obtain ⟨e1, e2, e3, e4⟩ := end_facts h.number h.kept h.ok h.gap e
    have hpos := List.length_pos_iff.2 e
    refine ⟨all ++ [s.ps], by rw [e1, e4]; simp, e2, e3, by rw [e4]; exact gapOk_nil, by rw [e4]; simpa using h.flat, by rw [e4]; simp, ?_, by omega⟩
    rw [offs_snoc, h.off, hE, cdv, if_pos (by omega), pcs_succ]
    simp [pcs]

theorem step_nat {r p : Nat} (hp : 1 ≤ p) : (r % p + 1 < p ∧ (r + 1) % p = r % p + 1 ∧ (r + 1) / p = r / p) ∨ (r % p + 1 = p ∧ (r + 1) % p = 0 ∧ (r + 1) / p = r / p + 1) := by
  have h1 := Nat.div_add_mod r p
  have h3 := Nat.mod_lt r (show p > 0 by omega)
  have h4 : r + 1 = (r % p + 1) + p * (r / p) := by omega
  by_cases h : r % p + 1 < p
  · refine .inl ⟨h, ?_, ?_⟩
    · rw [h4, Nat.add_mul_mod_self_left, Nat.mod_eq_of_lt h]
    · rw [h4, Nat.add_mul_div_left _ _ (by omega), Nat.div_eq_of_lt h]; omega
  · have h5 : r % p + 1 = p := by omega
    refine .inr ⟨h5, ?_, ?_⟩
    · rw [h4, h5, Nat.add_mul_mod_self_left, Nat.mod_self]
    · rw [h4, h5, Nat.add_mul_div_left _ _ (by omega), Nat.div_self (by omega)]; omega

/-- The run goes on by a packet. -/
theorem WI.push {P M : Int} {p : Nat} {fed : List Pkt} {L : List Int} {seg r : Nat} {s : St} {all : List (List Pkt)} (h : WI p M fed L seg r s all) (hp : clampP P = (p : Int)) (hr : r < 4096) (q : Pkt) (hq : s.ps ≠ [] → 0 ≤ clampI (q.1 - lastT s.ps)) :
    ∃ all', WI p M (fed ++ [q]) L seg (r + 1) (if P ≤ (((pushSt s q).ps.length : Nat) : Int) then endSt M (pushSt s q) else pushSt s q) all' := by
  have hp1 : 1 ≤ p := by have := clampP_pos P; omega
  obtain ⟨f1, f2, f3, f4⟩ := pushSt_facts s q
  have hl : (pushSt s q).ps.length = r % p + 1 := by rw [f1, List.length_append, h.len]; rfl
  have hmr : r % p ≤ r := Nat.mod_le r p
  have hcl := clampP_le (P := P) (L := ((r % p + 1 : Nat) : Int)) (by omega) (by omega)
  have hne : (pushSt s q).ps ≠ [] := by rw [f1]; simp
  have hnum : (pushSt s q).number = (all.length : Int) + (if (pushSt s q).ps = [] then 0 else 1) := by
    rw [if_neg hne]
    have hn := h.number
    rw [pushSt]
    by_cases e : s.ps = []
    · rw [if_pos e]
      rw [if_pos e] at hn
      show s.number + 1 = _
      omega
    · rw [if_neg e]
      rw [if_neg e] at hn
      exact hn
  have hgap : GapOk (pushSt s q).ps := by rw [f1]; exact gapOk_snoc h.gap hq
  have hflat : all.flatten ++ (pushSt s q).ps = fed ++ [q] := by rw [f1, ← List.append_assoc, h.flat]
  have hE := h.ended
  have htot : seg + (r + 1) = (fed ++ [q]).length := by rw [List.length_append, ← h.tot]; simp; omega
  rcases step_nat (r := r) hp1 with ⟨d1, d2, d3⟩ | ⟨d1, d2, d3⟩
  · rw [if_neg (by rw [hl, hcl]; omega)]
    exact ⟨all, hnum, by rw [f2]; exact h.kept, h.ok, hgap, hflat, by rw [hl, d2], by rw [d3]; exact h.off, htot⟩
  · rw [if_pos (by rw [hl, hcl]; omega)]
    obtain ⟨e1, e2, e3, e4⟩ := end_facts hnum (by rw [f2]; exact h.kept) h.ok hgap hne
    refine ⟨all ++ [(pushSt s q).ps], by rw [e1, e4]; simp, e2, e3, by rw [e4]; exact gapOk_nil, by rw [e4]; simpa using hflat, by rw [e4, d2]; rfl, ?_, htot⟩
    rw [offs_snoc, h.off, hE, d3, pcs_succ, List.append_assoc]
    simp

theorem feed_wins (P M I : Int) (p : Nat) (hp : clampP P = (p : Int)) (ps : List Pkt) (hn : ps.length ≤ 4096) : ∀ k, k + 1 ≤ ps.length →
    (∃ all, WI p M (ps.take (k + 1)) (zst p I ps k).1 (zst p I ps k).2 (k + 1 - (zst p I ps k).2) (feed P M I (ps.take (k + 1))) all) ∧
    ((feed P M I (ps.take (k + 1))).ps ≠ [] → lastT (feed P M I (ps.take (k + 1))).ps = (ps.getD k (0, 0)).1) := by
  have hp1 : 1 ≤ p := by have := clampP_pos P; omega
  intro k
  induction k with
  | zero =>
    intro h
    have e : ps.take (0 + 1) = [] ++ [ps[0]] := by rw [List.take_succ_eq_append_getElem (by omega)]; rfl
    have e2 : feed P M I (ps.take (0 + 1)) = addSt P M I ⟨0, [], []⟩ ps[0] := by rw [e, feed_snoc]; rfl
    have e3 : ps.getD 0 (0, 0) = ps[0] := by rw [List.getD_eq_getElem?_getD, List.getElem?_eq_getElem (by omega)]; rfl
    rw [e2, e3]
    refine ⟨?_, addSt_last P M I _ _⟩
    have h0 : WI p M [] [] 0 0 ⟨0, [], []⟩ [] := ⟨by simp, rfl, (fun x hx => by cases hx), gapOk_nil, rfl, by simp, by simp [offs, pcs], rfl⟩
    obtain ⟨all, ha⟩ := h0.push (P := P) hp (by omega) ps[0] (fun h => absurd rfl h)
    exact ⟨all, by rw [e]; exact ha⟩
  | succ k ih =>
    intro h
    obtain ⟨⟨all, h1⟩, h2⟩ := ih (by omega)
    have e : ps.take (k + 1 + 1) = ps.take (k + 1) ++ [ps[k + 1]] := by rw [List.take_succ_eq_append_getElem (by omega)]
    have e3 : ps.getD (k + 1) (0, 0) = ps[k + 1] := by rw [List.getD_eq_getElem?_getD, List.getElem?_eq_getElem (by omega)]; rfl
    rw [e, feed_snoc, e3]
    refine ⟨?_, addSt_last P M I _ _⟩
    have hb := zst_bound p I ps hp1 k
    have htl : (ps.take (k + 1)).length = k + 1 := by simp; omega
    rw [zst]
    generalize hs : feed P M I (ps.take (k + 1)) = s at *
    generalize hc : zst p I ps k = c at *
    have hbk : s.ps ≠ [] → brk I s.ps ps[k + 1].1 = breakAt I ps (k + 1) := fun hne => by
      rw [breakAt, if_neg (by omega), e3, Nat.add_sub_cancel, ← h2 hne, Qxb6629007a.brk]
      simp [hne]
    have hempty : s.ps = [] → brk I s.ps ps[k + 1].1 = false := fun he => by simp [Qxb6629007a.brk, he]
    have hx : addSt P M I s ps[k + 1] = (if P ≤ (((pushSt (if brk I s.ps ps[k + 1].1 then endSt M s else s) ps[k + 1]).ps.length : Nat) : Int) then endSt M (pushSt (if brk I s.ps ps[k + 1].1 then endSt M s else s) ps[k + 1]) else pushSt (if brk I s.ps ps[k + 1].1 then endSt M s else s) ps[k + 1]) := rfl
    rw [hx]
    cases hB : breakAt I ps (k + 1) with
    | true =>
      rw [if_pos rfl]
      have hI : (if brk I s.ps ps[k + 1].1 then endSt M s else s) = (if s.ps = [] then s else endSt M s) := by
        by_cases he : s.ps = []
        · rw [hempty he, if_pos he]; rfl
        · rw [hbk he, hB, if_neg he]; rfl
      rw [hI]
      obtain ⟨all', h3⟩ := h1.brk
      rw [htl] at h3
      have he : (if s.ps = [] then s else endSt M s).ps = [] := by
        by_cases e : s.ps = []
        · rw [if_pos e]; exact e
        · rw [if_neg e]; rfl
      obtain ⟨all2, h4⟩ := h3.push (P := P) hp (by omega) ps[k + 1] (fun h => absurd he h)
      refine ⟨all2, ?_⟩
      simp only
      rw [show k + 1 + 1 - (k + 1) = 0 + 1 from by omega]
      exact h4
    | false =>
      rw [if_neg (by simp)]
      have hI : (if brk I s.ps ps[k + 1].1 then endSt M s else s) = s := by
        by_cases he : s.ps = []
        · rw [hempty he]; rfl
        · rw [hbk he, hB]; rfl
      rw [hI]
      obtain ⟨all2, h4⟩ := h1.push (P := P) hp (by omega) ps[k + 1] (fun hne => by
        have := hbk hne
        rw [hB, Qxb6629007a.brk] at this
        simp [hne] at this
        omega)
      refine ⟨all2, ?_⟩
      rw [show k + 1 + 1 - c.2 = k + 1 - c.2 + 1 from by omega]
      exact h4

/-- The flow's windows. -/
theorem fin_wins (P M I : Int) (p : Nat) (hp : clampP P = (p : Int)) (ps : List Pkt) (hn : ps.length ≤ 4096) :
    ∃ all : List (List Pkt), (fin P M I ps).number = (all.length : Int) ∧ (fin P M I ps).kept = keptFrom M 1 all ∧ all.flatten = ps ∧ (zst p I ps ps.length).1 = offs 0 all ∧ ∀ x ∈ all, x ≠ [] ∧ GapOk x := by
  match hl : ps.length with
  | 0 =>
    have : ps = [] := List.length_eq_zero_iff.1 hl
    subst this
    exact ⟨[], rfl, rfl, rfl, rfl, fun x hx => by cases hx⟩
  | k + 1 =>
    obtain ⟨⟨all, h1⟩, _⟩ := feed_wins P M I p hp ps hn k (by omega)
    rw [show ps.take (k + 1) = ps from List.take_of_length_le (by omega)] at h1
    have hB : breakAt I ps (k + 1) = true := by rw [breakAt, if_pos hl.symm]
    obtain ⟨all2, h2⟩ := h1.brk
    rw [zst, hB, if_pos rfl]
    have he : (if (feed P M I ps).ps = [] then feed P M I ps else endSt M (feed P M I ps)).ps = [] := by
      by_cases e : (feed P M I ps).ps = []
      · rw [if_pos e]; exact e
      · rw [if_neg e]; rfl
    rw [fin]
    have hnum := h2.number
    have hflat := h2.flat
    have hoff := h2.off
    rw [if_pos he] at hnum
    rw [he, List.append_nil] at hflat
    refine ⟨all2, by rw [hnum]; omega, h2.kept, hflat, ?_, h2.ok⟩
    rw [hoff]
    simp [pcs]
end Go.Proofs.Qxb6629007a
