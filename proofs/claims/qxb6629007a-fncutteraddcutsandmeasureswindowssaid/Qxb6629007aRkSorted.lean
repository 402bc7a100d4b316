/-
  Seat b6629007a: plain: the nearest-rank percentile is the sorted list's element.
-/
import Derived.Test.Qxb6629007aSorted
namespace Go.Proofs.Qxb6629007a
open Go.RowKit

theorem count_sortZ (xs : List Int) (p : Int → Bool) : (sortZ xs).countP p = xs.countP p := (sortZ_perm xs).countP_eq p

theorem split_count (xs : List Int) (q : Int → Bool) (hq : ∀ x, x ≤ 800 → q x = true) : xs.countP q = xs.countP (fun x => decide (x < 801)) + (overs xs).countP q := by
  induction xs with
  | nil => rfl
  | cons a l ih =>
    have e : overs (a :: l) = if 800 < a then a :: overs l else overs l := by
      rw [overs, List.filter_cons]
      by_cases h : 800 < a <;> simp [h, overs]
    rw [List.countP_cons, List.countP_cons, ih, e]
    by_cases ha : 800 < a
    · have h1 : ¬ a < 801 := by omega
      rw [if_pos ha, List.countP_cons]
      simp [h1]
      omega
    · have h1 : a < 801 := by omega
      rw [if_neg ha, if_pos (hq a (by omega))]
      simp [h1]
      omega

/-- The nearest-rank percentile is the sorted list's. -/
theorem rk_sorted {xs : List Int} {p : Int} (hx : ∀ x ∈ xs, 0 ≤ x) (hn : xs ≠ []) (hp : 1 ≤ p ∧ p ≤ 100) {k : Nat} (hK : (p * xs.length + 99).tdiv 100 = (k : Int) + 1) (hk : k < (sortZ xs).length) : rk xs p = (sortZ xs)[k] := by
  symm
  apply rk_of hn hp.1
  rw [hK]
  have hsc := sorted_count (sortZ_sorted xs) hk
  rw [count_sortZ, count_sortZ] at hsc
  have hvm : (sortZ xs)[k] ∈ xs := (sortZ_perm xs).mem_iff.1 (List.getElem_mem hk)
  have hv0 := hx _ hvm
  generalize (sortZ xs)[k] = v at *
  by_cases hv : v ≤ 800
  · refine .inl ⟨v.toNat, by rw [counts_length]; omega, by omega, ?_, ?_⟩
    · rw [pre_counts 801 xs hx _ (by omega), show ((v.toNat : Nat) : Int) = v from by omega]; omega
    · rw [pre_counts 801 xs hx _ (by omega)]
      have e : (fun x : Int => decide (x < ((v.toNat + 1 : Nat) : Int))) = fun x => decide (x ≤ v) := by
        funext x; exact decide_eq_decide.2 (by omega)
      rw [e]; omega
  · have hpre : pre (counts 801 xs) (counts 801 xs).length = ((xs.countP (fun x => decide (x < 801)) : Nat) : Int) := by
      rw [counts_length, pre_counts 801 xs hx 801 (Nat.le_refl _)]; rfl
    have hlow : xs.countP (fun x => decide (x < 801)) ≤ xs.countP (fun x => decide (x < v)) := List.countP_mono_left (fun x _ h => by simp at h ⊢; omega)
    have hall := all_counted xs hx
    rw [hpre] at hall
    have hkl : k < xs.length := by rw [← sortZ_length]; exact hk
    rw [Ranked, hpre]
    refine .inr ⟨by omega, ?_⟩
    have hi : ((k : Int) + 1 - (xs.countP (fun x => decide (x < 801)) : Int) - 1).toNat < (sortZ (overs xs)).length := by rw [sortZ_length]; omega
    refine ⟨hi, ?_⟩
    have hso := sorted_count (sortZ_sorted (overs xs)) hi
    rw [count_sortZ, count_sortZ] at hso
    have hum : (sortZ (overs xs))[((k : Int) + 1 - (xs.countP (fun x => decide (x < 801)) : Int) - 1).toNat] ∈ overs xs := (sortZ_perm _).mem_iff.1 (List.getElem_mem hi)
    generalize (sortZ (overs xs))[((k : Int) + 1 - (xs.countP (fun x => decide (x < 801)) : Int) - 1).toNat] = u at *
    have hu : 800 < u := by
      have := (List.mem_filter.1 hum).2
      simpa using this
    have c1 := split_count xs (fun x => decide (x < u)) (fun x h => by simp; omega)
    have c2 := split_count xs (fun x => decide (x ≤ u)) (fun x h => by simp; omega)
    exact rank_unique (xs := xs) (K := (k : Int) + 1) (by omega) (by omega) (by omega) (by omega)
end Go.Proofs.Qxb6629007a
