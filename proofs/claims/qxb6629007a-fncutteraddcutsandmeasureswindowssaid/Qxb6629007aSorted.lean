/-
  Seat b6629007a: plain: sorted lists.
-/
import Derived.Test.Qxb6629007aCounts
namespace Go.Proofs.Qxb6629007a
open Go.RowKit

theorem sortZ_sorted (xs : List Int) : (sortZ xs).Pairwise (· ≤ ·) := by
  have := List.pairwise_mergeSort (le := fun x y : Int => decide (x ≤ y)) (fun a b c h1 h2 => by simp at *; omega) (fun a b => by simp; omega) xs
  exact this.imp (fun h => by simpa using h)
theorem sortZ_perm (xs : List Int) : (sortZ xs).Perm xs := List.mergeSort_perm _ _

theorem sorted_unique {xs ys : List Int} (h1 : xs.Pairwise (· ≤ ·)) (h2 : ys.Pairwise (· ≤ ·)) (hp : xs.Perm ys) : xs = ys :=
  List.Perm.eq_of_pairwise (le := fun a b : Int => a ≤ b) (fun a b _ _ x y => by omega) h1 h2 hp

theorem sortZ_eq {xs ys : List Int} (h1 : ys.Pairwise (· ≤ ·)) (hp : ys.Perm xs) : sortZ xs = ys :=
  sorted_unique (sortZ_sorted xs) h1 ((sortZ_perm xs).trans hp.symm)

/-- v put into its place. -/
theorem insert_sorted {S : List Int} {v : Int} {j : Nat} (hS : S.Pairwise (· ≤ ·)) (hj : j ≤ S.length) (h1 : ∀ t (h : t < S.length), j ≤ t → v < S[t]) (h2 : ∀ t (h : t < S.length), t < j → S[t] ≤ v) :
    (S.take j ++ v :: S.drop j).Pairwise (· ≤ ·) := by
  rw [List.pairwise_append, List.pairwise_cons]
  refine ⟨hS.sublist (List.take_sublist _ _), ⟨fun x hx => ?_, hS.sublist (List.drop_sublist _ _)⟩, fun x hx y hy => ?_⟩
  · obtain ⟨i, hi, rfl⟩ := List.mem_iff_getElem.1 hx
    rw [List.getElem_drop]
    have := h1 (j + i) (by simp at hi; omega) (by omega)
    omega
  · obtain ⟨i, hi, rfl⟩ := List.mem_iff_getElem.1 hx
    have hi' : i < j ∧ i < S.length := by simp at hi; omega
    rw [List.getElem_take]
    have a1 := h2 i hi'.2 hi'.1
    rcases List.mem_cons.1 hy with rfl | hy
    · exact a1
    · obtain ⟨l, hl, rfl⟩ := List.mem_iff_getElem.1 hy
      rw [List.getElem_drop]
      have := h1 (j + l) (by simp at hl; omega) (by omega)
      omega

theorem insert_perm (S : List Int) (v : Int) (j : Nat) : (S.take j ++ v :: S.drop j).Perm (S ++ [v]) := by
  have h1 : (S.take j ++ v :: S.drop j).Perm (v :: (S.take j ++ S.drop j)) := List.perm_middle
  rw [List.take_append_drop] at h1
  exact h1.trans (List.perm_append_singleton v S).symm

theorem insert_eq {xs : List Int} {k : Nat} (hk : k < xs.length) {j : Nat} (hj : j ≤ k) (h1 : ∀ t (h : t < (sortZ (xs.take k)).length), j ≤ t → xs[k] < (sortZ (xs.take k))[t]) (h2 : ∀ t (h : t < (sortZ (xs.take k)).length), t < j → (sortZ (xs.take k))[t] ≤ xs[k]) :
    sortZ (xs.take (k + 1)) = (sortZ (xs.take k)).take j ++ xs[k] :: (sortZ (xs.take k)).drop j := by
  have hl : (sortZ (xs.take k)).length = k := by rw [sortZ_length, List.length_take]; omega
  refine sortZ_eq (insert_sorted (sortZ_sorted _) (by omega) h1 h2) ?_
  refine (insert_perm _ _ _).trans ?_
  rw [List.take_succ_eq_append_getElem hk]
  exact (sortZ_perm _).append (List.Perm.refl _)

theorem sorted_get {S : List Int} (hS : S.Pairwise (· ≤ ·)) {i j : Nat} (hij : i ≤ j) (hj : j < S.length) : S[i] ≤ S[j] := by
  by_cases h : i = j
  · subst h; omega
  · exact List.pairwise_iff_getElem.1 hS i j (by omega) hj (by omega)

/-- Of a sorted list: how many lie under element i, how many up to it. -/
theorem sorted_count {S : List Int} (hS : S.Pairwise (· ≤ ·)) {i : Nat} (hi : i < S.length) : S.countP (fun x => decide (x < S[i])) ≤ i ∧ i < S.countP (fun x => decide (x ≤ S[i])) := by
  have e : S = S.take i ++ S.drop i := (List.take_append_drop i S).symm
  constructor
  · have h1 : S.countP (fun x => decide (x < S[i])) = (S.take i).countP (fun x => decide (x < S[i])) + (S.drop i).countP (fun x => decide (x < S[i])) := by
      conv => lhs; arg 2; rw [e]
      rw [List.countP_append]
    have h2 : (S.drop i).countP (fun x => decide (x < S[i])) = 0 := by
      rw [List.countP_eq_zero]
      intro x hx
      obtain ⟨l, hl, rfl⟩ := List.mem_iff_getElem.1 hx
      rw [List.getElem_drop]
      have := sorted_get hS (i := i) (j := i + l) (by omega) (by simp at hl; omega)
      simp; omega
    have h3 := List.countP_le_length (p := fun x => decide (x < S[i])) (l := S.take i)
    rw [List.length_take] at h3
    omega
  · have h1 : S.countP (fun x => decide (x ≤ S[i])) = (S.take (i + 1)).countP (fun x => decide (x ≤ S[i])) + (S.drop (i + 1)).countP (fun x => decide (x ≤ S[i])) := by
      conv => lhs; arg 2; rw [← List.take_append_drop (i + 1) S]
      rw [List.countP_append]
    have h2 : (S.take (i + 1)).countP (fun x => decide (x ≤ S[i])) = (S.take (i + 1)).length := by
      rw [List.countP_eq_length]
      intro x hx
      obtain ⟨l, hl, rfl⟩ := List.mem_iff_getElem.1 hx
      rw [List.getElem_take]
      have := sorted_get hS (i := l) (j := i) (by simp at hl; omega) hi
      simpa using this
    rw [List.length_take] at h2
    omega

/-- The number at which the counts pass K is one. -/
theorem rank_unique {xs : List Int} {K a b : Int} (ha1 : (xs.countP (fun x => decide (x < a)) : Int) < K) (ha2 : K ≤ (xs.countP (fun x => decide (x ≤ a)) : Int)) (hb1 : (xs.countP (fun x => decide (x < b)) : Int) < K) (hb2 : K ≤ (xs.countP (fun x => decide (x ≤ b)) : Int)) : a = b := by
  have mono : ∀ c d : Int, c < d → xs.countP (fun x => decide (x ≤ c)) ≤ xs.countP (fun x => decide (x < d)) := fun c d h => List.countP_mono_left (fun x _ hx => by simp at hx ⊢; omega)
  by_cases h : a < b
  · have := mono a b h; omega
  · by_cases h2 : b < a
    · have := mono b a h2; omega
    · omega
end Go.Proofs.Qxb6629007a
