/-
  Seat b6629007a: plain: how often each number stands in a list; the K-th of them.
-/
import Derived.Test.Qxb6629007aRank
import Derived.Test.Qxb6629007aSort
namespace Go.Proofs.Qxb6629007a
open Go.RowKit

/-- How often each of 0 .. N-1 stands in xs. -/
def counts (N : Nat) (xs : List Int) : List Int := (List.range N).map fun (v : Nat) => ((xs.count (v : Int) : Nat) : Int)
/-- The lengths over the range. -/
def overs (xs : List Int) : List Int := xs.filter fun x => decide (800 < x)

theorem counts_length (N : Nat) (xs : List Int) : (counts N xs).length = N := by simp [counts]
theorem counts_get (N : Nat) (xs : List Int) (j : Nat) (h : j < (counts N xs).length) : (counts N xs)[j] = ((xs.count (j : Int) : Nat) : Int) := by simp [counts]

theorem counts_bound {N : Nat} {xs : List Int} {c : Int} (h : c ∈ counts N xs) : 0 ≤ c ∧ c ≤ xs.length := by
  obtain ⟨v, _, rfl⟩ := List.mem_map.1 h
  have := List.count_le_length (a := (v : Int)) (l := xs)
  omega

theorem counts_zero (xs : List Int) : pre (counts 0 xs) 0 = 0 := by simp [pre]

theorem take_counts (N : Nat) (xs : List Int) (l : Nat) (h : l ≤ N) : (counts N xs).take l = counts l xs := by
  rw [counts, counts, ← List.map_take, List.take_range, Nat.min_eq_left h]

theorem sum_counts_nil (N : Nat) : (counts N []).sum = 0 := by
  induction N with
  | zero => rfl
  | succ n ih =>
    rw [counts, List.range_succ, List.map_append, List.sum_append]
    rw [counts] at ih
    rw [ih]
    simp

theorem sum_counts_cons (N : Nat) (x : Int) (xs : List Int) (hx : 0 ≤ x) : (counts N (x :: xs)).sum = (counts N xs).sum + (if x < (N : Int) then 1 else 0) := by
  induction N with
  | zero => simp [counts]; omega
  | succ n ih =>
    have e1 : ∀ ys, (counts (n + 1) ys).sum = (counts n ys).sum + ((ys.count (n : Int) : Nat) : Int) := fun ys => by
      rw [counts, List.range_succ, List.map_append, List.sum_append]
      simp [counts]
    rw [e1, e1, ih, List.count_cons]
    by_cases h : x = n
    · subst h
      simp
      omega
    · have h2 : (x == (n : Int)) = false := by simpa using h
      rw [h2]
      by_cases h3 : x < n
      · have h4 : x < ((n + 1 : Nat) : Int) := by omega
        rw [if_pos h3, if_pos h4]
        simp
        omega
      · have h4 : ¬ x < ((n + 1 : Nat) : Int) := by omega
        rw [if_neg h3, if_neg h4]
        simp

/-- What is counted up to N are the numbers under N. -/
theorem sum_counts (N : Nat) (xs : List Int) (h : ∀ x ∈ xs, 0 ≤ x) : (counts N xs).sum = ((xs.countP (fun (x : Int) => decide (x < (N : Int))) : Nat) : Int) := by
  induction xs with
  | nil => rw [sum_counts_nil]; rfl
  | cons x xs ih =>
    rw [sum_counts_cons N x xs (h x (by simp)), ih (fun y hy => h y (by simp [hy])), List.countP_cons]
    split <;> split <;> simp_all <;> omega

theorem pre_counts (N : Nat) (xs : List Int) (h : ∀ x ∈ xs, 0 ≤ x) (l : Nat) (hl : l ≤ N) : pre (counts N xs) l = ((xs.countP (fun (x : Int) => decide (x < (l : Int))) : Nat) : Int) := by
  rw [pre, take_counts N xs l hl, sum_counts l xs h]

theorem overs_length (xs : List Int) : (overs xs).length = xs.countP (fun x => decide (800 < x)) := by
  rw [overs, List.countP_eq_length_filter]

theorem all_counted (xs : List Int) (h : ∀ x ∈ xs, 0 ≤ x) : pre (counts 801 xs) (counts 801 xs).length + (overs xs).length = xs.length := by
  rw [counts_length, pre_counts 801 xs h 801 (Nat.le_refl _), overs_length]
  induction xs with
  | nil => rfl
  | cons x xs ih =>
    have := ih (fun y hy => h y (by simp [hy]))
    rw [List.countP_cons, List.countP_cons, List.length_cons]
    by_cases hx : x < 801
    · have h2 : ¬ 800 < x := by omega
      simp [hx, h2]
      simp at this
      omega
    · have h2 : 800 < x := by omega
      simp [hx, h2]
      simp at this
      omega

/-- The K-th of the numbers that cs counts from l on and os lists. -/
def rankFrom (l : Int) (cs os : List Int) (K : Int) : Int :=
  match cs with
  | [] => os.getD (K - 1).toNat 0
  | c :: cs => if K ≤ c then l else rankFrom (l + 1) cs os (K - c)

theorem pre_cons (c : Int) (cs : List Int) (l : Nat) : pre (c :: cs) (l + 1) = c + pre cs l := by simp [pre]

theorem ranked_eq (cs os : List Int) (K r l : Int) (hc : ∀ c ∈ cs, 0 ≤ c) (hK : 1 ≤ K)
    (h : (∃ j, j < cs.length ∧ r = l + (j : Int) ∧ pre cs j < K ∧ K ≤ pre cs (j + 1)) ∨ (pre cs cs.length < K ∧ ∃ h : (K - pre cs cs.length - 1).toNat < os.length, r = os[(K - pre cs cs.length - 1).toNat])) :
    r = rankFrom l cs os K := by
  induction cs generalizing K l with
  | nil =>
    rcases h with ⟨j, hj, _⟩ | ⟨_, h2, rfl⟩
    · simp at hj
    · rw [rankFrom]
      have e : (K - pre [] ([] : List Int).length - 1).toNat = (K - 1).toNat := by simp [pre]
      rw [List.getD_eq_getElem?_getD, ← e, List.getElem?_eq_getElem h2]
      rfl
  | cons c cs ih =>
    rw [rankFrom]
    have hmono : ∀ j, 0 ≤ pre cs j := fun j => by
      rw [pre]
      have : ∀ l : List Int, (∀ c ∈ l, 0 ≤ c) → 0 ≤ l.sum := fun l => by
        induction l with
        | nil => intro _; simp
        | cons a t ih2 =>
          intro h
          rw [List.sum_cons]
          have := h a (by simp)
          have := ih2 (fun y hy => h y (by simp [hy]))
          omega
      exact this _ (fun y hy => hc y (by simp [List.mem_of_mem_take hy]))
    by_cases hK2 : K ≤ c
    · rw [if_pos hK2]
      rcases h with ⟨j, hj, rfl, h1, h2⟩ | ⟨h1, _⟩
      · match j with
        | 0 => simp
        | j + 1 =>
          rw [pre_cons] at h1
          have := hmono j
          omega
      · rw [List.length_cons, pre_cons] at h1
        have := hmono cs.length
        omega
    · rw [if_neg hK2]
      apply ih (K - c) (l + 1) (fun y hy => hc y (by simp [hy])) (by omega)
      rcases h with ⟨j, hj, rfl, h1, h2⟩ | ⟨h1, h2, rfl⟩
      · match j, hj with
        | 0, _ =>
          have e1 : pre (c :: cs) (0 + 1) = c := by simp [pre]
          rw [e1] at h2
          omega
        | j + 1, hj =>
          rw [pre_cons] at h1 h2
          exact .inl ⟨j, by simpa using hj, by simp; omega, by omega, by omega⟩
      · rw [List.length_cons, pre_cons] at h1
        have e : (K - pre (c :: cs) (c :: cs).length - 1).toNat = (K - c - pre cs cs.length - 1).toNat := by
          rw [List.length_cons, pre_cons]; omega
        refine .inr ⟨by omega, by rw [← e]; exact h2, ?_⟩
        congr 1

/-- The nearest-rank p-th percentile. -/
def rk (xs : List Int) (p : Int) : Int := rankFrom 0 (counts 801 xs) (sortZ (overs xs)) ((p * xs.length + 99).tdiv 100)

theorem rk_of {xs : List Int} {p r : Int} (hn : xs ≠ []) (hp : 1 ≤ p) (h : Ranked (counts 801 xs) (sortZ (overs xs)) ((p * xs.length + 99).tdiv 100) r) : r = rk xs p := by
  refine ranked_eq _ _ _ _ 0 (fun c hc => (counts_bound hc).1) ?_ ?_
  · have hl : 1 ≤ (xs.length : Int) := by have := List.length_pos_iff.2 hn; omega
    have : 1 ≤ p * xs.length := by
      calc (1 : Int) = 1 * 1 := by decide
        _ ≤ p * xs.length := Int.mul_le_mul hp hl (by decide) (by omega)
    rw [Int.tdiv_eq_ediv_of_nonneg (by omega)]
    omega
  · rcases h with ⟨j, hj, rfl, h1, h2⟩ | h
    · exact .inl ⟨j, hj, by omega, h1, h2⟩
    · exact .inr h
end Go.Proofs.Qxb6629007a
