/-
  Seat b6628479aD: PLAIN NUMBERS: the decimal digits of a number as a list of Int's, read back, and one added. No Go in sight.
-/
import Derived.Lib.ItoaNum
import Derived.Lib.ItoaLen
namespace Go.Proofs.Qxb6628479aDoor

/-- The digits' bytes, as numbers. -/
def dig (u : Nat) : List Int := (Lib.decDigits u).map fun b => (b.toNat : Int)

theorem dig_small {u : Nat} (h : u < 10) : dig u = [48 + (u : Int)] := by
  unfold dig
  rw [Lib.decDigits_one h]
  simp [UInt8.toNat_ofNat']
  omega

theorem dig_big {u : Nat} (h : ¬ u < 10) : dig u = dig (u / 10) ++ [48 + ((u % 10 : Nat) : Int)] := by
  unfold dig
  rw [Lib.decDigits, dif_neg h]
  simp [UInt8.toNat_ofNat']
  omega

/-- What the strict reader makes of a list of digits. -/
def val (l : List Int) : Int := l.foldl (fun v c => v * 10 + (c - 48)) 0

theorem val_snoc (l : List Int) (c : Int) : val (l ++ [c]) = val l * 10 + (c - 48) := by simp [val, List.foldl_append]

theorem dig_ne (u : Nat) : dig u ≠ [] := by
  by_cases h : u < 10
  · rw [dig_small h]; simp
  · rw [dig_big h]; simp

theorem dig_facts : ∀ (n u : Nat), u ≤ n → val (dig u) = (u : Int) ∧ (∀ c ∈ dig u, 48 ≤ c ∧ c ≤ 57)
  | n, u, hn => by
    by_cases h : u < 10
    · rw [dig_small h]
      refine ⟨by simp [val]; omega, fun c hc => ?_⟩
      simp at hc
      omega
    · match n, hn with
      | 0, hn => omega
      | n + 1, hn =>
        have ih := dig_facts n (u / 10) (by omega)
        rw [dig_big h, val_snoc, ih.1]
        refine ⟨by omega, fun c hc => ?_⟩
        rw [List.mem_append] at hc
        rcases hc with hc | hc
        · exact ih.2 c hc
        · simp at hc
          omega

theorem val_dig (u : Nat) : val (dig u) = (u : Int) := (dig_facts u u (Nat.le_refl _)).1
theorem dig_range (u : Nat) : ∀ c ∈ dig u, 48 ≤ c ∧ c ≤ 57 := (dig_facts u u (Nat.le_refl _)).2

theorem dig_inj {a b : Nat} (h : dig a = dig b) : a = b := by
  have h1 := val_dig a
  rw [h, val_dig b] at h1
  omega

/-- The first digit of a number that is not 0 is not '0'. -/
theorem dig_head : ∀ (n u : Nat), u ≤ n → 1 ≤ u → ∃ c l, dig u = c :: l ∧ 49 ≤ c
  | n, u, hn, h1 => by
    by_cases h : u < 10
    · rw [dig_small h]
      exact ⟨_, [], rfl, by omega⟩
    · match n, hn with
      | 0, hn => omega
      | n + 1, hn =>
        obtain ⟨c, l, e, hc⟩ := dig_head n (u / 10) (by omega) (by omega)
        rw [dig_big h, e]
        exact ⟨c, l ++ [_], rfl, hc⟩

/-- Every beginning of a list of digits reads as no more than the whole. -/
theorem val_le_app (l2 : List Int) : ∀ (l1 : List Int), 0 ≤ val l1 → (∀ c ∈ l2, 48 ≤ c ∧ c ≤ 57) → val l1 ≤ val (l1 ++ l2) := by
  induction l2 with
  | nil => intro l1 _ _; simp
  | cons c l2 ih =>
    intro l1 h0 h
    have hc := h c (by simp)
    have h1 : val l1 ≤ val (l1 ++ [c]) := by rw [val_snoc]; omega
    have h2 := ih (l1 ++ [c]) (by omega) (fun x hx => h x (by simp [hx]))
    rw [List.append_assoc] at h2
    exact Int.le_trans h1 h2

theorem val_nonneg (l : List Int) (h : ∀ c ∈ l, 48 ≤ c ∧ c ≤ 57) : 0 ≤ val l := by
  have := val_le_app l [] (by simp [val]) h
  simpa [val] using this

theorem val_take_le (l : List Int) (h : ∀ c ∈ l, 48 ≤ c ∧ c ≤ 57) (k : Nat) : 0 ≤ val (l.take k) ∧ val (l.take k) ≤ val l := by
  have h0 := val_nonneg (l.take k) (fun c hc => h c (List.mem_of_mem_take hc))
  have h1 := val_le_app (l.drop k) (l.take k) h0 (fun c hc => h c (List.mem_of_mem_drop hc))
  rw [List.take_append_drop] at h1
  exact ⟨h0, h1⟩

theorem val_take_succ (l : List Int) (k : Nat) (hk : k < l.length) : val (l.take (k + 1)) = val (l.take k) * 10 + (l[k] - 48) := by
  rw [List.take_succ_eq_append_getElem hk, val_snoc]

theorem rep_snoc {α : Type} (m : Nat) (x : α) : List.replicate m x ++ [x] = List.replicate (m + 1) x := by
  rw [List.replicate_succ']

/-- ONE MORE, in decimal: the nines at the end turn to noughts; the digit ahead of them goes up by one, or a one comes ahead of them all. -/
theorem dig_succ : ∀ (N n : Nat), n ≤ N → (∃ (pre : List Int) (c : Int) (m : Nat), dig n = pre ++ c :: List.replicate m 57 ∧ c ≠ 57 ∧ 48 ≤ c ∧ c ≤ 57 ∧ dig (n + 1) = pre ++ (c + 1) :: List.replicate m 48) ∨
    (∃ m : Nat, dig n = List.replicate m 57 ∧ dig (n + 1) = 49 :: List.replicate m 48)
  | N, n, hN => by
    by_cases h : n < 10
    · by_cases h9 : n = 9
      · right
        subst h9
        refine ⟨1, by rw [dig_small h]; rfl, ?_⟩
        rw [dig_big (by omega), show (9 + 1) / 10 = 1 from rfl, dig_small (show 1 < 10 by omega)]
        rfl
      · left
        refine ⟨[], 48 + (n : Int), 0, by rw [dig_small h]; rfl, by omega, by omega, by omega, ?_⟩
        rw [dig_small (show n + 1 < 10 by omega)]
        simp
        omega
    · match N, hN with
      | 0, hN => omega
      | N + 1, hN =>
        by_cases h9 : n % 10 = 9
        · have e1 : (n + 1) / 10 = n / 10 + 1 := by omega
          have e2 : (n + 1) % 10 = 0 := by omega
          rw [dig_big h, h9, dig_big (show ¬ n + 1 < 10 by omega), e1, e2]
          rcases dig_succ N (n / 10) (by omega) with ⟨pre, c, m, g1, g2, g3, g4, g5⟩ | ⟨m, g1, g2⟩
          · left
            refine ⟨pre, c, m + 1, ?_, g2, g3, g4, ?_⟩
            · rw [g1, ← rep_snoc m (57 : Int)]; simp
            · rw [g5, ← rep_snoc m (48 : Int)]; simp
          · right
            refine ⟨m + 1, ?_, ?_⟩
            · rw [g1, ← rep_snoc m (57 : Int)]; simp
            · rw [g2, ← rep_snoc m (48 : Int)]; simp
        · left
          have e1 : (n + 1) / 10 = n / 10 := by omega
          have e2 : (n + 1) % 10 = n % 10 + 1 := by omega
          refine ⟨dig (n / 10), 48 + ((n % 10 : Nat) : Int), 0, by rw [dig_big h]; rfl, by omega, by omega, by omega, ?_⟩
          rw [dig_big (show ¬ n + 1 < 10 by omega), e1, e2]
          simp
          omega

/-- The two words, as bytes. -/
def NEW : List Int := [34, 110, 101, 119, 101, 115, 116, 34]
def OLD : List Int := [34, 111, 108, 100, 101, 115, 116, 34]

/-- WHAT MarshalJSON WRITES. -/
def text (newest : Bool) (n : Nat) : List Int := if newest then NEW else if n = 0 then OLD else dig n

theorem text_new (n : Nat) : text true n = NEW := rfl
theorem text_zero : text false 0 = OLD := rfl
theorem text_pos {n : Nat} (h : n ≠ 0) : text false n = dig n := by simp [text, h]

theorem dig_ne_quote (n : Nat) (l : List Int) : dig n ≠ 34 :: l := by
  intro h
  have := dig_range n 34 (by rw [h]; simp)
  omega

theorem text_ne_new (n : Nat) : text false n ≠ NEW := by
  by_cases h : n = 0
  · subst h; rw [text_zero]; decide
  · rw [text_pos h]; exact dig_ne_quote n _

theorem text_inj {a b : Nat} : text false a = text false b ↔ a = b := by
  constructor
  · intro h
    by_cases ha : a = 0
    · by_cases hb : b = 0
      · omega
      · subst ha
        rw [text_zero, text_pos hb] at h
        exact absurd h.symm (dig_ne_quote b _)
    · by_cases hb : b = 0
      · subst hb
        rw [text_zero, text_pos ha] at h
        exact absurd h (dig_ne_quote a _)
      · rw [text_pos ha, text_pos hb] at h
        exact dig_inj h
  · rintro rfl; rfl

theorem dig_length_le (u : Nat) (h : u < 18446744073709551616) : (dig u).length ≤ 20 := by
  have := Lib.nDigits_le20 u h
  simp [dig, Lib.decDigits_length]
  exact this
theorem text_length_le (b : Bool) (n : Nat) (h : n < 18446744073709551616) : (text b n).length ≤ 20 := by
  unfold text
  cases b
  · by_cases h0 : n = 0
    · simp [h0, OLD]
    · simp [h0, dig_length_le n h]
  · simp [NEW]

end Go.Proofs.Qxb6628479aDoor
