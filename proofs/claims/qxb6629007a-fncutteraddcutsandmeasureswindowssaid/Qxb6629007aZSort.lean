/-
  Seat b6629007a: zzSort (function 22), walked: the row is sorted in its place.
-/
import Derived.Test.Qxb6629007aRkSorted
import Derived.Test.Qxb6629007aMeas1
namespace Go.Proofs.Qxb6629007a
open Go.RowKit

/-- Block g holds the numbers L at its head. -/
def IRow (g cap : Nat) (L : List Int) (w : World) : Prop := ∃ cur, w.heap[g]? = some (.cells cur 2 (0, 0)) ∧ cur.size = cap ∧ L.length ≤ cap ∧ cur.toList.take L.length = L.map (Value.int .i64)

theorem IRow.cell {g cap : Nat} {L : List Int} {w : World} (h : IRow g cap L w) {k : Nat} (hk : k < L.length) : w.cell? ⟨g, k, none⟩ = some (.int .i64 L[k]) ∧ w.frozen? ⟨g, k, none⟩ = false := by
  obtain ⟨cur, h1, h2, h3, h4⟩ := h
  refine ⟨?_, (row_cell h1).2⟩
  rw [(row_cell h1).1, ← Array.getElem?_toList]
  have : (cur.toList.take L.length)[k]? = (L.map (Value.int .i64))[k]? := by rw [h4]
  rw [List.getElem?_take_of_lt hk] at this
  rw [this, List.getElem?_map, List.getElem?_eq_getElem hk]
  rfl

theorem IRow.set {g cap : Nat} {L : List Int} {w : World} (h : IRow g cap L w) (k : Nat) (v : Int) : IRow g cap (L.set k v) (w.setCell ⟨g, k, none⟩ (.int .i64 v)) := by
  obtain ⟨cur, h1, h2, h3, h4⟩ := h
  refine ⟨_, heap_setCell_row h1, by simpa using h2, by simpa using h3, ?_⟩
  rw [List.length_set, Array.toList_setIfInBounds, List.take_set, h4, List.map_set]

theorem IRow.size {g cap : Nat} {L : List Int} {w : World} (h : IRow g cap L w) : g < w.heap.size := by
  obtain ⟨cur, h1, _⟩ := h
  exact (Array.getElem?_eq_some_iff.1 h1).1

theorem IRow.later {g cap : Nat} {L : List Int} {w w2 : World} (h : IRow g cap L w) {B : Nat} (hb : Below B w w2) (hg : g < B) : IRow g cap L w2 := by
  obtain ⟨cur, h1, h2⟩ := h
  exact ⟨cur, by rw [hb.block _ hg]; exact h1, h2⟩

theorem mid_set (A B : List Int) (x y : Int) : (A ++ x :: B).set A.length y = A ++ y :: B := by simp

theorem take_one_sort (xs : List Int) : sortZ (xs.take 1) ++ xs.drop 1 = xs := by
  cases xs with
  | nil => simp [sortZ]
  | cons a l => simp [sortZ]

/-- The row while v looks for its place. -/
def midRow (xs : List Int) (k j : Nat) (x : Int) : List Int := (sortZ (xs.take k)).take j ++ x :: ((sortZ (xs.take k)).drop j ++ xs.drop (k + 1))

theorem midRow_length {xs : List Int} {k j : Nat} {x : Int} (hk : k < xs.length) (hj : j ≤ k) : (midRow xs k j x).length = xs.length := by
  have hl : (sortZ (xs.take k)).length = k := by rw [sortZ_length, List.length_take]; omega
  simp [midRow, hl]
  omega

theorem midRow_start {xs : List Int} {k : Nat} (hk : k < xs.length) : sortZ (xs.take k) ++ xs.drop k = midRow xs k k xs[k] := by
  have hl : (sortZ (xs.take k)).length = k := by rw [sortZ_length, List.length_take]; omega
  rw [midRow, List.take_of_length_le (l := sortZ (xs.take k)) (by omega), List.drop_of_length_le (l := sortZ (xs.take k)) (by omega), List.nil_append, List.drop_eq_getElem_cons hk]

theorem midRow_set {xs : List Int} {k j : Nat} {x y : Int} (hk : k < xs.length) (hj : j ≤ k) : (midRow xs k j x).set j y = midRow xs k j y := by
  have hl : (sortZ (xs.take k)).length = k := by rw [sortZ_length, List.length_take]; omega
  have h := mid_set ((sortZ (xs.take k)).take j) ((sortZ (xs.take k)).drop j ++ xs.drop (k + 1)) x y
  rw [show ((sortZ (xs.take k)).take j).length = j from by rw [List.length_take]; omega] at h
  exact h

theorem midRow_down {xs : List Int} {k j : Nat} (hs : j < (sortZ (xs.take k)).length) : midRow xs k (j + 1) (sortZ (xs.take k))[j] = midRow xs k j (sortZ (xs.take k))[j] := by
  rw [midRow, midRow, List.take_succ_eq_append_getElem hs, List.append_assoc, List.drop_eq_getElem_cons hs]
  rfl

theorem midRow_get {xs : List Int} {k j : Nat} {x : Int} (hs : j < (sortZ (xs.take k)).length) (h : j < (midRow xs k (j + 1) x).length) : (midRow xs k (j + 1) x)[j] = (sortZ (xs.take k))[j] := by
  simp only [midRow]
  rw [List.getElem_append_left (by simp; omega), List.getElem_take]

set_option maxRecDepth 100000 in
set_option maxHeartbeats 2000000 in
theorem f22_row (g n cap : Nat) (xs : List Int) (w : World) (h : IRow g cap xs w) (hn : n = xs.length) (hl : n ≤ 4096) :
    Calls Try.prog 22 #[.slice (some ⟨g, 0, none⟩) n cap] w fun e w' => e = .returned (.tuple #[]) ∧ IRow g cap (sortZ xs) w' ∧ Below g w w' := by
  have HN : Hid (n = xs.length) := hn
  clear hn
  have hIA : ∀ (k : Nat), k < n → ∀ W : World, (Instr.indexAt 55 (.slice (some ⟨g, 0, none⟩) n cap) (.int .i64 (k : Int))).run Try.prog W = .ok (.pointer (some ⟨g, k, none⟩)) W := fun k hk W => by
    simp [Instr.indexAt, run_underlying Try.underlying55, asIntOf, hk, Addr.add]
    intro h0; omega
  go_enter Try.func22, Try.ntmps22
  go_wp2_with fail
  go_loopw [2] (fun i wr => ∃ k : Nat, k + 1 ≤ n + 1 ∧ i = .int .i64 ((k : Int) + 1) ∧ IRow g cap (sortZ (xs.take (k + 1)) ++ xs.drop (k + 1)) wr ∧ Below g w wr)
    (fun i _ => n + 1 - (intOf i).toNat)
  case atStart => exact ⟨0, by omega, rfl, by rw [take_one_sort]; exact h, Below.refl _ _⟩
  case round =>
    obtain ⟨k, hk, rfl, hrow, hbel⟩ := hrel
    by_cases hkl : k + 1 < n
    · have hkx : k + 1 < xs.length := by rw [← HN.out]; exact hkl
      have hSl : (sortZ (xs.take (k + 1))).length = k + 1 := by rw [sortZ_length, List.length_take]; omega
      rw [midRow_start hkx] at hrow
      have hc := (hrow.cell (k := k + 1) (by rw [midRow_length hkx (Nat.le_refl _)]; exact hkx)).1
      have hv : (midRow xs (k + 1) (k + 1) xs[k + 1])[k + 1]'(by rw [midRow_length hkx (Nat.le_refl _)]; exact hkx) = xs[k + 1] := by
        simp only [midRow]
        rw [List.getElem_append_right (by simp; omega)]
        have e : k + 1 - ((sortZ (xs.take (k + 1))).take (k + 1)).length = 0 := by simp; omega
        simp only [e]
        rfl
      rw [hv] at hc
      have HIN : Hid (∀ j ≤ k + 1, (∀ t (h : t < (sortZ (xs.take (k + 1))).length), j ≤ t → xs[k + 1] < (sortZ (xs.take (k + 1)))[t]) → (∀ t (h : t < (sortZ (xs.take (k + 1))).length), t < j → (sortZ (xs.take (k + 1)))[t] ≤ xs[k + 1]) → midRow xs (k + 1) j xs[k + 1] = sortZ (xs.take (k + 1 + 1)) ++ xs.drop (k + 1 + 1)) := fun j hj a b => by
        rw [insert_eq hkx hj a b, midRow, List.append_assoc]; rfl
      generalize xs[k + 1] = v at *
      have hw := hIA (k + 1) hkl
      rw [show (((k + 1 : Nat) : Nat) : Int) = (k : Int) + 1 from by omega] at hw
      have hlt : (k : Int) + 1 < (n : Int) := by omega
      clear hv
      go_wp2_with fail
      go_loopw [4] (fun j wr2 => ∃ t : Nat, t ≤ k + 1 ∧ j = .int .i64 (t : Int) ∧ (∃ x, IRow g cap (midRow xs (k + 1) t x) wr2) ∧ (∀ u (hu : u < (sortZ (xs.take (k + 1))).length), t ≤ u → v < (sortZ (xs.take (k + 1)))[u]) ∧ Below g w wr2)
        (fun j _ => (intOf j).toNat)
      case atStart => exact ⟨k + 1, Nat.le_refl _, by go_num, ⟨_, hrow⟩, fun u hu h => absurd hu (by omega), hbel⟩
      case round =>
        clear hc hrow hbel
        obtain ⟨t, ht, rfl, ⟨x, hrow⟩, hup, hbel⟩ := hrel
        have hml := midRow_length (x := x) hkx ht
        have hct := hrow.cell (k := t) (by rw [hml]; omega)
        have hwt := hIA t (by omega)
        have fin1 : (∀ u (hu : u < (sortZ (xs.take (k + 1))).length), u < t → (sortZ (xs.take (k + 1)))[u] ≤ v) → IRow g cap (sortZ (xs.take (k + 1 + 1)) ++ xs.drop (k + 1 + 1)) (wr.setCell ⟨g, t, none⟩ (.int .i64 v)) := fun hlo => by
          rw [← HIN.out t ht hup hlo]
          have := hrow.set t v
          rw [midRow_set hkx ht] at this
          exact this
        have hbel2 : Below g w (wr.setCell ⟨g, t, none⟩ (.int .i64 v)) := hbel.setCell (Nat.le_refl _) _
        match t, ht, hup, hrow, hml, hct, hwt, fin1, hbel2 with
        | 0, ht, hup, hrow, hml, hct, hwt, fin1, hbel2 =>
          have fin2 := fin1 (fun u hu h => absurd h (by omega))
          generalize (midRow xs (k + 1) 0 x)[0]'_ = y at hct
          obtain ⟨hct, hcf⟩ := hct
          clear fin1 hrow hup hml
          go_wp2_with fail
          exact ⟨⟨k + 1, by omega, by go_num, fin2, hbel2⟩, by simp [intOf]; omega⟩
        | t + 1, ht, hup, hrow, hml, hct, hwt, fin1, hbel2 =>
          have hts : t < (sortZ (xs.take (k + 1))).length := by omega
          have hcs := (hrow.cell (k := t) (by rw [hml]; omega)).1
          rw [midRow_get hts] at hcs
          have hws := hIA t (by omega)
          rw [show (((t + 1 : Nat) : Nat) : Int) = (t : Int) + 1 from by omega] at hwt
          have hstep : v < (sortZ (xs.take (k + 1)))[t] → (∀ u (hu : u < (sortZ (xs.take (k + 1))).length), t ≤ u → v < (sortZ (xs.take (k + 1)))[u]) ∧ IRow g cap (midRow xs (k + 1) t (sortZ (xs.take (k + 1)))[t]) (wr.setCell ⟨g, t + 1, none⟩ (.int .i64 (sortZ (xs.take (k + 1)))[t])) := fun h => by
            refine ⟨fun u hu h2 => ?_, ?_⟩
            · by_cases e : u = t
              · subst e; exact h
              · exact hup u hu (by omega)
            · have := hrow.set (t + 1) (sortZ (xs.take (k + 1)))[t]
              rw [midRow_set hkx ht, midRow_down hts] at this
              exact this
          have hlow : ¬ v < (sortZ (xs.take (k + 1)))[t] → ∀ u (hu : u < (sortZ (xs.take (k + 1))).length), u < t + 1 → (sortZ (xs.take (k + 1)))[u] ≤ v := fun h u hu h2 => by
            have := sorted_get (sortZ_sorted (xs.take (k + 1))) (i := u) (j := t) (by omega) hts
            omega
          have hbel3 : ∀ y, Below g w (wr.setCell ⟨g, t + 1, none⟩ y) := fun y => hbel.setCell (Nat.le_refl _) _
          generalize (sortZ (xs.take (k + 1)))[t] = y at hcs hstep hlow
          generalize (midRow xs (k + 1) (t + 1) x)[t + 1]'_ = z at hct
          obtain ⟨hct, hcf⟩ := hct
          by_cases hvy : v < y
          · obtain ⟨s1, s2⟩ := hstep hvy
            clear hstep hlow fin1 hup hrow hml
            go_wp2_with fail
            exact ⟨⟨t, by omega, by go_num, ⟨_, s2⟩, s1, hbel3 _⟩, by simp [intOf]⟩
          · have fin2 := fin1 (hlow hvy)
            have hvy' : decide (v < y) = false := decide_eq_false hvy
            clear hstep hlow fin1 hup hrow hml
            go_wp2_with fail
            exact ⟨⟨k + 1, by omega, by go_num, fin2, hbel2⟩, by simp [intOf]; omega⟩
    · have hkl' : decide ((k : Int) + 1 < (n : Int)) = false := decide_eq_false (by omega)
      have e : sortZ (xs.take (k + 1)) ++ xs.drop (k + 1) = sortZ xs := by
        have := HN.out
        rw [List.take_of_length_le (by omega), List.drop_of_length_le (by omega), List.append_nil]
      rw [e] at hrow
      go_wp2
      go_end0
      exact ⟨rfl, hrow, hbel⟩

set_option maxRecDepth 100000 in
theorem f22_nil (w : World) : Calls Try.prog 22 #[.slice none 0 0] w fun e w' => e = .returned (.tuple #[]) ∧ w' = w := by
  go_enter Try.func22, Try.ntmps22
  go_wp2_with fail
  go_loopw [2] (fun i wr => i = .int .i64 1 ∧ wr = w) (fun _ _ => 0)
  case atStart => exact ⟨rfl, rfl⟩
  case round =>
    obtain ⟨rfl, rfl⟩ := hrel
    go_wp2
    go_end0
    exact ⟨rfl, rfl⟩

theorem f22_any (base : Nat) (v : Value) (xs : List Int) (w : World) (hown : w.ownsRow base 2 1 v xs.length (xs.map (Value.int .i64))) (hl : xs.length ≤ 4096) :
    Calls Try.prog 22 #[v] w fun e w' => e = .returned (.tuple #[]) ∧ w'.ownsRow base 2 1 v xs.length ((sortZ xs).map (Value.int .i64)) ∧ Below base w w' := by
  have h0 := hown.1
  rcases hown.2 with ⟨h1, h2⟩ | ⟨g, cap, cur, h1, h2, h3, h4, h5, h6, h7⟩
  · subst h1
    have hx : xs = [] := List.length_eq_zero_iff.1 h2
    subst hx
    refine (f22_nil w).mono ?_
    rintro e w1 ⟨rfl, rfl⟩
    exact ⟨rfl, by simpa [sortZ] using hown, Below.refl _ _⟩
  · subst h1
    refine (f22_row g xs.length cap xs w ⟨cur, h3, by omega, h4, by simpa using h7⟩ rfl hl).mono ?_
    rintro e w1 ⟨rfl, ⟨cur2, g1, g2, g3, g4⟩, hb⟩
    refine ⟨rfl, ⟨by simp [sortZ_length], .inr ⟨g, cap, cur2, rfl, h2, g1, h4, h5, by omega, ?_⟩⟩, hb.mono h2⟩
    rw [sortZ_length] at g4
    simpa using g4
end Go.Proofs.Qxb6629007a
