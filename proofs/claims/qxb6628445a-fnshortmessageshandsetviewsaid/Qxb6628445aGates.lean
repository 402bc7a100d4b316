/-
  Seat b6628445a: the gates (functions 5, 6, 12), walked: they only read; a yes bounds every length.
-/
import Derived.Test.Qxb6628445aCloneP
namespace Go.Proofs.Qxb6628445a
open Go.RowKit

/-- What the two gates let by. -/
def Small (rs : List Sl) (rows : List (List Int)) (hx : List Int) : Prop := rs.length ≤ 1048576 ∧ hx.length ≤ 1048576 ∧ ∀ x ∈ rows, x.length ≤ 1048576

/-- A gate: it says yes only if p. -/
def Gate (e : Ending) (p : Prop) : Prop := ∃ b : Bool, e = .returned (.bool b) ∧ (b = true → p)

theorem small_mk {rs : List Sl} {rows : List (List Int)} {hx : List Int} {n : Nat} {h : Sl} (h1 : ¬ 1048576 < (n : Int)) (h2 : n = rs.length) (h3 : ¬ 1048576 < (h.n : Int)) (h4 : h.n = hx.length) (h5 : ∀ j (_ : j < rows.length), j < n → (rows[j]).length ≤ 1048576) (h6 : n = rows.length) : Small rs rows hx := by
  refine ⟨by omega, by omega, fun x hx' => ?_⟩
  obtain ⟨j, hj, rfl⟩ := List.getElem_of_mem hx'
  exact h5 j hj (by omega)

set_option maxRecDepth 100000 in
set_option maxHeartbeats 400000 in
theorem f5_any (s : ByteArray) (dc ref : Int) (ao : Option Addr) (rs : List Sl) (n cap : Nat) (rows : List (List Int)) (h : Sl) (hx : List Int) (w : World) (hm : Mat w ao rs rows) (hn : n = rs.length) (hh : h.n = hx.length) (hlm : n ≤ maxLen) :
    Calls Try.prog 5 #[.string s, .int .u8 dc, .slice ao n cap, .slice h.ao h.n h.cap, .int .u8 ref] w fun e w' => Gate e (Small rs rows hx) ∧ w' = w := by
  have HL : Hid (n = rs.length) := hn
  have HR : Hid (n = rows.length) := hn.trans hm.len
  have HH : Hid (h.n = hx.length) := hh
  clear hn hh
  unfold maxLen at hlm
  by_cases h1 : 1048576 < (s.size : Int)
  · go_enter Try.func5, Try.ntmps5
    go_wp2
    go_ret
    exact ⟨⟨false, rfl, fun h => by cases h⟩, rfl⟩
  by_cases h2 : 1048576 < (n : Int)
  · go_enter Try.func5, Try.ntmps5
    go_wp2
    go_ret
    exact ⟨⟨false, rfl, fun h => by cases h⟩, rfl⟩
  by_cases h3 : 1048576 < (s.size : Int) + (n : Int)
  · go_enter Try.func5, Try.ntmps5
    go_wp2
    go_ret
    exact ⟨⟨false, rfl, fun h => by cases h⟩, rfl⟩
  have d1 : decide (1048576 < (s.size : Int)) = false := decide_eq_false h1
  have d2 : decide (1048576 < (n : Int)) = false := decide_eq_false h2
  have d3 : decide (1048576 < (s.size : Int) + (n : Int)) = false := decide_eq_false h3
  go_enter Try.func5, Try.ntmps5
  go_wp2
  go_loop [11, 12] (fun t i => ∃ (k : Nat) (T : Int), k ≤ n ∧ i = .int .i64 k ∧ t = .int .i64 T ∧ 0 ≤ T ∧ T ≤ 1048576 ∧ ∀ j (_ : j < rows.length), j < k → (rows[j]).length ≤ 1048576) (fun _ i => n - (intOf i).toNat)
  case atStart => exact ⟨0, _, Nat.zero_le _, rfl, rfl, by omega, by omega, fun j _ h => by omega⟩
  case round =>
    obtain ⟨k, T, hk, rfl, rfl, hT0, hT1, hall⟩ := hrel
    by_cases hlt : k < n
    · obtain ⟨p, hp1, hp2⟩ := hm.at cap (k := k) (by rw [← HL.out]; exact hlt)
      rw [← HL.out] at hp1
      have hks : k < rs.length := by rw [← HL.out]; exact hlt
      have hkr : k < rows.length := by rw [← HR.out]; exact hlt
      have hrl : (rs[k]).n = (rows[k]).length := (hm.each k hks hkr).len
      have HRL : Hid ((rs[k]).n = (rows[k]).length) := hrl
      have HA : Hid (∀ j (_ : j < rows.length), j < k → (rows[j]).length ≤ 1048576) := hall
      clear hrl hall
      generalize rs[k] = q at *
      go_wp2
      · go_ret
        exact ⟨⟨false, rfl, fun h => by cases h⟩, rfl⟩
      · go_ret
        exact ⟨⟨false, rfl, fun h => by cases h⟩, rfl⟩
      · go_round
        case rel =>
          refine ⟨k + 1, _, by omega, by go_num, rfl, by omega, by omega, fun j hj hjk => ?_⟩
          by_cases e : j = k
          · subst e; rw [← HRL.out]; omega
          · exact HA.out j hj (by omega)
        case measure => simp [intOf]; omega
    · by_cases h4 : 1048576 < (h.n : Int)
      · go_wp2
        go_ret
        exact ⟨⟨false, rfl, fun h => by cases h⟩, rfl⟩
      · go_wp2
        · go_ret
          exact ⟨⟨false, rfl, fun h => by cases h⟩, rfl⟩
        · go_ret
          exact ⟨⟨true, rfl, fun _ => small_mk (by omega) HL.out (by omega) HH.out (fun j hj hjn => hall j hj (by omega)) HR.out⟩, rfl⟩
set_option maxRecDepth 100000 in
set_option maxHeartbeats 400000 in
theorem f12_any (s : ByteArray) (dc ra rb : Int) (ao : Option Addr) (rs : List Sl) (n cap : Nat) (rows : List (List Int)) (h : Sl) (hx : List Int) (w : World) (hm : Mat w ao rs rows) (hn : n = rs.length) (hh : h.n = hx.length) (hlm : n ≤ maxLen) :
    Calls Try.prog 12 #[.string s, .int .u8 dc, .slice ao n cap, .slice h.ao h.n h.cap, .int .u8 ra, .int .u8 rb] w fun e w' => Gate e (Small rs rows hx) ∧ w' = w := by
  have HL : Hid (n = rs.length) := hn
  have HR : Hid (n = rows.length) := hn.trans hm.len
  have HH : Hid (h.n = hx.length) := hh
  clear hn hh
  unfold maxLen at hlm
  by_cases h1 : 1048576 < (s.size : Int)
  · go_enter Try.func12, Try.ntmps12
    go_wp2
    go_ret
    exact ⟨⟨false, rfl, fun h => by cases h⟩, rfl⟩
  by_cases h2 : 1048576 < (n : Int)
  · go_enter Try.func12, Try.ntmps12
    go_wp2
    go_ret
    exact ⟨⟨false, rfl, fun h => by cases h⟩, rfl⟩
  by_cases h3 : 1048576 < (s.size : Int) + (n : Int)
  · go_enter Try.func12, Try.ntmps12
    go_wp2
    go_ret
    exact ⟨⟨false, rfl, fun h => by cases h⟩, rfl⟩
  have d1 : decide (1048576 < (s.size : Int)) = false := decide_eq_false h1
  have d2 : decide (1048576 < (n : Int)) = false := decide_eq_false h2
  have d3 : decide (1048576 < (s.size : Int) + (n : Int)) = false := decide_eq_false h3
  go_enter Try.func12, Try.ntmps12
  go_wp2
  go_loop [13, 14] (fun t i => ∃ (k : Nat) (T : Int), k ≤ n ∧ i = .int .i64 k ∧ t = .int .i64 T ∧ 0 ≤ T ∧ T ≤ 1048576 ∧ ∀ j (_ : j < rows.length), j < k → (rows[j]).length ≤ 1048576) (fun _ i => n - (intOf i).toNat)
  case atStart => exact ⟨0, _, Nat.zero_le _, rfl, rfl, by omega, by omega, fun j _ h => by omega⟩
  case round =>
    obtain ⟨k, T, hk, rfl, rfl, hT0, hT1, hall⟩ := hrel
    by_cases hlt : k < n
    · obtain ⟨p, hp1, hp2⟩ := hm.at cap (k := k) (by rw [← HL.out]; exact hlt)
      rw [← HL.out] at hp1
      have hks : k < rs.length := by rw [← HL.out]; exact hlt
      have hkr : k < rows.length := by rw [← HR.out]; exact hlt
      have hrl : (rs[k]).n = (rows[k]).length := (hm.each k hks hkr).len
      have HRL : Hid ((rs[k]).n = (rows[k]).length) := hrl
      have HA : Hid (∀ j (_ : j < rows.length), j < k → (rows[j]).length ≤ 1048576) := hall
      clear hrl hall
      generalize rs[k] = q at *
      go_wp2
      · go_ret
        exact ⟨⟨false, rfl, fun h => by cases h⟩, rfl⟩
      · go_ret
        exact ⟨⟨false, rfl, fun h => by cases h⟩, rfl⟩
      · go_round
        case rel =>
          refine ⟨k + 1, _, by omega, by go_num, rfl, by omega, by omega, fun j hj hjk => ?_⟩
          by_cases e : j = k
          · subst e; rw [← HRL.out]; omega
          · exact HA.out j hj (by omega)
        case measure => simp [intOf]; omega
    · by_cases h4 : 1048576 < (h.n : Int)
      · go_wp2
        go_ret
        exact ⟨⟨false, rfl, fun h => by cases h⟩, rfl⟩
      · go_wp2
        · go_ret
          exact ⟨⟨false, rfl, fun h => by cases h⟩, rfl⟩
        · go_ret
          exact ⟨⟨true, rfl, fun _ => small_mk (by omega) HL.out (by omega) HH.out (fun j hj hjn => hall j hj (by omega)) HR.out⟩, rfl⟩
set_option maxRecDepth 100000 in
set_option maxHeartbeats 400000 in
theorem f6_any (s : ByteArray) (ao : Option Addr) (rs : List Sl) (n cap : Nat) (rows : List (List Int)) (h : Sl) (w : World) (hm : Mat w ao rs rows) (hn : n = rs.length) (hlm : n ≤ maxLen) :
    Calls Try.prog 6 #[.string s, .slice ao n cap, .slice h.ao h.n h.cap] w fun e w' => Gate e True ∧ w' = w := by
  have HL : Hid (n = rs.length) := hn
  clear hn
  unfold maxLen at hlm
  go_enter Try.func6, Try.ntmps6
  go_wp2
  · go_ret
    exact ⟨⟨false, rfl, fun h => by cases h⟩, rfl⟩
  rename_i h1
  have d1 : decide (1048576 < wrap64 ((s.size : Int) + (h.n : Int))) = false := decide_eq_false (by omega)
  go_loop [7, 8] (fun t i => ∃ (k : Nat) (T : Int), k ≤ n ∧ i = .int .i64 k ∧ t = .int .i64 T) (fun _ i => n - (intOf i).toNat)
  case atStart => exact ⟨0, _, Nat.zero_le _, rfl, rfl⟩
  case round =>
    obtain ⟨k, T, hk, rfl, rfl⟩ := hrel
    by_cases hlt : k < n
    · obtain ⟨p, hp1, hp2⟩ := hm.at cap (k := k) (by rw [← HL.out]; exact hlt)
      rw [← HL.out] at hp1
      have hks : k < rs.length := by rw [← HL.out]; exact hlt
      generalize rs[k] = q at *
      go_wp2
      · go_ret
        exact ⟨⟨false, rfl, fun h => by cases h⟩, rfl⟩
      · go_round
        case rel => exact ⟨k + 1, _, by omega, by go_num, rfl⟩
        case measure => simp [intOf]; omega
    · go_wp2
      go_ret
      exact ⟨⟨true, rfl, fun _ => trivial⟩, rfl⟩

end Go.Proofs.Qxb6628445a
