/-
  Seat b6628479aD: decodeFrom (function 6), walked: it reads back what MarshalJSON writes.
-/
import Derived.Test.Qxb6628479aDoorEq
namespace Go.Proofs.Qxb6628479aDoor
open Go.RowKit

def newS : ByteArray := { data := #[34, 110, 101, 119, 101, 115, 116, 34] }
def oldS : ByteArray := { data := #[34, 111, 108, 100, 101, 115, 116, 34] }
theorem nums_new : nums newS = NEW := by decide
theorem nums_old : nums oldS = OLD := by decide

set_option maxRecDepth 100000 in
set_option maxHeartbeats 400000 in
theorem f6_new (x : Sl) (w : World) (hx : Bts w x NEW) :
    Calls Tryd.prog 6 #[.slice x.ao x.n x.cap] w fun e w' => e = .returned (.tuple #[.bool true, .int .u64 0, .bool true]) ∧ ∃ q, w' = w.drewN q := by
  have k10 := f10_any x NEW newS w hx (by decide)
  rw [nums_new] at k10
  go_enter Tryd.func6, Tryd.ntmps6
  go_wp2_with fail
  refine k10.mono ?_
  rintro e w' ⟨rfl, q, rfl⟩
  go_wp2
  go_ret3
  exact ⟨rfl, q, rfl⟩

set_option maxRecDepth 100000 in
set_option maxHeartbeats 400000 in
theorem f6_old (x : Sl) (w : World) (hx : Bts w x OLD) :
    Calls Tryd.prog 6 #[.slice x.ao x.n x.cap] w fun e w' => e = .returned (.tuple #[.bool false, .int .u64 0, .bool true]) ∧ ∃ q, w' = w.drewN q := by
  have k10 := f10_any x OLD newS w hx (by decide)
  have d1 : decide (OLD = nums newS) = false := by decide
  rw [d1] at k10
  have k11 : ∀ q, Calls Tryd.prog 10 #[.slice x.ao x.n x.cap, .string oldS] (w.drewN q) fun e w' => e = .returned (.bool true) ∧ ∃ q', w' = (w.drewN q).drewN q' := fun q => by
    have k := f10_any x OLD oldS (w.drewN q) ⟨hx.len, hx.room, hx.bare, hx.rd⟩ (by decide)
    have d2 : decide (OLD = nums oldS) = true := by decide
    rw [d2] at k
    exact k
  have K11 : Hid (∀ q, Calls Tryd.prog 10 #[.slice x.ao x.n x.cap, .string oldS] (w.drewN q) fun e w' => e = .returned (.bool true) ∧ ∃ q', w' = (w.drewN q).drewN q') := k11
  clear k11
  go_enter Tryd.func6, Tryd.ntmps6
  go_wp2_with fail
  refine k10.mono ?_
  rintro e w' ⟨rfl, q, rfl⟩
  go_wp2_with fail
  refine (K11.out q).mono ?_
  rintro e w' ⟨rfl, q', rfl⟩
  go_wp2
  go_ret3
  exact ⟨rfl, q + q', rfl⟩

theorem ret_u64 {a b : Int} (h : a = b) : Ending.returned (.tuple #[.bool false, .int .u64 a, .bool true]) = .returned (.tuple #[.bool false, .int .u64 b, .bool true]) := by rw [h]

set_option maxRecDepth 100000 in
set_option maxHeartbeats 1000000 in
theorem f6_dig (x : Sl) (n : Nat) (w : World) (hx : Bts w x (dig n)) (h1 : 1 ≤ n) (h2 : n < 18446744073709551616) :
    Calls Tryd.prog 6 #[.slice x.ao x.n x.cap] w fun e w' => e = .returned (.tuple #[.bool false, .int .u64 (n : Int), .bool true]) ∧ ∃ q, w' = w.drewN q := by
  have hlen := dig_length_le n h2
  have k10 := f10_any x (dig n) newS w hx (by omega)
  have d1 : decide (dig n = nums newS) = false := by rw [nums_new, decide_eq_false_iff_not]; exact dig_ne_quote n _
  rw [d1] at k10
  have k11 : ∀ q, Calls Tryd.prog 10 #[.slice x.ao x.n x.cap, .string oldS] (w.drewN q) fun e w' => e = .returned (.bool false) ∧ ∃ q', w' = (w.drewN q).drewN q' := fun q => by
    have k := f10_any x (dig n) oldS (w.drewN q) ⟨hx.len, hx.room, hx.bare, hx.rd⟩ (by omega)
    have d2 : decide (dig n = nums oldS) = false := by rw [nums_old, decide_eq_false_iff_not]; exact dig_ne_quote n _
    rw [d2] at k
    exact k
  obtain ⟨c0, l0, hd0, hc0⟩ := dig_head n n (Nat.le_refl _) h1
  obtain ⟨p0, hp01, hp02⟩ := hx.at (k := 0) (by rw [hd0]; simp)
  have hx0 : (dig n)[0]'(by rw [hd0]; simp) = c0 := by simp [hd0]
  rw [hx0] at hp02
  have hne0 : (c0 == 48) = false := beq_eq_false_iff_ne.2 (by omega)
  obtain ⟨L, hL⟩ : ∃ L, L = (dig n).length := ⟨_, rfl⟩
  have hxn : x.n = L := hx.len.trans hL.symm
  have hLp : 1 ≤ L := by rw [hL, hd0]; simp
  have hLb : L ≤ 20 := by rw [hL]; exact hlen
  have HL : Hid (L = (dig n).length) := hL
  have HV : Hid (val (dig n) = (n : Int)) := val_dig n
  rw [hxn, show ((0 : Nat) : Int) = 0 from rfl] at hp01
  rw [hxn] at k10 k11
  have K11 : Hid (∀ q, Calls Tryd.prog 10 #[.slice x.ao L x.cap, .string oldS] (w.drewN q) fun e w' => e = .returned (.bool false) ∧ ∃ q', w' = (w.drewN q).drewN q') := k11
  have hL0 : ((L : Int) == 0) = false := beq_eq_false_iff_ne.2 (by omega)
  have hbig : (n : Int) ≤ 18446744073709551615 := by omega
  have HB : Hid ((n : Int) ≤ 18446744073709551615) := hbig
  clear k11 hd0 hL hlen d1 hx0 hbig h2
  go_enter Tryd.func6, Tryd.ntmps6
  go_wp2_with fail
  refine k10.mono ?_
  rintro e w' ⟨rfl, q, rfl⟩
  go_wp2_with fail
  refine (K11.out q).mono ?_
  rintro e w' ⟨rfl, q', rfl⟩
  clear k10 K11
  go_wp2
  go_loop [5, 6] (fun v i => ∃ (k : Nat) (V : Int), k ≤ L ∧ i = .int .i64 k ∧ v = .int .u64 V ∧ Hid (V = val ((dig n).take k))) (fun _ i => L - (intOf i).toNat)
  case atStart => exact ⟨0, 0, Nat.zero_le _, rfl, rfl, rfl⟩
  case round =>
    obtain ⟨k, V, hk, rfl, rfl, HVk⟩ := hrel
    by_cases hlt : k < L
    · have hkd : k < (dig n).length := by rw [← HL.out]; exact hlt
      obtain ⟨p, hp1, hp2⟩ := hx.at (k := k) hkd
      rw [hxn] at hp1
      have hr := dig_range n _ (List.getElem_mem hkd)
      have h0 := val_take_le (dig n) (dig_range n) k
      have h3 := val_take_le (dig n) (dig_range n) (k + 1)
      rw [val_take_succ _ _ hkd, HV.out, ← HVk.out] at h3
      rw [← HVk.out] at h0
      have HK : Hid (val ((dig n).take (k + 1)) = V * 10 + ((dig n)[k] - 48)) := by rw [Hid, val_take_succ _ _ hkd, HVk.out]
      generalize (dig n)[k] = c at *
      obtain ⟨hc1, hc2⟩ := hr
      obtain ⟨hV0, _⟩ := h0
      obtain ⟨_, hVn⟩ := h3
      go_wp2
      · exfalso
        have hb := HB.out
        have hw : (18446744073709551615 - (c - 48)) / 10 < V := by assumption
        omega
      · exact ⟨⟨k + 1, _, by omega, by go_num, rfl, HK.out.symm⟩, by simp [intOf]; omega⟩
    · have HE : Hid (V = (n : Int)) := by rw [Hid, HVk.out, List.take_of_length_le (by rw [← HL.out]; omega), HV.out]
      go_wp2
      go_ret3
      exact ⟨ret_u64 HE.out, q + q', rfl⟩

/-- decodeFrom READS BACK WHAT MarshalJSON WRITES. -/
theorem f6_any (x : Sl) (b : Bool) (n : Nat) (w : World) (hx : Bts w x (text b n)) (h2 : n < 18446744073709551616) :
    Calls Tryd.prog 6 #[.slice x.ao x.n x.cap] w fun e w' => e = .returned (.tuple #[.bool b, .int .u64 (if b then 0 else (n : Int)), .bool true]) ∧ ∃ q, w' = w.drewN q := by
  cases b
  · by_cases h0 : n = 0
    · subst h0
      exact f6_old x w hx
    · rw [text_pos h0] at hx
      exact f6_dig x n w hx (by omega) h2
  · exact f6_new x w hx
end Go.Proofs.Qxb6628479aDoor
