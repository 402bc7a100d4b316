/-
  Seat b6628479aD: bytesEqual (function 8) and textIs (function 10), walked.
-/
import Derived.Test.Qxb6628479aDoorBytes
import Derived.Test.Qxb6628479aDoorNum
import Derived.Test.Qxb6628479aDoorShelf
import Derived.Deep.QuietTactic
import Derived.BigQuiet
import Derived.WalkSmall
namespace Go.Proofs.Qxb6628479aDoor
open Go.RowKit

theorem ret_bool {a b : Bool} (h : a = b) : Ending.returned (.bool a) = .returned (.bool b) := by rw [h]

/-- The lists agree on their first k. -/
def Same (xs ys : List Int) (k : Nat) : Prop := ∀ j, j < k → xs[j]? = ys[j]?

theorem same_all {xs ys : List Int} {k : Nat} (h : Same xs ys k) (h1 : xs.length ≤ k) (h2 : ys.length ≤ k) : true = decide (xs = ys) := by
  rw [eq_comm, decide_eq_true_iff]
  apply List.ext_getElem?
  intro j
  by_cases hj : j < k
  · exact h j hj
  · rw [List.getElem?_eq_none (by omega), List.getElem?_eq_none (by omega)]
theorem not_same {xs ys : List Int} {k : Nat} (h : xs[k]? ≠ ys[k]?) : false = decide (xs = ys) := by
  rw [eq_comm, decide_eq_false_iff_not]
  rintro rfl
  exact h rfl

set_option maxRecDepth 100000 in
set_option maxHeartbeats 400000 in
theorem f8_any (x y : Sl) (xs ys : List Int) (w : World) (hx : Bts w x xs) (hy : Bts w y ys) (hle : xs.length ≤ 4194304) (hle2 : ys.length ≤ 4194304) :
    Calls Tryd.prog 8 #[.slice x.ao x.n x.cap, .slice y.ao y.n y.cap] w fun e w' => e = .returned (.bool (decide (xs = ys))) ∧ ∃ q, w' = w.drewN q := by
  have HX : Hid (x.n = xs.length) := hx.len
  have HY : Hid (y.n = ys.length) := hy.len
  have hxl : x.n ≤ 4194304 := by rw [HX.out]; exact hle
  by_cases hn : x.n = y.n
  · obtain ⟨L, hL⟩ : ∃ L, L = xs.length := ⟨_, rfl⟩
    have h1 : x.n = L := HX.out.trans hL.symm
    have h2 : y.n = L := hn.symm.trans h1
    have HL : Hid (L = xs.length) := hL
    have HM : Hid (L = ys.length) := h2.symm.trans HY.out
    rw [← hL] at hle
    clear hL hn hle2 hxl
    go_enter Tryd.func8, Tryd.ntmps8
    go_wp2
    go_loopw [5] (fun i wr => ∃ k q : Nat, k ≤ L ∧ i = .int .i64 k ∧ wr = w.drewN q ∧ Same xs ys k) (fun i _ => L - (intOf i).toNat)
    case atStart => exact ⟨0, 0, Nat.zero_le _, rfl, rfl, fun j hj => by omega⟩
    case round =>
      obtain ⟨k, q, hk, rfl, rfl, hsame⟩ := hrel
      have HS : Hid (Same xs ys k) := hsame
      clear hsame
      by_cases hlt : k < L
      · have hkx : k < xs.length := by rw [← HL.out]; exact hlt
        have hky : k < ys.length := by rw [← HM.out]; exact hlt
        obtain ⟨p, hp1, hp2⟩ := hx.at (k := k) hkx
        obtain ⟨p', hp1', hp2'⟩ := hy.at (k := k) hky
        rw [h1] at hp1
        rw [h2] at hp1'
        by_cases he : xs[k] = ys[k]
        · have HE : Hid (xs[k] = ys[k]) := he
          rw [he] at hp2
          clear he
          go_wp2
          go_quiet (fail)
          go_wp2
          exact ⟨⟨k + 1, q + nq, by omega, by go_num, rfl, fun j hj => by
            by_cases e : j = k
            · subst e; rw [List.getElem?_eq_getElem hkx, List.getElem?_eq_getElem hky, HE.out]
            · exact HS.out j (by omega)⟩, by simp [intOf]; omega⟩
        · have hd : (xs[k] != ys[k]) = true := by rw [bne_iff_ne]; exact he
          have HE : Hid (false = decide (xs = ys)) := not_same (k := k) (by rw [List.getElem?_eq_getElem hkx, List.getElem?_eq_getElem hky]; intro e; exact he (Option.some.inj e))
          clear he
          go_wp2
          go_quiet (fail)
          go_wp2
          go_ret
          exact ⟨ret_bool HE.out, q + nq, by rw [World.drewN_drewN]⟩
      · have HE : Hid (true = decide (xs = ys)) := same_all HS.out (by rw [← HL.out]; omega) (by rw [← HM.out]; omega)
        go_wp2
        go_ret
        exact ⟨ret_bool HE.out, q, rfl⟩
  · have hb : ((x.n : Int) != (y.n : Int)) = true := by rw [bne_iff_ne]; omega
    have HE : Hid (false = decide (xs = ys)) := by
      rw [Hid, eq_comm, decide_eq_false_iff_not]
      rintro rfl
      exact hn (HX.out.trans HY.out.symm)
    clear hn
    go_enter Tryd.func8, Tryd.ntmps8
    go_wp2
    go_ret
    exact ⟨ret_bool HE.out, 0, rfl⟩

/-- A string's bytes, as numbers. -/
def nums (s : ByteArray) : List Int := s.data.toList.map fun b => (b.toNat : Int)
theorem nums_length (s : ByteArray) : (nums s).length = s.size := by simp [nums]
theorem nums_at (s : ByteArray) (k : Nat) (h : k < s.size) : (nums s)[k]? = some ((s[k].toNat : Nat) : Int) := by
  have h' : k < s.data.toList.length := by simpa using h
  simp only [nums, List.getElem?_map, List.getElem?_eq_getElem h', Option.map_some]
  rfl

set_option maxRecDepth 100000 in
set_option maxHeartbeats 400000 in
theorem f10_any (x : Sl) (xs : List Int) (s : ByteArray) (w : World) (hx : Bts w x xs) (hle : xs.length ≤ 4194304) :
    Calls Tryd.prog 10 #[.slice x.ao x.n x.cap, .string s] w fun e w' => e = .returned (.bool (decide (xs = nums s))) ∧ ∃ q, w' = w.drewN q := by
  have HX : Hid (x.n = xs.length) := hx.len
  have hxl : x.n ≤ 4194304 := by rw [HX.out]; exact hle
  by_cases hn : x.n = s.size
  · have h1 : x.n = s.size := hn
    have HL : Hid (s.size = xs.length) := hn.symm.trans HX.out
    have hsl : s.size ≤ 4194304 := by rw [← hn]; exact hxl
    clear hn hxl
    go_enter Tryd.func10, Tryd.ntmps10
    go_wp2
    go_loopw [5] (fun i wr => ∃ k q : Nat, k ≤ s.size ∧ i = .int .i64 k ∧ wr = w.drewN q ∧ Same xs (nums s) k) (fun i _ => s.size - (intOf i).toNat)
    case atStart => exact ⟨0, 0, Nat.zero_le _, rfl, rfl, fun j hj => by omega⟩
    case round =>
      obtain ⟨k, q, hk, rfl, rfl, hsame⟩ := hrel
      have HS : Hid (Same xs (nums s) k) := hsame
      clear hsame
      by_cases hlt : k < s.size
      · have hkx : k < xs.length := by rw [← HL.out]; exact hlt
        obtain ⟨p, hp1, hp2⟩ := hx.at (k := k) hkx
        rw [h1] at hp1
        have hky := nums_at s k hlt
        have hint : (k : Int) < (s.size : Int) := by omega
        by_cases he : xs[k] = ((s[k].toNat : Nat) : Int)
        · have HE : Hid (xs[k]? = (nums s)[k]?) := by rw [Hid, hky, List.getElem?_eq_getElem hkx, he]
          rw [he] at hp2
          clear he hky
          go_wp2
          go_quiet (fail)
          go_wp2
          exact ⟨⟨k + 1, q + nq, by omega, by go_num, rfl, fun j hj => by
            by_cases e : j = k
            · subst e; exact HE.out
            · exact HS.out j (by omega)⟩, by simp [intOf]; omega⟩
        · have hd : (xs[k] != ((s[k].toNat : Nat) : Int)) = true := by rw [bne_iff_ne]; exact he
          have HE : Hid (false = decide (xs = nums s)) := not_same (k := k) (by rw [List.getElem?_eq_getElem hkx, hky]; intro e; exact he (Option.some.inj e))
          clear he hky
          go_wp2
          go_quiet (fail)
          go_wp2
          go_ret
          exact ⟨ret_bool HE.out, q + nq, by rw [World.drewN_drewN]⟩
      · have HE : Hid (true = decide (xs = nums s)) := same_all HS.out (by rw [← HL.out]; omega) (by rw [nums_length]; omega)
        go_wp2
        go_ret
        exact ⟨ret_bool HE.out, q, rfl⟩
  · have hb : ((x.n : Int) != (s.size : Int)) = true := by rw [bne_iff_ne]; omega
    have HE : Hid (false = decide (xs = nums s)) := by
      rw [Hid, eq_comm, decide_eq_false_iff_not]
      rintro rfl
      exact hn (HX.out.trans (nums_length s))
    clear hn
    go_enter Tryd.func10, Tryd.ntmps10
    go_wp2
    go_ret
    exact ⟨ret_bool HE.out, 0, rfl⟩
end Go.Proofs.Qxb6628479aDoor
