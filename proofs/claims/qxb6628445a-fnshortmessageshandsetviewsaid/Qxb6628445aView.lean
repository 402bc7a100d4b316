/-
  Seat b6628445a: function 3 (FnShortMessagesHandsetView), whatever it is called with.
-/
import Derived.Test.Qxb6628445aView1
import Derived.Test.Qxb6628445aView2
import Derived.Test.Qxb6628445aView3
import Derived.Deep.QuietTactic
import Derived.BigQuiet
import Derived.WalkSmall
import Derived.Deep.RegionWith
namespace Go.Proofs.Qxb6628445a
open Go.RowKit

set_option maxRecDepth 100000 in
set_option maxHeartbeats 1000000 in
theorem f3_zero (s : ByteArray) (dc ref : Int) (ao : Option Addr) (rs : List Sl) (n cap : Nat) (rows : List (List Int)) (a0 : Addr) (nh hc : Nat) (hx : List Int) (w : World) (hh : Bts w ⟨some a0, nh, hc⟩ hx) (hm : Mat w ao rs rows) (hn : n = rs.length) (hlm : n ≤ maxLen) (hn0 : ((n : Int) == 0) = true) :
    Calls Try.prog 3 #[.string s, .int .u8 dc, .slice ao n cap, .slice (some a0) nh hc, .int .u8 ref] w fun e w' => e = .returned (.bool true) ∧ Below w.heap.size w w' := by
  have hne : ∀ W : World, (binOp .neq 23 (.slice (some a0) nh hc) (.slice none 0 0)).run Try.prog W = .ok (.bool true) W := fun W => run_neq_slice_nil_any (P := Try.prog) W 23 5 (some a0) nh hc 0 0 Try.underlying23
  have HL : Hid (n = rs.length) := hn
  clear hn
  go_enter Try.func3, Try.ntmps3
  go_wp2_with fail
  refine (f5_any s dc ref ao rs n cap rows ⟨some a0, nh, hc⟩ hx w hm HL.out hh.len hlm).mono ?_
  rintro e w ⟨hg, rfl⟩
  rcases gate_cases hg with rfl | ⟨rfl, _⟩
  · clear hg
    go_wp2
    go_ret
    exact ⟨rfl, Below.refl _ _⟩
  clear hg
  go_wp2_with fail
  refine (f6_any s ao rs n cap rows ⟨some a0, nh, hc⟩ _ hm HL.out hlm).mono ?_
  rintro e w ⟨hg, rfl⟩
  rcases gate_cases hg with rfl | ⟨rfl, _⟩
  · clear hg
    go_wp2
    go_ret
    exact ⟨rfl, Below.refl _ _⟩
  clear hg
  go_wp2
  go_ret
  exact ⟨rfl, Below.refl _ _⟩

/-- FUNCTION 3, WHATEVER IT IS CALLED WITH. -/
theorem f3_any (s : ByteArray) (dc ref : Int) (ao : Option Addr) (rs : List Sl) (cap : Nat) (rows : List (List Int)) (h : Sl) (hx : List Int) (w : World) (hh : Bts w h hx) (hm : Mat w ao rs rows) (hlm : rs.length ≤ maxLen) :
    Calls Try.prog 3 #[.string s, .int .u8 dc, .slice ao rs.length cap, .slice h.ao h.n h.cap, .int .u8 ref] w fun e w' => e = .returned (.bool true) ∧ Below w.heap.size w w' := by
  obtain ⟨ho, nh, hc⟩ := h
  cases ho with
  | some a0 =>
    cases hn0 : ((rs.length : Int) == 0) with
    | true => exact f3_zero s dc ref ao rs rs.length cap rows a0 nh hc hx w hh hm rfl hlm hn0
    | false => exact f3_hdr s dc ref ao rs rs.length cap rows a0 nh hc hx w hh hm rfl hlm hn0
  | none =>
    have h1 : hc = 0 := hh.bare rfl
    have h2 : nh ≤ hc := hh.room
    obtain rfl : nh = 0 := by omega
    subst h1
    cases hn1 : ((rs.length : Int) == 1) with
    | true => exact f3_one s dc ref ao rs rs.length cap rows w hm rfl hlm hn1
    | false => exact f3_mul s dc ref ao rs rs.length cap rows w hm rfl hlm hn1

end Go.Proofs.Qxb6628445a
