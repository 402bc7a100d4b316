/-
  Seat b6628479aD: MarshalJSON (function 5), walked: it writes 'text', without error.
-/
import Derived.Test.Qxb6628479aDoorDecode
import Derived.Lib.SlBytesConst
namespace Go.Proofs.Qxb6628479aDoor
open Go.RowKit

/-- The library's table stands in every world that has only grown. -/
def Tab (w : World) : Prop := Lib.TabIs Tryd.prog w "internal/strconv.uint64pow10" .u64 Lib.pow10Tab
theorem gT : Tryd.prog.globalNamed "internal/strconv.uint64pow10" = some 0 := by kernel_rfl

theorem Tab.later {w w' : World} (h : Tab w) (hb : Below w.heap.size w w') : Tab w' := by
  unfold Tab Lib.TabIs World.var? at h ⊢
  rw [gT] at h ⊢
  simp only [Option.bind_some] at h ⊢
  have hlt : 0 < w.heap.size := by
    rcases Nat.lt_or_ge 0 w.heap.size with h1 | h1
    · exact h1
    · rw [Array.getElem?_eq_none h1] at h; cases h
  rw [hb.block 0 hlt]
  exact h

theorem dig_bytes (n : Nat) : Lib.byteCells (Lib.decDigits n) = byteVals (dig n) := by
  simp [Lib.byteCells, byteVals, dig]

theorem lit_bts {w : World} {B : Nat} {l : List Int} {cs : Array Value} (hB : B = w.heap.size) (hc : cs.toList = byteVals l) (hl2 : l.length = 8) : Bts (w.alloc (.cells cs 5 (8, 9))) ⟨some ⟨B, 0, none⟩, 8, 8⟩ l := by
  subst hB
  refine ⟨hl2.symm, Nat.le_refl _, (fun e => by cases e), Rd.ofBlock (cur := cs) (e := 5) (by rw [heap_alloc_get, if_pos rfl]) (fun k hk => ?_)⟩
  rw [← hc]
  simp

set_option maxRecDepth 100000 in
set_option maxHeartbeats 400000 in
theorem f5_new (n : Int) (w : World) :
    Calls Tryd.prog 5 #[.agg #[.bool true, .int .u64 n]] w fun e w' => ∃ r : Sl, e = .returned (.tuple #[.slice r.ao r.n r.cap, .nilIface]) ∧ Bts w' r NEW ∧ Below w.heap.size w w' := by
  have hcv := Lib.run_convert_bytes_const (P := Tryd.prog) (w.alloc (.cells #[.bool true, .int .u64 n] 28)) 23 5 #[.int .u8 34, .int .u8 110, .int .u8 101, .int .u8 119, .int .u8 101, .int .u8 115, .int .u8 116, .int .u8 34] 8 8 Tryd.underlying23 Tryd.underlying5
  rw [World.size_alloc] at hcv
  go_enter Tryd.func5, Tryd.ntmps5
  go_wp2
  go_ret2
  exact ⟨⟨some ⟨w.heap.size + 1, 0, none⟩, 8, 8⟩, rfl, lit_bts (by simp) (by rfl) (by rfl), ((Below.refl _ _).alloc (Nat.le_refl _) _).alloc (by simp) _⟩

set_option maxRecDepth 100000 in
set_option maxHeartbeats 400000 in
theorem f5_old (w : World) :
    Calls Tryd.prog 5 #[.agg #[.bool false, .int .u64 0]] w fun e w' => ∃ r : Sl, e = .returned (.tuple #[.slice r.ao r.n r.cap, .nilIface]) ∧ Bts w' r OLD ∧ Below w.heap.size w w' := by
  have hcv := Lib.run_convert_bytes_const (P := Tryd.prog) (w.alloc (.cells #[.bool false, .int .u64 0] 28)) 23 5 #[.int .u8 34, .int .u8 111, .int .u8 108, .int .u8 100, .int .u8 101, .int .u8 115, .int .u8 116, .int .u8 34] 8 8 Tryd.underlying23 Tryd.underlying5
  rw [World.size_alloc] at hcv
  go_enter Tryd.func5, Tryd.ntmps5
  go_wp2
  go_ret2
  exact ⟨⟨some ⟨w.heap.size + 1, 0, none⟩, 8, 8⟩, rfl, lit_bts (by simp) (by rfl) (by rfl), ((Below.refl _ _).alloc (Nat.le_refl _) _).alloc (by simp) _⟩

set_option maxRecDepth 100000 in
set_option maxHeartbeats 400000 in
theorem f5_dig (n : Nat) (w : World) (h2 : n < 18446744073709551616) (h0 : ((n : Int) == 0) = false) (ht : Tab w) :
    Calls Tryd.prog 5 #[.agg #[.bool false, .int .u64 (n : Int)]] w fun e w' => ∃ r : Sl, e = .returned (.tuple #[.slice r.ao r.n r.cap, .nilIface]) ∧ Bts w' r (dig n) ∧ Below w.heap.size w w' := by
  have hb0 : Below w.heap.size w (w.alloc (.cells #[.bool false, .int .u64 (n : Int)] 28)) := (Below.refl _ _).alloc (Nat.le_refl _) _
  have k9 := f9_any n h2 (w.alloc (.cells #[.bool false, .int .u64 (n : Int)] 28)) (ht.later hb0)
  clear h2 ht
  go_enter Tryd.func5, Tryd.ntmps5
  go_wp2_with fail
  refine k9.mono ?_
  rintro e w' ⟨v', rfl, h1, h3⟩
  obtain ⟨⟨ro, rn, rc⟩, rfl, g1, g2, g3, g4⟩ := row_of_owns h1
  simp only at g1
  subst g1
  clear k9
  unfold Sl.val
  go_wp2
  go_ret2
  refine ⟨⟨ro, _, rc⟩, rfl, ⟨by simp [dig], g2, g3, by rw [← dig_bytes]; exact g4⟩, hb0.trans (h3.mono (by simp))⟩

/-- MarshalJSON WRITES 'text', without error. -/
theorem f5_any (b : Bool) (n : Nat) (w : World) (h2 : n < 18446744073709551616) (ht : Tab w) :
    Calls Tryd.prog 5 #[.agg #[.bool b, .int .u64 (n : Int)]] w fun e w' => ∃ r : Sl, e = .returned (.tuple #[.slice r.ao r.n r.cap, .nilIface]) ∧ Bts w' r (text b n) ∧ Below w.heap.size w w' := by
  cases b
  · by_cases h0 : n = 0
    · subst h0
      exact f5_old w
    · rw [text_pos h0]
      exact f5_dig n w h2 (beq_eq_false_iff_ne.2 (by omega)) ht
  · exact f5_new n w
end Go.Proofs.Qxb6628479aDoor
