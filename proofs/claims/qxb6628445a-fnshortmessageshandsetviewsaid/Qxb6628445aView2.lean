/-
  Seat b6628445a: function 3, no header, one part: walked.
-/
import Derived.Test.Qxb6628445aView0
import Derived.Deep.QuietTactic
import Derived.BigQuiet
import Derived.WalkSmall
import Derived.Deep.RegionWith
namespace Go.Proofs.Qxb6628445a
open Go.RowKit

set_option maxRecDepth 100000 in
set_option maxHeartbeats 1000000 in
theorem f3_one (s : ByteArray) (dc ref : Int) (ao : Option Addr) (rs : List Sl) (n cap : Nat) (rows : List (List Int)) (w : World) (hm : Mat w ao rs rows) (hn : n = rs.length) (hlm : n ≤ maxLen) (hn1 : ((n : Int) == 1) = true) :
    Calls Try.prog 3 #[.string s, .int .u8 dc, .slice ao n cap, .slice none 0 0, .int .u8 ref] w fun e w' => e = .returned (.bool true) ∧ Below w.heap.size w w' := by
  have hne : ∀ W : World, (binOp .neq 23 (.slice none 0 0) (.slice none 0 0)).run Try.prog W = .ok (.bool false) W := fun W => run_neq_slice_nil_any (P := Try.prog) W 23 5 none 0 0 0 0 Try.underlying23
  have hh : Bts w ⟨none, 0, 0⟩ [] := ⟨rfl, Nat.le_refl _, fun _ => rfl, Rd.nil _ _⟩
  have HL : Hid (n = rs.length) := hn
  have HR : Hid (n = rows.length) := hn.trans hm.len
  clear hn
  go_enter Try.func3, Try.ntmps3
  go_wp2_with fail
  refine (f5_any s dc ref ao rs n cap rows ⟨none, 0, 0⟩ [] w hm HL.out rfl hlm).mono ?_
  rintro e w ⟨hg, rfl⟩
  rcases gate_cases hg with rfl | ⟨rfl, hS⟩
  · clear hg
    go_wp2
    go_ret
    exact ⟨rfl, Below.refl _ _⟩
  clear hg
  have hle : n ≤ 1048576 := by rw [HL.out]; exact hS.1
  go_wp2_with fail
  refine (f6_any s ao rs n cap rows ⟨none, 0, 0⟩ _ hm HL.out hlm).mono ?_
  rintro e w ⟨hg, rfl⟩
  rcases gate_cases hg with rfl | ⟨rfl, _⟩
  · clear hg
    go_wp2
    go_ret
    exact ⟨rfl, Below.refl _ _⟩
  clear hg
  go_wp2_with fail
  have k7 := f7_any ao rs cap rows w hm hS.1 hS.2.2
  rw [← HL.out] at k7
  refine k7.mono ?_
  clear k7
  rintro e w1 ⟨ao1, rs1, cap1, he, hl1, hm1, hb1⟩
  rw [hl1] at he
  subst he
  have HL1 : Hid (n = rs1.length) := hl1.symm
  clear hl1
  go_wp2_with fail
  refine (f8_any ⟨none, 0, 0⟩ [] w1 (hh.later hb1) (by simp)).mono ?_
  rintro e w2 ⟨⟨rao, rn, rc⟩, rfl, hr2, hrn, hb2⟩
  obtain ⟨rfl, rfl, rfl⟩ : rao = none ∧ rn = 0 ∧ rc = 0 := by
    have e1 : rao = none := by simpa using hrn
    have e2 : rc = 0 := hr2.bare e1
    have e3 : rn ≤ rc := hr2.room
    exact ⟨e1, by omega, e2⟩
  clear hrn
  have hm2 := hm1.later hb2
  have hbw2 := below_then hb1 hb2
  clear hm1 hb1 hb2
  go_wp2_with fail
  have k7 := f7_any ao1 rs1 cap1 rows w2 hm2 (by rw [← HL1.out]; exact hle) hS.2.2
  rw [← HL1.out] at k7
  refine k7.mono ?_
  clear k7
  rintro e w3 ⟨ao3, rs3, cap3, he, hl3, hm3, hb3⟩
  rw [hl3] at he
  subst he
  have HL3 : Hid (n = rs3.length) := hl3.symm
  clear hl3
  go_wp2_with fail
  refine (f8_any ⟨none, 0, 0⟩ [] w3 ⟨rfl, Nat.le_refl _, fun _ => rfl, Rd.nil _ _⟩ (by simp)).mono ?_
  rintro e w4 ⟨⟨rao, rn, rc⟩, rfl, hr4, hrn, hb4⟩
  obtain ⟨rfl, rfl, rfl⟩ : rao = none ∧ rn = 0 ∧ rc = 0 := by
    have e1 : rao = none := by simpa using hrn
    have e2 : rc = 0 := hr4.bare e1
    have e3 : rn ≤ rc := hr4.room
    exact ⟨e1, by omega, e2⟩
  clear hrn
  go_wp2_with fail
  have hS1 : Small rs1 rows [] := ⟨by rw [← HL1.out]; exact hle, by simp, hS.2.2⟩
  have hb5 : Below w4.heap.size w4 (w4.alloc (.cells #[.string s, .int .u8 dc, .slice ao1 n cap1, .slice none 0 0] 30)) := (Below.refl _ _).alloc (Nat.le_refl _) _
  have hbox : (w4.alloc (.cells #[.string s, .int .u8 dc, .slice ao1 n cap1, .slice none 0 0] 30)).heap[w4.heap.size]? = some (.cells #[.string s, .int .u8 dc, .slice ao1 n cap1, .slice none 0 0] 30 (0, 0)) := by rw [heap_alloc_get, if_pos rfl]
  have hm5 := ((hm2.later hb3).later hb4).later hb5
  have hh5 : Bts (w4.alloc (.cells #[.string s, .int .u8 dc, .slice ao1 n cap1, .slice none 0 0] 30)) ⟨none, 0, 0⟩ [] := ⟨rfl, Nat.le_refl _, fun _ => rfl, Rd.nil _ _⟩
  refine (f9_any w4.heap.size ref ⟨none, 0, 0⟩ [] ao1 rs1 cap1 rows _ hm5 hh5 (by rw [← HL1.out]; exact (box4 hbox).1) (box4 hbox).2 (fun h => by cases h) hS1).mono ?_
  rintro e w6 ⟨ra, rsA, rcA, he, hmA', hb6⟩
  have hmA : Mat w6 ra rsA (msgs true [] rows ref) := hmA'
  clear hmA'
  have hm6 := ((hm3.later hb4).later hb5).later hb6
  have hb06 : Below w.heap.size w w6 := below_then (below_then (below_then (below_then hbw2 hb3) hb4) hb5) hb6
  have hr1 : rows.length = 1 := by rw [← HR.out]; have := beq_iff_eq.1 hn1; omega
  rw [msgs_one hr1] at hmA
  have hlA : rsA.length = 1 := hmA.len
  rw [hlA] at he
  subst he
  have hr0 : 0 < rows.length := by omega
  have hhd : rows.headD [] = rows[0] := by cases rows <;> simp at hr0 ⊢
  rw [hhd] at hmA
  have hiA : 0 < rsA.length := by omega
  have hi3 : 0 < rs3.length := by rw [← HL3.out, HR.out]; exact hr0
  obtain ⟨pa, hpa1, hpa2⟩ := hmA.at rcA (k := 0) hiA
  obtain ⟨pb, hpb1, hpb2⟩ := hm6.at cap3 (k := 0) hi3
  rw [hlA, show ((0 : Nat) : Int) = 0 from rfl] at hpa1
  rw [← HL3.out, show ((0 : Nat) : Int) = 0 from rfl] at hpb1
  have hta := hmA.each 0 hiA (by simp)
  have htb := hm6.each 0 hi3 hr0
  simp only [List.getElem_cons_zero] at hta
  have hll : (rows[0]).length ≤ 1048576 := hS.2.2 _ (List.getElem_mem hr0)
  generalize rsA[0] = qa at *
  generalize rs3[0] = qb at *
  generalize rows[0] = X at *
  have hc : ∀ q, Calls Try.prog 10 #[.slice qa.ao qa.n qa.cap, .slice qb.ao qb.n qb.cap] (w6.drewN q) fun e w' => e = .returned (.bool true) ∧ ∃ m, w' = (w6.drewN q).drewN m := fun q => f10_any qa qb X _ (hta.drewN q) (htb.drewN q) (by omega)
  have HC : Hid (∀ q, Calls Try.prog 10 #[.slice qa.ao qa.n qa.cap, .slice qb.ao qb.n qb.cap] (w6.drewN q) fun e w' => e = .returned (.bool true) ∧ ∃ m, w' = (w6.drewN q).drewN m) := hc
  clear hc hb3 hb4 hb5 hb6 hbox hh5 hm5 hlA hm2 hm3 hr4 hh hr1 hhd
  go_wp2
  go_quiet ((go_at_call 10; exact Calls.quiet_of (HC.out _)))
  go_wp2
  go_ret
  exact ⟨rfl, below_drewN hb06 _⟩

end Go.Proofs.Qxb6628445a
