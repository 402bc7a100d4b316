/-
  Seat b6628445a: function 3, a header and a part: walked.
-/
import Derived.Test.Qxb6628445aView0
import Derived.Deep.QuietTactic
import Derived.BigQuiet
import Derived.WalkSmall
import Derived.Deep.RegionWith
namespace Go.Proofs.Qxb6628445a
open Go.RowKit

set_option maxRecDepth 100000 in
set_option maxHeartbeats 1000000 in
theorem f3_hdr (s : ByteArray) (dc ref : Int) (ao : Option Addr) (rs : List Sl) (n cap : Nat) (rows : List (List Int)) (a0 : Addr) (nh hc : Nat) (hx : List Int) (w : World) (hh : Bts w ⟨some a0, nh, hc⟩ hx) (hm : Mat w ao rs rows) (hn : n = rs.length) (hlm : n ≤ maxLen) (hn0 : ((n : Int) == 0) = false) :
    Calls Try.prog 3 #[.string s, .int .u8 dc, .slice ao n cap, .slice (some a0) nh hc, .int .u8 ref] w fun e w' => e = .returned (.bool true) ∧ Below w.heap.size w w' := by
  have hne : ∀ W : World, (binOp .neq 23 (.slice (some a0) nh hc) (.slice none 0 0)).run Try.prog W = .ok (.bool true) W := fun W => run_neq_slice_nil_any (P := Try.prog) W 23 5 (some a0) nh hc 0 0 Try.underlying23
  have HL : Hid (n = rs.length) := hn
  have HR : Hid (n = rows.length) := hn.trans hm.len
  clear hn
  go_enter Try.func3, Try.ntmps3
  go_wp2_with fail
  refine (f5_any s dc ref ao rs n cap rows ⟨some a0, nh, hc⟩ hx w hm HL.out hh.len hlm).mono ?_
  rintro e w ⟨hg, rfl⟩
  rcases gate_cases hg with rfl | ⟨rfl, hS⟩
  · clear hg
    go_wp2
    go_ret
    exact ⟨rfl, Below.refl _ _⟩
  clear hg
  have hle : n ≤ 1048576 := by rw [HL.out]; exact hS.1
  go_wp2_with fail
  refine (f6_any s ao rs n cap rows ⟨some a0, nh, hc⟩ _ hm HL.out hlm).mono ?_
  rintro e w ⟨hg, rfl⟩
  rcases gate_cases hg with rfl | ⟨rfl, _⟩
  · clear hg
    go_wp2
    go_ret
    exact ⟨rfl, Below.refl _ _⟩
  clear hg
  go_wp2_with fail
  have k7 := f7_any ao rs cap rows w hm hS.1 hS.2.2
  rw [← HL.out] at k7
  refine k7.mono ?_
  clear k7
  rintro e w1 ⟨ao1, rs1, cap1, he, hl1, hm1, hb1⟩
  rw [hl1] at he
  subst he
  have HL1 : Hid (n = rs1.length) := hl1.symm
  clear hl1
  go_wp2_with fail
  refine (f8_any ⟨some a0, nh, hc⟩ hx w1 (hh.later hb1) hS.2.1).mono ?_
  rintro e w2 ⟨⟨rao, np, cp⟩, rfl, hp, hrn, hb2⟩
  obtain ⟨ap, rfl⟩ : ∃ a1, rao = some a1 := by
    cases rao with
    | none => simp at hrn
    | some a1 => exact ⟨a1, rfl⟩
  clear hrn
  have hm2 := hm1.later hb2
  have hbw2 := below_then hb1 hb2
  clear hm1 hb1 hb2
  go_wp2_with fail
  have k7 := f7_any ao1 rs1 cap1 rows w2 hm2 (by rw [← HL1.out]; exact hle) hS.2.2
  rw [← HL1.out] at k7
  refine k7.mono ?_
  clear k7
  rintro e w3 ⟨ao3, rs3, cap3, he, hl3, hm3, hb3⟩
  rw [hl3] at he
  subst he
  have HL3 : Hid (n = rs3.length) := hl3.symm
  clear hl3
  go_wp2_with fail
  refine (f8_any ⟨some ap, np, cp⟩ hx w3 (hp.later hb3) hS.2.1).mono ?_
  rintro e w4 ⟨⟨rao, nq, cq⟩, rfl, hq, hrn, hb4⟩
  obtain ⟨aq, rfl⟩ : ∃ a1, rao = some a1 := by
    cases rao with
    | none => simp at hrn
    | some a1 => exact ⟨a1, rfl⟩
  clear hrn
  go_wp2_with fail
  have hS1 : Small rs1 rows hx := ⟨by rw [← HL1.out]; exact hle, hS.2.1, hS.2.2⟩
  have hb5 : Below w4.heap.size w4 (w4.alloc (.cells #[.string s, .int .u8 dc, .slice ao1 n cap1, .slice (some ap) np cp] 30)) := (Below.refl _ _).alloc (Nat.le_refl _) _
  have hbox : (w4.alloc (.cells #[.string s, .int .u8 dc, .slice ao1 n cap1, .slice (some ap) np cp] 30)).heap[w4.heap.size]? = some (.cells #[.string s, .int .u8 dc, .slice ao1 n cap1, .slice (some ap) np cp] 30 (0, 0)) := by rw [heap_alloc_get, if_pos rfl]
  have hm5 := ((hm2.later hb3).later hb4).later hb5
  have hh5 := ((hp.later hb3).later hb4).later hb5
  refine (f9_header2 w4.heap.size ref ap np cp hx ao1 rs1 n cap1 rows _ hm5 HL1.out hh5 (box4 hbox).1 (box4 hbox).2 (by have := beq_eq_false_iff_ne.1 hn0; omega) hS1).mono ?_
  rintro e w6 ⟨ra, rsA, rcA, he, hmA, hsm, hb6⟩
  have hm6 := ((hm3.later hb4).later hb5).later hb6
  have hb06 : Below w.heap.size w w6 := below_then (below_then (below_then (below_then hbw2 hb3) hb4) hb5) hb6
  have hlA : rsA.length = 1 := hmA.len
  rw [hlA] at he
  subst he
  have hr0 : 0 < rows.length := by rw [← HR.out]; have := beq_eq_false_iff_ne.1 hn0; omega
  have hhd : rows.headD [] = rows[0] := by cases rows <;> simp at hr0 ⊢
  rw [hhd] at hmA
  have hiA : 0 < rsA.length := by omega
  have hi3 : 0 < rs3.length := by rw [← HL3.out, HR.out]; exact hr0
  obtain ⟨pa, hpa1, hpa2⟩ := hmA.at rcA (k := 0) hiA
  obtain ⟨pb, hpb1, hpb2⟩ := hm6.at cap3 (k := 0) hi3
  rw [hlA, show ((0 : Nat) : Int) = 0 from rfl] at hpa1
  rw [← HL3.out, show ((0 : Nat) : Int) = 0 from rfl] at hpb1
  have hta := hmA.each 0 hiA (by simp)
  have htb := hm6.each 0 hi3 hr0
  simp only [List.getElem_cons_zero] at hta
  have hll : (rows[0]).length ≤ 1048576 := hS.2.2 _ (List.getElem_mem hr0)
  obtain ⟨am, ham⟩ := hsm _ (List.getElem_mem hiA)
  have hl2 := hS.2.1
  have hq6 := (hq.later hb5).later hb6
  have hne2 : ∀ W : World, (binOp .neq 23 (.slice (some aq) nq cq) (.slice none 0 0)).run Try.prog W = .ok (.bool true) W := fun W => run_neq_slice_nil_any (P := Try.prog) W 23 5 (some aq) nq cq 0 0 Try.underlying23
  generalize rsA[0] = qa at *
  generalize rs3[0] = qb at *
  generalize rows[0] = X at *
  obtain ⟨qo, qn, qc⟩ := qa
  obtain ⟨bo, L, bc⟩ := qb
  simp only at ham hpa2 hpb2
  subst ham
  have e1 : qn = nq + L := by
    have h1 : qn = (hx ++ X).length := hta.len
    have h2 : nq = hx.length := hq6.len
    have h3 : L = X.length := htb.len
    rw [h1, List.length_append, h2, h3]
  subst e1
  have hroom : nq + L ≤ qc := hta.room
  have hnb : nq ≤ 1048576 := by have h2 : nq = hx.length := hq6.len; omega
  have hLb : L ≤ 1048576 := by have h3 : L = X.length := htb.len; omega
  have hc1 : ∀ q, Calls Try.prog 10 #[.slice (some am) nq qc, .slice (some aq) nq cq] (w6.drewN q) fun e w' => e = .returned (.bool true) ∧ ∃ m, w' = (w6.drewN q).drewN m := fun q => f10_any ⟨some am, nq, qc⟩ ⟨some aq, nq, cq⟩ hx _ ((bts_take hta hq6.len).drewN q) (hq6.drewN q) (by omega)
  have HC1 : Hid (∀ q, Calls Try.prog 10 #[.slice (some am) nq qc, .slice (some aq) nq cq] (w6.drewN q) fun e w' => e = .returned (.bool true) ∧ ∃ m, w' = (w6.drewN q).drewN m) := hc1
  by_cases hfull : qc = nq
  · obtain rfl : L = 0 := by omega
    have hX : X = [] := List.eq_nil_of_length_eq_zero htb.len.symm
    subst hfull
    subst hX
    have hc2 : ∀ q, Calls Try.prog 10 #[.slice (some am) 0 0, .slice bo 0 bc] (w6.drewN q) fun e w' => e = .returned (.bool true) ∧ ∃ m, w' = (w6.drewN q).drewN m := fun q => f10_any ⟨some am, 0, 0⟩ ⟨bo, 0, bc⟩ [] _ ⟨rfl, Nat.le_refl _, (fun e => by cases e), Rd.nil _ _⟩ (htb.drewN q) (by simp)
    have HC2 : Hid (∀ q, Calls Try.prog 10 #[.slice (some am) 0 0, .slice bo 0 bc] (w6.drewN q) fun e w' => e = .returned (.bool true) ∧ ∃ m, w' = (w6.drewN q).drewN m) := hc2
    clear hc1 hc2 hb3 hb4 hb5 hb6 hbox hh5 hm5 hlA hm2 hm3 hh hhd hp hq hsm
    go_wp2
    go_quiet ((first | (go_at_call_of 10 aq; exact Calls.quiet_of (HC1.out _)) | (go_at_call_of 10 bo; exact Calls.quiet_of (HC2.out _))))
    go_wp2
    go_ret
    exact ⟨rfl, below_drewN hb06 _⟩
  · have hc2 : ∀ q, Calls Try.prog 10 #[.slice (some (am.add nq)) L (qc - nq), .slice bo L bc] (w6.drewN q) fun e w' => e = .returned (.bool true) ∧ ∃ m, w' = (w6.drewN q).drewN m := fun q => f10_any ⟨some (am.add nq), L, qc - nq⟩ ⟨bo, L, bc⟩ X _ ((bts_drop hta hq6.len htb.len).drewN q) (htb.drewN q) (by have h3 : L = X.length := htb.len; omega)
    have HC2 : Hid (∀ q, Calls Try.prog 10 #[.slice (some (am.add nq)) L (qc - nq), .slice bo L bc] (w6.drewN q) fun e w' => e = .returned (.bool true) ∧ ∃ m, w' = (w6.drewN q).drewN m) := hc2
    clear hc1 hc2 hb3 hb4 hb5 hb6 hbox hh5 hm5 hlA hm2 hm3 hh hhd hp hq hsm
    go_wp2
    go_quiet ((first | (go_at_call_of 10 aq; exact Calls.quiet_of (HC1.out _)) | (go_at_call_of 10 bo; exact Calls.quiet_of (HC2.out _))))
    go_wp2
    go_ret
    exact ⟨rfl, below_drewN hb06 _⟩

end Go.Proofs.Qxb6628445a
