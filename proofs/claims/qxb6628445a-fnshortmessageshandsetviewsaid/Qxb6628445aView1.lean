/-
  Seat b6628445a: function 3, no header, not one part: walked.
-/
import Derived.Test.Qxb6628445aView0
import Derived.Deep.QuietTactic
import Derived.BigQuiet
import Derived.WalkSmall
import Derived.Deep.RegionWith
namespace Go.Proofs.Qxb6628445a
open Go.RowKit

set_option maxRecDepth 100000 in
set_option maxHeartbeats 1000000 in
theorem f3_mul (s : ByteArray) (dc ref : Int) (ao : Option Addr) (rs : List Sl) (n cap : Nat) (rows : List (List Int)) (w : World) (hm : Mat w ao rs rows) (hn : n = rs.length) (hlm : n ≤ maxLen) (hn1 : ((n : Int) == 1) = false) :
    Calls Try.prog 3 #[.string s, .int .u8 dc, .slice ao n cap, .slice none 0 0, .int .u8 ref] w fun e w' => e = .returned (.bool true) ∧ Below w.heap.size w w' := by
  have hne : ∀ W : World, (binOp .neq 23 (.slice none 0 0) (.slice none 0 0)).run Try.prog W = .ok (.bool false) W := fun W => run_neq_slice_nil_any (P := Try.prog) W 23 5 none 0 0 0 0 Try.underlying23
  have hh : Bts w ⟨none, 0, 0⟩ [] := ⟨rfl, Nat.le_refl _, fun _ => rfl, Rd.nil _ _⟩
  have HL : Hid (n = rs.length) := hn
  have HR : Hid (n = rows.length) := hn.trans hm.len
  clear hn
  go_enter Try.func3, Try.ntmps3
  go_wp2_with fail
  refine (f5_any s dc ref ao rs n cap rows ⟨none, 0, 0⟩ [] w hm HL.out rfl hlm).mono ?_
  rintro e w ⟨hg, rfl⟩
  rcases gate_cases hg with rfl | ⟨rfl, hS⟩
  · clear hg
    go_wp2
    go_ret
    exact ⟨rfl, Below.refl _ _⟩
  clear hg
  have hle : n ≤ 1048576 := by rw [HL.out]; exact hS.1
  go_wp2_with fail
  refine (f6_any s ao rs n cap rows ⟨none, 0, 0⟩ _ hm HL.out hlm).mono ?_
  rintro e w ⟨hg, rfl⟩
  rcases gate_cases hg with rfl | ⟨rfl, _⟩
  · clear hg
    go_wp2
    go_ret
    exact ⟨rfl, Below.refl _ _⟩
  clear hg
  go_wp2_with fail
  have k7 := f7_any ao rs cap rows w hm hS.1 hS.2.2
  rw [← HL.out] at k7
  refine k7.mono ?_
  clear k7
  rintro e w1 ⟨ao1, rs1, cap1, he, hl1, hm1, hb1⟩
  rw [hl1] at he
  subst he
  have HL1 : Hid (n = rs1.length) := hl1.symm
  clear hl1
  go_wp2_with fail
  refine (f8_any ⟨none, 0, 0⟩ [] w1 (hh.later hb1) (by simp)).mono ?_
  rintro e w2 ⟨⟨rao, rn, rc⟩, rfl, hr2, hrn, hb2⟩
  obtain ⟨rfl, rfl, rfl⟩ : rao = none ∧ rn = 0 ∧ rc = 0 := by
    have e1 : rao = none := by simpa using hrn
    have e2 : rc = 0 := hr2.bare e1
    have e3 : rn ≤ rc := hr2.room
    exact ⟨e1, by omega, e2⟩
  clear hrn
  have hm2 := hm1.later hb2
  have hbw2 := below_then hb1 hb2
  clear hm1 hb1 hb2
  go_wp2_with fail
  have k7 := f7_any ao1 rs1 cap1 rows w2 hm2 (by rw [← HL1.out]; exact hle) hS.2.2
  rw [← HL1.out] at k7
  refine k7.mono ?_
  clear k7
  rintro e w3 ⟨ao3, rs3, cap3, he, hl3, hm3, hb3⟩
  rw [hl3] at he
  subst he
  have HL3 : Hid (n = rs3.length) := hl3.symm
  clear hl3
  go_wp2_with fail
  refine (f8_any ⟨none, 0, 0⟩ [] w3 ⟨rfl, Nat.le_refl _, fun _ => rfl, Rd.nil _ _⟩ (by simp)).mono ?_
  rintro e w4 ⟨⟨rao, rn, rc⟩, rfl, hr4, hrn, hb4⟩
  obtain ⟨rfl, rfl, rfl⟩ : rao = none ∧ rn = 0 ∧ rc = 0 := by
    have e1 : rao = none := by simpa using hrn
    have e2 : rc = 0 := hr4.bare e1
    have e3 : rn ≤ rc := hr4.room
    exact ⟨e1, by omega, e2⟩
  clear hrn
  go_wp2_with fail
  have hS1 : Small rs1 rows [] := ⟨by rw [← HL1.out]; exact hle, by simp, hS.2.2⟩
  have hb5 : Below w4.heap.size w4 (w4.alloc (.cells #[.string s, .int .u8 dc, .slice ao1 n cap1, .slice none 0 0] 30)) := (Below.refl _ _).alloc (Nat.le_refl _) _
  have hbox : (w4.alloc (.cells #[.string s, .int .u8 dc, .slice ao1 n cap1, .slice none 0 0] 30)).heap[w4.heap.size]? = some (.cells #[.string s, .int .u8 dc, .slice ao1 n cap1, .slice none 0 0] 30 (0, 0)) := by rw [heap_alloc_get, if_pos rfl]
  have hm5 := ((hm2.later hb3).later hb4).later hb5
  have hh5 : Bts (w4.alloc (.cells #[.string s, .int .u8 dc, .slice ao1 n cap1, .slice none 0 0] 30)) ⟨none, 0, 0⟩ [] := ⟨rfl, Nat.le_refl _, fun _ => rfl, Rd.nil _ _⟩
  refine (f9_any w4.heap.size ref ⟨none, 0, 0⟩ [] ao1 rs1 cap1 rows _ hm5 hh5 (by rw [← HL1.out]; exact (box4 hbox).1) (box4 hbox).2 (fun h => by cases h) hS1).mono ?_
  rintro e w6 ⟨ra, rsA, rcA, he, hmA', hb6⟩
  have hmA : Mat w6 ra rsA (msgs true [] rows ref) := hmA'
  clear hmA'
  have hm6 := ((hm3.later hb4).later hb5).later hb6
  have hb06 : Below w.heap.size w w6 := below_then (below_then (below_then (below_then hbw2 hb3) hb4) hb5) hb6
  have hr1 : ¬ rows.length = 1 := by rw [← HR.out]; have := beq_eq_false_iff_ne.1 hn1; omega
  rw [msgs_mul hr1] at hmA
  have hlA : rsA.length = n := by rw [hmA.len]; simp [← HR.out]
  rw [hlA] at he
  subst he
  have HA : Hid (rsA.length = n) := hlA
  clear hb3 hb4 hb5 hb6 hbox hh5 hm5 hlA hm2 hm3 hr4 hh
  go_wp2
  go_loopw [17] (fun v wv => ∃ i : Nat, i ≤ n ∧ v = .int .i64 i ∧ Below w6.heap.size w6 wv) (fun v _ => n - (intOf v).toNat)
  case atStart => exact ⟨0, Nat.zero_le _, rfl, Below.refl _ _⟩
  case round =>
    obtain ⟨i, hi, rfl, hbv⟩ := hrel
    by_cases hil : i < n
    · have hiA : i < rsA.length := by rw [HA.out]; exact hil
      have hi3 : i < rs3.length := by rw [← HL3.out]; exact hil
      have hir : i < rows.length := by rw [← HR.out]; exact hil
      obtain ⟨pa, hpa1, hpa2⟩ := (hmA.later hbv).at rcA (k := i) hiA
      obtain ⟨pb, hpb1, hpb2⟩ := (hm6.later hbv).at cap3 (k := i) hi3
      rw [HA.out] at hpa1
      rw [← HL3.out] at hpb1
      have hta := (hmA.later hbv).each i hiA (by simpa using hir)
      have htb := (hm6.later hbv).each i hi3 hir
      simp only [List.getElem_mapIdx] at hta
      have hll : (rows[i]).length ≤ 1048576 := hS.2.2 _ (List.getElem_mem hir)
      generalize rsA[i] = qa at *
      generalize rs3[i] = qb at *
      generalize rows[i] = X at *
      obtain ⟨qo, qn, qc⟩ := qa
      cases qo with
      | none =>
        have h0 := hta.rd.1 rfl
        simp [byteVals, hdr] at h0
      | some am =>
        simp only at hpa2
        go_wp2_with fail
        refine (f11_any am qn qc ref rows.length i X _ hta hll).mono ?_
        rintro e wp ⟨r, q, rfl, rfl, hr⟩
        rw [← HR.out]
        have hpb3 : (wr.drewN q).cell? pb = some (.slice qb.ao qb.n qb.cap) := hpb2
        go_wp2_with fail
        refine (f10_any r qb X _ (hr.drewN q) (htb.drewN q) (by omega)).mono ?_
        rintro e wq ⟨rfl, q2, rfl⟩
        go_wp2
        exact ⟨⟨i + 1, by omega, by go_num, below_drewN hbv _⟩, by simp [intOf]; omega⟩
    · go_wp2
      go_ret
      exact ⟨rfl, below_then hb06 hbv⟩

end Go.Proofs.Qxb6628445a
