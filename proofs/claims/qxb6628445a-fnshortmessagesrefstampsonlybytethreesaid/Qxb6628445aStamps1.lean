/-
  Seat b6628445a: function 4, no header, not one part: walked.
-/
import Derived.Test.Qxb6628445aStamps0
import Derived.Deep.QuietTactic
import Derived.BigQuiet
import Derived.WalkSmall
namespace Go.Proofs.Qxb6628445a
open Go.RowKit

set_option maxRecDepth 100000 in
set_option maxHeartbeats 1000000 in
theorem f4_mul (s : ByteArray) (dc a b : Int) (ao : Option Addr) (rs : List Sl) (n cap : Nat) (rows : List (List Int)) (w : World) (hm : Mat w ao rs rows) (hn : n = rs.length) (hlm : n ≤ maxLen) (hn1 : ((n : Int) != 1) = true) :
    Calls Try.prog 4 #[.string s, .int .u8 dc, .slice ao n cap, .slice none 0 0, .int .u8 a, .int .u8 b] w fun e w' => e = .returned (.bool true) ∧ Below w.heap.size w w' := by
  have hne : ∀ W : World, (binOp .neq 23 (.slice none 0 0) (.slice none 0 0)).run Try.prog W = .ok (.bool false) W := fun W => run_neq_slice_nil_any (P := Try.prog) W 23 5 none 0 0 0 0 Try.underlying23
  have heq : ∀ W : World, (binOp .eql 23 (.slice none 0 0) (.slice none 0 0)).run Try.prog W = .ok (.bool true) W := fun W => Lib.run_eql_slice_nil (P := Try.prog) W 23 5 none 0 0 0 0 Try.underlying23
  obtain ⟨i0, hi, hz0, hz1, hz2⟩ := info_parts info3
  have HL : Hid (n = rs.length) := hn
  have HR : Hid (n = rows.length) := hn.trans hm.len
  clear hn
  have hh : Bts w ⟨none, 0, 0⟩ [] := ⟨rfl, Nat.le_refl _, fun _ => rfl, Rd.nil _ _⟩
  go_enter Try.func4, Try.ntmps4
  go_wp2_with fail
  refine (f12_any s dc a b ao rs n cap rows ⟨none, 0, 0⟩ [] w hm HL.out rfl hlm).mono ?_
  rintro e w ⟨hg, rfl⟩
  rcases gate_cases hg with rfl | ⟨rfl, hS⟩
  · clear hg
    go_wp2
    go_ret
    exact ⟨rfl, Below.refl _ _⟩
  clear hg
  have hle : n ≤ 1048576 := by rw [HL.out]; exact hS.1
  go_wp2_with fail
  refine (f6_any s ao rs n cap rows ⟨none, 0, 0⟩ _ hm HL.out hlm).mono ?_
  rintro e w ⟨hg, rfl⟩
  rcases gate_cases hg with rfl | ⟨rfl, _⟩
  · clear hg
    go_wp2
    go_ret
    exact ⟨rfl, Below.refl _ _⟩
  clear hg
  go_wp2_with fail
  have k7 := f7_any ao rs cap rows w hm hS.1 hS.2.2
  rw [← HL.out] at k7
  refine k7.mono ?_
  clear k7
  rintro e w1 ⟨ao1, rs1, cap1, he, hl1, hm1, hb1⟩
  rw [hl1] at he
  subst he
  have HL1 : Hid (n = rs1.length) := hl1.symm
  clear hl1
  go_wp2_with fail
  refine (f8_any ⟨none, 0, 0⟩ [] w1 (hh.later hb1) (by simp)).mono ?_
  rintro e w2 ⟨⟨rao, rn, rc⟩, rfl, hr2, hrn, hb2⟩
  obtain ⟨rfl, rfl, rfl⟩ : rao = none ∧ rn = 0 ∧ rc = 0 := by
    have e1 : rao = none := by simpa using hrn
    have e2 : rc = 0 := hr2.bare e1
    have e3 : rn ≤ rc := hr2.room
    exact ⟨e1, by omega, e2⟩
  have hm2 := hm1.later hb2
  have hbw2 : Below w.heap.size w w2 := hb1.trans (hb2.mono hb1.size)
  clear hrn hm1 hb1 hb2
  go_wp2_with (first
    | (at_make; refine wpList_make_full _ rfl _ _ 36 rfl w2.heap.size 3 i0 (.int .i64 0) 1 Try.underlying36 hi hz0 hz1 .i64 .i64 _ _ n rfl rfl rfl rfl (by rw [hz2]; omega) (by unfold maxLen; omega) (Nat.le_refl _) ?_; intro w3 hown3 hg3; have hb3 : Below w2.heap.size w2 w3 := (Below.refl _ _).grown hg3 (Nat.le_refl _) (fun j hj => by cases hj))
    | go_in)
  go_loopw [14] (fun i wr => ∃ k : Nat, k ≤ n ∧ i = .int .i64 k ∧ Filled wr w2.heap.size 3 n k (lenVals rows) ∧ Below w2.heap.size w2 wr) (fun i _ => n - (intOf i).toNat)
  case atStart => exact ⟨0, Nat.zero_le _, rfl, filled_start hown3, hb3⟩
  case round =>
    obtain ⟨k, hk, rfl, hf, hb⟩ := hrel
    by_cases hlt : k < n
    · obtain ⟨⟨v, hc1⟩, hc2⟩ := hf.at hlt
      obtain ⟨p, hp1, hp2⟩ := (hm2.later hb).at cap1 (k := k) (by rw [← HL1.out]; exact hlt)
      rw [← HL1.out] at hp1
      have hks : k < rs1.length := by rw [← HL1.out]; exact hlt
      have hkr : k < rows.length := by rw [← HR.out]; exact hlt
      have HRL : Hid ((rs1[k]).n = (rows[k]).length) := (hm2.each k hks hkr).len
      generalize rs1[k] = q at *
      go_wp2
      exact ⟨⟨k + 1, by omega, by go_num, hf.step hlt (by simp [lenVals, hkr, HRL.out]), hb.setCell (by simp) _⟩, by simp [intOf]; omega⟩
    · go_wp2_with fail
      have hS1 : Small rs1 rows [] := ⟨by rw [← HL1.out]; exact hle, by simp, hS.2.2⟩
      have hb4 : Below wr.heap.size wr (wr.alloc (.cells #[.string s, .int .u8 dc, .slice ao1 n cap1, .slice none 0 0] 30)) := (Below.refl _ _).alloc (Nat.le_refl _) _
      have hbox : (wr.alloc (.cells #[.string s, .int .u8 dc, .slice ao1 n cap1, .slice none 0 0] 30)).heap[wr.heap.size]? = some (.cells #[.string s, .int .u8 dc, .slice ao1 n cap1, .slice none 0 0] 30 (0, 0)) := by rw [heap_alloc_get, if_pos rfl]
      have hm4 := (hm2.later hb).later hb4
      have hh4 : Bts (wr.alloc (.cells #[.string s, .int .u8 dc, .slice ao1 n cap1, .slice none 0 0] 30)) ⟨none, 0, 0⟩ [] := ⟨rfl, Nat.le_refl _, fun _ => rfl, Rd.nil _ _⟩
      refine (f9_any wr.heap.size a ⟨none, 0, 0⟩ [] ao1 rs1 cap1 rows _ hm4 hh4 (by rw [← HL1.out]; exact (box4 hbox).1) (box4 hbox).2 (fun h => by cases h) hS1).mono ?_
      rintro e w5 ⟨ra, rsA, rcA, he, hmA', hb5⟩
      have hmA : Mat w5 ra rsA (msgs true [] rows a) := hmA'
      clear hmA'
      have hlA : rsA.length = n := by rw [hmA.len, msgs_mul (ne_of_bne HR.out hn1)]; simp [← HR.out]
      rw [hlA] at he
      subst he
      have hbox5 := hbox
      rw [← hb5.block _ (lt_of_block hbox)] at hbox5
      go_wp2_with fail
      refine (f9_any wr.heap.size b ⟨none, 0, 0⟩ [] ao1 rs1 cap1 rows _ (hm4.later hb5) (hh4.later hb5) (by rw [← HL1.out]; exact (box4 hbox5).1) (box4 hbox5).2 (fun h => by cases h) hS1).mono ?_
      rintro e w6 ⟨rb, rsB, rcB, he, hmB', hb6⟩
      have hmB : Mat w6 rb rsB (msgs true [] rows b) := hmB'
      clear hmB'
      have hlB : rsB.length = n := by rw [hmB.len, msgs_mul (ne_of_bne HR.out hn1)]; simp [← HR.out]
      rw [hlB] at he
      subst he
      have hmA6 := hmA.later hb6
      have hf6 := ((hf.later hb4).later hb5).later hb6
      have hkn : n ≤ k := by omega
      have hb26 : Below w.heap.size w w6 := below_then (below_then (below_then (below_then hbw2 hb) hb4) hb5) hb6
      rw [msgs_mul (ne_of_bne HR.out hn1)] at hmA6 hmB
      have HA : Hid (rsA.length = n) := hlA
      have HB : Hid (rsB.length = n) := hlB
      clear hmA hb5 hb6 hbox hbox5 hh4 hm4 hb4 hlA hlB hf hb hm2 hown3 hg3 hb3 hne heq
      go_wp2
      go_loopw [21] (fun v wv => ∃ i : Nat, i ≤ n ∧ v = .int .i64 i ∧ Below w6.heap.size w6 wv) (fun v _ => n - (intOf v).toNat)
      case atStart => exact ⟨0, Nat.zero_le _, rfl, Below.refl _ _⟩
      case round =>
        obtain ⟨i, hi, rfl, hbv⟩ := hrel
        by_cases hil : i < n
        · have hmAv := hmA6.later hbv
          have hmBv := hmB.later hbv
          obtain ⟨pa, hpa1, hpa2⟩ := hmAv.at rcA (k := i) (by rw [HA.out]; exact hil)
          obtain ⟨pb, hpb1, hpb2⟩ := hmBv.at rcB (k := i) (by rw [HB.out]; exact hil)
          rw [HA.out] at hpa1
          rw [HB.out] at hpb1
          have hir : i < rows.length := by rw [← HR.out]; exact hil
          have hta := hmAv.each i (by rw [HA.out]; exact hil) (by simpa using hir)
          have htb := hmBv.each i (by rw [HB.out]; exact hil) (by simpa using hir)
          simp only [List.getElem_mapIdx] at hta htb
          have hlc : wr.cell? ⟨w2.heap.size, i, none⟩ = some (.int .i64 ((rows[i]).length : Int)) := lens_cell (hf6.later hbv) (by omega) hir
          have hll : (rows[i]).length ≤ 1048576 := hS.2.2 _ (List.getElem_mem hir)
          have hiA : i < rsA.length := by rw [HA.out]; exact hil
          have hiB : i < rsB.length := by rw [HB.out]; exact hil
          have fa := hdr_facts a b rows.length i rows[i]
          have hna := hta.len
          have hnb := htb.len
          generalize (rows[i]).length = L at *
          generalize rsA[i] = qa at *
          generalize rsB[i] = qb at *
          generalize hdr a rows.length i ++ rows[i] = XA at *
          generalize hdr b rows.length i ++ rows[i] = XB at *
          have hqa : qa.n = L + 6 := hna.trans fa.1
          have hqb : qb.n = L + 6 := hnb.trans fa.2.1
          have FA : Hid (_ ∧ _) := fa
          clear fa hna hnb
          go_wp2
          go_loopw [23] (fun v wv => ∃ k2 : Nat, k2 ≤ L + 6 ∧ v = .int .i64 k2 ∧ Below wr.heap.size wr wv) (fun v _ => L + 6 - (intOf v).toNat)
          case atStart => exact ⟨0, Nat.zero_le _, rfl, Below.refl _ _⟩
          case round =>
            obtain ⟨k2, hk2, rfl, hbi⟩ := hrel
            have ya := (hbi.cell (World.block_lt_of_cell? _ _ hpa2)).trans hpa2
            have yb := (hbi.cell (World.block_lt_of_cell? _ _ hpb2)).trans hpb2
            rw [hqa] at ya
            rw [hqb] at yb
            by_cases hkl : k2 < L + 6
            · by_cases h3 : k2 = 3
              · subst h3
                obtain ⟨xa, hxa1, hxa2⟩ := (hta.later hbi).at (k := 3) (by rw [FA.out.1]; exact hkl)
                obtain ⟨xb, hxb1, hxb2⟩ := (htb.later hbi).at (k := 3) (by rw [FA.out.2.1]; exact hkl)
                rw [get_of FA.out.2.2.1] at hxa2
                rw [get_of FA.out.2.2.2.1] at hxb2
                rw [hqa, show ((3 : Nat) : Int) = 3 from rfl] at hxa1
                rw [hqb, show ((3 : Nat) : Int) = 3 from rfl] at hxb1
                go_wp2
                exact ⟨⟨4, by omega, rfl, hbi⟩, by simp [intOf] <;> omega⟩
              · have h3' : ((k2 : Int) == 3) = false := beq_eq_false_iff_ne.2 (by omega)
                obtain ⟨xa, hxa1, hxa2⟩ := (hta.later hbi).at (k := k2) (by rw [FA.out.1]; exact hkl)
                obtain ⟨xb, hxb1, hxb2⟩ := (htb.later hbi).at (k := k2) (by rw [FA.out.2.1]; exact hkl)
                rw [get_eq (FA.out.2.2.2.2 k2 h3) (hk' := by rw [FA.out.2.1]; exact hkl)] at hxa2
                rw [hqa] at hxa1
                rw [hqb] at hxb1
                go_wp2
                go_quiet (fail)
                go_wp2
                exact ⟨⟨k2 + 1, by omega, by go_num, below_drewN hbi _⟩, by simp [intOf]; omega⟩
            · go_wp2
              exact ⟨⟨i + 1, by omega, by go_num, below_then hbv hbi⟩, by simp [intOf]; omega⟩
        · go_wp2
          go_ret
          exact ⟨rfl, below_then hb26 hbv⟩
end Go.Proofs.Qxb6628445a
