/-
  Seat b6628445a: function 4, a header and a part: walked.
-/
import Derived.Test.Qxb6628445aStamps0
import Derived.Deep.QuietTactic
import Derived.BigQuiet
import Derived.WalkSmall
namespace Go.Proofs.Qxb6628445a
open Go.RowKit

set_option maxRecDepth 100000 in
set_option maxHeartbeats 1000000 in
theorem f4_hdr (s : ByteArray) (dc a b : Int) (ao : Option Addr) (rs : List Sl) (n cap : Nat) (rows : List (List Int)) (a0 : Addr) (nh hc : Nat) (hx : List Int) (w : World) (hh : Bts w ⟨some a0, nh, hc⟩ hx) (hm : Mat w ao rs rows) (hn : n = rs.length) (hlm : n ≤ maxLen) (hn0 : ((n : Int) == 0) = false) :
    Calls Try.prog 4 #[.string s, .int .u8 dc, .slice ao n cap, .slice (some a0) nh hc, .int .u8 a, .int .u8 b] w fun e w' => e = .returned (.bool true) ∧ Below w.heap.size w w' := by
  have hne : ∀ W : World, (binOp .neq 23 (.slice (some a0) nh hc) (.slice none 0 0)).run Try.prog W = .ok (.bool true) W := fun W => run_neq_slice_nil_any (P := Try.prog) W 23 5 (some a0) nh hc 0 0 Try.underlying23
  obtain ⟨i0, hi, hz0, hz1, hz2⟩ := info_parts info3
  have HL : Hid (n = rs.length) := hn
  have HR : Hid (n = rows.length) := hn.trans hm.len
  clear hn
  have hr0 : 0 < rows.length := by rw [← HR.out]; have := beq_eq_false_iff_ne.1 hn0; omega
  go_enter Try.func4, Try.ntmps4
  go_wp2_with fail
  refine (f12_any s dc a b ao rs n cap rows ⟨some a0, nh, hc⟩ hx w hm HL.out hh.len hlm).mono ?_
  rintro e w ⟨hg, rfl⟩
  rcases gate_cases hg with rfl | ⟨rfl, hS⟩
  · clear hg
    go_wp2
    go_ret
    exact ⟨rfl, Below.refl _ _⟩
  clear hg
  have hle : n ≤ 1048576 := by rw [HL.out]; exact hS.1
  go_wp2_with fail
  refine (f6_any s ao rs n cap rows ⟨some a0, nh, hc⟩ _ hm HL.out hlm).mono ?_
  rintro e w ⟨hg, rfl⟩
  rcases gate_cases hg with rfl | ⟨rfl, _⟩
  · clear hg
    go_wp2
    go_ret
    exact ⟨rfl, Below.refl _ _⟩
  clear hg
  go_wp2_with fail
  have k7 := f7_any ao rs cap rows w hm hS.1 hS.2.2
  rw [← HL.out] at k7
  refine k7.mono ?_
  clear k7
  rintro e w1 ⟨ao1, rs1, cap1, he, hl1, hm1, hb1⟩
  rw [hl1] at he
  subst he
  have HL1 : Hid (n = rs1.length) := hl1.symm
  clear hl1
  go_wp2_with fail
  refine (f8_any ⟨some a0, nh, hc⟩ hx w1 (hh.later hb1) hS.2.1).mono ?_
  rintro e w2 ⟨⟨rao, rn, rc⟩, rfl, hr2, hrn, hb2⟩
  obtain ⟨a1, rfl⟩ : ∃ a1, rao = some a1 := by
    cases rao with
    | none => simp at hrn
    | some a1 => exact ⟨a1, rfl⟩
  clear hne
  have hne : ∀ W : World, (binOp .neq 23 (.slice (some a1) rn rc) (.slice none 0 0)).run Try.prog W = .ok (.bool true) W := fun W => run_neq_slice_nil_any (P := Try.prog) W 23 5 (some a1) rn rc 0 0 Try.underlying23
  have heq : ∀ W : World, (binOp .eql 23 (.slice (some a1) rn rc) (.slice none 0 0)).run Try.prog W = .ok (.bool false) W := fun W => Lib.run_eql_slice_nil (P := Try.prog) W 23 5 (some a1) rn rc 0 0 Try.underlying23
  have hrnl : rn = hx.length := hr2.len
  have HRN : Hid (rn = hx.length) := hrnl
  have hrn2 : rn ≤ 1048576 := by rw [hrnl]; exact hS.2.1
  clear hrnl
  have hm2 := hm1.later hb2
  have hbw2 : Below w.heap.size w w2 := hb1.trans (hb2.mono hb1.size)
  clear hrn hm1 hb1 hb2
  go_wp2_with (first
    | (at_make; refine wpList_make_full _ rfl _ _ 36 rfl w2.heap.size 3 i0 (.int .i64 0) 1 Try.underlying36 hi hz0 hz1 .i64 .i64 _ _ n rfl rfl rfl rfl (by rw [hz2]; omega) (by unfold maxLen; omega) (Nat.le_refl _) ?_; intro w3 hown3 hg3; have hb3 : Below w2.heap.size w2 w3 := (Below.refl _ _).grown hg3 (Nat.le_refl _) (fun j hj => by cases hj))
    | go_in)
  go_loopw [14] (fun i wr => ∃ k : Nat, k ≤ n ∧ i = .int .i64 k ∧ Filled wr w2.heap.size 3 n k (lenVals rows) ∧ Below w2.heap.size w2 wr) (fun i _ => n - (intOf i).toNat)
  case atStart => exact ⟨0, Nat.zero_le _, rfl, filled_start hown3, hb3⟩
  case round =>
    obtain ⟨k, hk, rfl, hf, hb⟩ := hrel
    by_cases hlt : k < n
    · obtain ⟨⟨v, hc1⟩, hc2⟩ := hf.at hlt
      obtain ⟨p, hp1, hp2⟩ := (hm2.later hb).at cap1 (k := k) (by rw [← HL1.out]; exact hlt)
      rw [← HL1.out] at hp1
      have hks : k < rs1.length := by rw [← HL1.out]; exact hlt
      have hkr : k < rows.length := by rw [← HR.out]; exact hlt
      have HRL : Hid ((rs1[k]).n = (rows[k]).length) := (hm2.each k hks hkr).len
      generalize rs1[k] = q at *
      go_wp2
      exact ⟨⟨k + 1, by omega, by go_num, hf.step hlt (by simp [lenVals, hkr, HRL.out]), hb.setCell (by simp) _⟩, by simp [intOf]; omega⟩
    · go_wp2_with fail
      have hS1 : Small rs1 rows hx := ⟨by rw [← HL1.out]; exact hle, hS.2.1, hS.2.2⟩
      have hb4 : Below wr.heap.size wr (wr.alloc (.cells #[.string s, .int .u8 dc, .slice ao1 n cap1, .slice (some a1) rn rc] 30)) := (Below.refl _ _).alloc (Nat.le_refl _) _
      have hbox : (wr.alloc (.cells #[.string s, .int .u8 dc, .slice ao1 n cap1, .slice (some a1) rn rc] 30)).heap[wr.heap.size]? = some (.cells #[.string s, .int .u8 dc, .slice ao1 n cap1, .slice (some a1) rn rc] 30 (0, 0)) := by rw [heap_alloc_get, if_pos rfl]
      have hm4 := (hm2.later hb).later hb4
      have hh4 : Bts (wr.alloc (.cells #[.string s, .int .u8 dc, .slice ao1 n cap1, .slice (some a1) rn rc] 30)) ⟨some a1, rn, rc⟩ hx := (hr2.later hb).later hb4
      refine (f9_any wr.heap.size a ⟨some a1, rn, rc⟩ hx ao1 rs1 cap1 rows _ hm4 hh4 (by rw [← HL1.out]; exact (box4 hbox).1) (box4 hbox).2 (fun _ => by rw [hm2.len]; exact hr0) hS1).mono ?_
      rintro e w5 ⟨ra, rsA, rcA, he, hmA', hb5⟩
      have hmA : Mat w5 ra rsA (msgs false hx rows a) := hmA'
      clear hmA'
      have hlA : rsA.length = 1 := hmA.len
      rw [hlA] at he
      subst he
      have hbox5 := hbox
      rw [← hb5.block _ (lt_of_block hbox)] at hbox5
      go_wp2_with fail
      refine (f9_any wr.heap.size b ⟨some a1, rn, rc⟩ hx ao1 rs1 cap1 rows _ (hm4.later hb5) (hh4.later hb5) (by rw [← HL1.out]; exact (box4 hbox5).1) (box4 hbox5).2 (fun _ => by rw [hm2.len]; exact hr0) hS1).mono ?_
      rintro e w6 ⟨rb, rsB, rcB, he, hmB', hb6⟩
      have hmB : Mat w6 rb rsB (msgs false hx rows b) := hmB'
      clear hmB'
      have hlB : rsB.length = 1 := hmB.len
      rw [hlB] at he
      subst he
      have hmA6 := hmA.later hb6
      have hf6 := ((hf.later hb4).later hb5).later hb6
      have hkn : n ≤ k := by omega
      have hb26 : Below w.heap.size w w6 := below_then (below_then (below_then (below_then hbw2 hb) hb4) hb5) hb6
      have hnp : 0 < n := by rw [HR.out]; exact hr0
      rw [msgs_hdr] at hmA6 hmB
      have hhd : rows.headD [] = rows[0] := by cases rows <;> simp at hr0 ⊢
      rw [hhd] at hmA6 hmB
      have HA : Hid (rsA.length = 1) := hlA
      have HB : Hid (rsB.length = 1) := hlB
      clear hhd
      clear hmA hb5 hb6 hbox hbox5 hh4 hm4 hb4 hlA hlB hf hb hm2 hown3 hg3 hb3 heq
      go_wp2
      go_loopw [21] (fun v wv => ∃ i : Nat, i ≤ 1 ∧ v = .int .i64 i ∧ Below w6.heap.size w6 wv) (fun v _ => 1 - (intOf v).toNat)
      case atStart => exact ⟨0, Nat.zero_le _, rfl, Below.refl _ _⟩
      case round =>
        obtain ⟨i, hi, rfl, hbv⟩ := hrel
        by_cases hil : i < 1
        · obtain rfl : i = 0 := by omega
          have hmAv := hmA6.later hbv
          have hmBv := hmB.later hbv
          have hiA : 0 < rsA.length := by rw [HA.out]; exact hil
          have hiB : 0 < rsB.length := by rw [HB.out]; exact hil
          obtain ⟨pa, hpa1, hpa2⟩ := hmAv.at rcA (k := 0) hiA
          obtain ⟨pb, hpb1, hpb2⟩ := hmBv.at rcB (k := 0) hiB
          rw [HA.out, show ((0 : Nat) : Int) = 0 from rfl] at hpa1
          rw [HB.out, show ((0 : Nat) : Int) = 0 from rfl] at hpb1
          have hta := hmAv.each 0 hiA (by simp)
          have htb := hmBv.each 0 hiB (by simp)
          simp only [List.getElem_cons_zero] at hta htb
          have hlc : wr.cell? ⟨w2.heap.size, 0, none⟩ = some (.int .i64 ((rows[0]).length : Int)) := lens_cell (hf6.later hbv) (by omega) hr0
          have hll : (rows[0]).length ≤ 1048576 := hS.2.2 _ (List.getElem_mem hr0)
          have hna := hta.len
          have hnb := htb.len
          have hxl : (hx ++ rows[0]).length = rn + (rows[0]).length := by rw [List.length_append, HRN.out]
          generalize rsA[0] = qa at *
          generalize rsB[0] = qb at *
          generalize hx ++ rows[0] = X at *
          generalize (rows[0]).length = L at *
          have hqa : qa.n = rn + L := hna.trans hxl
          have hqb : qb.n = rn + L := hnb.trans hxl
          have FA : Hid (X.length = rn + L) := hxl
          clear hna hnb hxl
          go_wp2
          go_loopw [23] (fun v wv => ∃ k2 : Nat, k2 ≤ rn + L ∧ v = .int .i64 k2 ∧ Below wr.heap.size wr wv) (fun v _ => rn + L - (intOf v).toNat)
          case atStart => exact ⟨0, Nat.zero_le _, rfl, Below.refl _ _⟩
          case round =>
            obtain ⟨k2, hk2, rfl, hbi⟩ := hrel
            have ya := (hbi.cell (World.block_lt_of_cell? _ _ hpa2)).trans hpa2
            have yb := (hbi.cell (World.block_lt_of_cell? _ _ hpb2)).trans hpb2
            rw [hqa] at ya
            rw [hqb] at yb
            by_cases hkl : k2 < rn + L
            · obtain ⟨xa, hxa1, hxa2⟩ := (hta.later hbi).at (k := k2) (by rw [FA.out]; exact hkl)
              obtain ⟨xb, hxb1, hxb2⟩ := (htb.later hbi).at (k := k2) (by rw [FA.out]; exact hkl)
              rw [hqa] at hxa1
              rw [hqb] at hxb1
              go_wp2
              go_quiet (fail)
              go_wp2
              exact ⟨⟨k2 + 1, by omega, by go_num, below_drewN hbi _⟩, by simp [intOf]; omega⟩
            · go_wp2
              exact ⟨⟨1, by omega, rfl, below_then hbv hbi⟩, by simp [intOf]⟩
        · go_wp2
          go_ret
          exact ⟨rfl, below_then hb26 hbv⟩
end Go.Proofs.Qxb6628445a
