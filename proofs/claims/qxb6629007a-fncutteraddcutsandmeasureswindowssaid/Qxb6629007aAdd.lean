/-
  Seat b6629007a: (*Cutter).Add, walked, in the plain cutter's words.
-/
import Derived.Test.Qxb6629007aAdd1
import Derived.Deep.DeepCutAuto
namespace Go.Proofs.Qxb6629007a
open Go.RowKit

theorem below_dq {B : Nat} {w : World} (q : Nat) : Below B w (w.drewN q) := ⟨rfl, rfl, rfl, Nat.le_refl _, fun _ _ => rfl⟩

theorem gapsOf_push {ps : List Pkt} (h : ps ≠ []) (q : Pkt) : gapsOf (ps ++ [q]) = gapsOf ps ++ gapOf (lastT ps) q.1 := by
  obtain ⟨l, b, rfl⟩ : ∃ l b, ps = l ++ [b] := ⟨ps.dropLast, ps.getLast h, (List.dropLast_concat_getLast h).symm⟩
  rw [List.append_assoc, show [b] ++ [q] = [b, q] from rfl, gapsOf_snoc]
  simp [lastT]

theorem firstT_push {ps : List Pkt} (h : ps ≠ []) (q : Pkt) : firstT (ps ++ [q]) = firstT ps := by
  cases ps with
  | nil => exact absurd rfl h
  | cons a l => rfl

theorem lastT_push (ps : List Pkt) (q : Pkt) : lastT (ps ++ [q]) = q.1 := by simp [lastT]

theorem boxed_set {bc b : Nat} {t : Int} {w : World} {c : Array Value} (hb : w.heap[bc]? = some (.cells c 66 (0, 0))) (hX : Boxed1 b t w) (k : Nat) (u : Value) : Boxed1 b t (w.setCell ⟨bc, k, none⟩ u) ∧ (w.setCell ⟨bc, k, none⟩ u).heap[bc]? = some (.cells (c.setIfInBounds k u) 66 (0, 0)) :=
  ⟨hX.keep (keep_set hb (by decide) u), heap_setCell_row hb⟩

/-- What is known of the cutter's state behind the break. -/
theorem after_break (M I : Int) (s : St) (q : Pkt) (hK : s.kept.length + s.ps.length < 4096) : ∃ s1, s1 = (if brk I s.ps q.1 then endSt M s else s) ∧ s1.number = s.number ∧ s1.ps.length < 4096 ∧ s1.kept.length ≤ 4096 ∧
    (s1.ps ≠ [] → 0 ≤ clampI (q.1 - lastT s1.ps) ∧ s1 = s) := by
  refine ⟨_, rfl, ?_⟩
  by_cases h : brk I s.ps q.1 = true
  · rw [if_pos h]
    refine ⟨rfl, by simp [endSt], ?_, fun h => absurd rfl h⟩
    have hne : s.ps ≠ [] := fun e => by rw [e] at h; simp [brk] at h
    have := List.length_pos_iff.2 hne
    show (if M ≤ (s.ps.length : Int) then s.kept ++ [(s.number, s.ps)] else s.kept).length ≤ 4096
    split
    · rw [List.length_append]; simp; omega
    · omega
  · rw [if_neg h]
    refine ⟨rfl, by omega, by omega, fun hne => ⟨?_, rfl⟩⟩
    have h' : brk I s.ps q.1 = false := by simpa using h
    simp [brk, hne] at h'
    exact h'.2

set_option maxRecDepth 100000 in
set_option maxHeartbeats 2000000 in
theorem f13_any (base bc : Nat) (P M I d : Int) (s : St) (q : Pkt) (w : World) (h : CutterAt base bc P M I d s w) (hbc : base ≤ bc) (hK : s.kept.length + s.ps.length < 4096) (hnum : 0 ≤ s.number ∧ s.number ≤ 4096)
    (ht : -9223372036854775808 ≤ q.1 + d ∧ q.1 + d < 9223372036854775808) (hq : -9223372036854775808 ≤ q.2 ∧ q.2 < 9223372036854775808) :
    Calls Try.prog 13 #[.pointer (some ⟨bc, 0, none⟩), tm (q.1 + d), .int .i64 q.2] w fun e w' => e = .returned (.tuple #[]) ∧ CutterAt base bc P M I d (addSt P M I s q) w' ∧ Below base w w' := by
  obtain ⟨f, l, KH, lv, gv, kv, hC, hfl, hl⟩ := h
  obtain ⟨lao, ln, lcap, rfl, hln, hlc, hl0, _⟩ := owns_cut hC.lens
  obtain ⟨gao, gn, gcap, rfl, hgn, hgc, hg0, _⟩ := owns_cut hC.gaps
  have HLN : Hid (ln = s.ps.length) := by rw [Hid, hln, lensOf_length]
  have HB : Hid (brk I s.ps q.1 = (decide (0 < ln) && (decide (I < clampI (q.1 + d - l)) || decide (clampI (q.1 + d - l) < 0)))) := by
    rw [Hid, HLN.out, brk]
    by_cases hne : s.ps = []
    · simp [hne]
    · have hpos := List.length_pos_iff.2 hne
      rw [(hfl hne).2, show q.1 + d - (lastT s.ps + d) = q.1 - lastT s.ps from by omega]
      simp [hne, hpos]
  clear hln hgn
  obtain ⟨t, htt⟩ : ∃ t, t = q.1 + d := ⟨_, rfl⟩
  have HT : Hid (t = q.1 + d) := htt
  rw [← htt] at ht HB ⊢
  clear htt
  have hC1 := hC.later ((Below.refl _ _).alloc (Nat.le_refl _) (.cells #[.int .u64 (nn t), .int .i64 (ss t), .pointer none] 33))
  have hX1 : Boxed1 w.heap.size t (w.alloc (.cells #[.int .u64 (nn t), .int .i64 (ss t), .pointer none] 33)) := alloc1_row _ _ _
  have hbw : base ≤ w.heap.size := Nat.le_trans hbc (Nat.le_of_lt hC.size)
  have hB1 : Below base w (w.alloc (.cells #[.int .u64 (nn t), .int .i64 (ss t), .pointer none] 33)) := (Below.refl _ _).alloc hbw _
  have k27 : ∀ W, CutAt base bc P M I d s.number f l (lensOf s.ps) (gapsOf s.ps) s.kept KH (.slice lao ln lcap) (.slice gao gn gcap) kv W ∧ Boxed1 w.heap.size t W ∧ Below base w W → Calls Try.prog 27 #[tm t, tm l] W fun e w' => e = .returned (.int .i64 (clampI (t - l))) ∧
      CutAt base bc P M I d s.number f l (lensOf s.ps) (gapsOf s.ps) s.kept KH (.slice lao ln lcap) (.slice gao gn gcap) kv w' ∧ Boxed1 w.heap.size t w' ∧ Below base w w' := fun W hW =>
    (f27_any t l W ht hl).mono fun e w' h2 => ⟨h2.1, hW.1.later h2.2, hW.2.1.keep (keep_below h2.2), hW.2.2.trans (h2.2.mono (Nat.le_trans hbc (Nat.le_of_lt hW.1.size)))⟩
  obtain ⟨⟨c0, c1, c2, c3, c4, c5, c6, c7, c8, c9, c10, c11, c12⟩, f0, f1, f2, f3, f4, f5, f6, f7, f8, f9, f10, f11, f12⟩ := hC1.all
  obtain ⟨b0, b1, b2⟩ := hX1.cells
  have hI1 : CutAt base bc P M I d s.number f l (lensOf s.ps) (gapsOf s.ps) s.kept KH (.slice lao ln lcap) (.slice gao gn gcap) kv ((w.alloc (.cells #[.int .u64 (nn t), .int .i64 (ss t), .pointer none] 33)).drew) ∧ Boxed1 w.heap.size t ((w.alloc (.cells #[.int .u64 (nn t), .int .i64 (ss t), .pointer none] 33)).drew) ∧ Below base w ((w.alloc (.cells #[.int .u64 (nn t), .int .i64 (ss t), .pointer none] 33)).drew) := ⟨hC1.later (below_q 1), hX1, hB1.drew⟩
  rw [tm_eq]
  go_enter Try.func13, Try.ntmps13
  go_wp2_with fail
  go_region_held3 (fun w' => (w'.cell? ⟨w.heap.size, 0, none⟩ = some (.int .u64 (nn t)) ∧ w'.cell? ⟨w.heap.size, 1, none⟩ = some (.int .i64 (ss t)) ∧ w'.cell? ⟨w.heap.size, 2, none⟩ = some (.pointer none) ∧
    w'.cell? ⟨bc, 9, none⟩ = some (.int .u64 (nn l)) ∧ w'.cell? ⟨bc, 10, none⟩ = some (.int .i64 (ss l)) ∧ w'.cell? ⟨bc, 11, none⟩ = some (.pointer none)) ∧ (CutAt base bc P M I d s.number f l (lensOf s.ps) (gapsOf s.ps) s.kept KH (.slice lao ln lcap) (.slice gao gn gcap) kv w' ∧ Boxed1 w.heap.size t w' ∧ Below base w w'))
    (exact ⟨⟨(Boxed1.cells (And.left (And.right (by assumption)))).1, (Boxed1.cells (And.left (And.right (by assumption)))).2.1, (Boxed1.cells (And.left (And.right (by assumption)))).2.2, (CutAt.all (And.left (by assumption))).1.2.2.2.2.2.2.2.2.2.1, (CutAt.all (And.left (by assumption))).1.2.2.2.2.2.2.2.2.2.2.1, (CutAt.all (And.left (by assumption))).1.2.2.2.2.2.2.2.2.2.2.2.1⟩, by assumption⟩)
    (first | (go_at_call 27; refine (k27 _ (by assumption)).mono ?_; rintro e w' ⟨rfl, hIn⟩))
  obtain ⟨hC2, hX2, hB2⟩ := hIn
  clear k27 hI1 hC1 hX1 hB1 c0 c1 c2 c3 c4 c5 c6 c7 c8 c9 c10 c11 c12 f0 f1 f2 f3 f4 f5 f6 f7 f8 f9 f10 f11 f12 b0 b1 b2
  obtain ⟨⟨c0, c1, c2, c3, c4, c5, c6, c7, c8, c9, c10, c11, c12⟩, f0, f1, f2, f3, f4, f5, f6, f7, f8, f9, f10, f11, f12⟩ := hC2.all
  obtain ⟨G, hG⟩ : ∃ G, G = clampI (t - l) := ⟨_, rfl⟩
  have HG : Hid (G = clampI (t - l)) := hG
  rw [← hG] at HB ⊢
  clear hG
  go_upto_region 2 with fail
  go_cut [31] (fun s31 wc => s31 = .bool (decide (0 < ln) && (decide (I < G) || decide (G < 0))) ∧ wc = w')
  case first =>
    by_cases h1 : 0 < ln
    · by_cases h2 : I < G
      · go_wp2_with fail
        go_meet
        case rel => exact ⟨by simp [h1, h2], rfl⟩
      · have h2' : decide (I < G) = false := decide_eq_false h2
        go_wp2_with fail
        go_meet
        case rel => exact ⟨by rw [h2', decide_eq_true h1]; rfl, rfl⟩
    · have h1' : decide ((0 : Int) < (ln : Int)) = false := decide_eq_false (by omega)
      go_wp2_with fail
      go_meet
      case rel => exact ⟨by simp [h1], rfl⟩
  case rest =>
    obtain ⟨rfl, rfl⟩ := hcut
    generalize (decide (0 < ln) && (decide (I < G) || decide (G < 0))) = β at *
    go_upto_if 31 with fail
    go_cut [] (fun wc => CutterAt base bc P M I d (if brk I s.ps q.1 then endSt M s else s) wc ∧ Boxed1 w.heap.size t wc ∧ Below base w wc)
    case first =>
      have hC3 : CutterAt base bc P M I d s wc := ⟨f, l, KH, _, _, kv, hC2, hfl, hl⟩
      cases hβ : β with
      | true =>
        subst hβ
        have hne : s.ps ≠ [] := fun e => by
          have := HB.out
          rw [e] at this
          exact absurd this (by simp [brk])
        go_wp2_with fail
        refine (f28_st base bc P M I d s wc hC3 hbc hne (by omega) (by omega)).mono ?_
        rintro e w4 ⟨rfl, hS, hB4, hK4⟩
        go_wp2_with fail
        go_meet
        case rel => exact ⟨by rw [HB.out]; exact hS, hX2.keep hK4, hB2.trans hB4⟩
      | false =>
        subst hβ
        go_wp2_with fail
        go_meet
        case rel => exact ⟨by rw [HB.out]; exact hC3, hX2, hB2⟩
    case rest =>
      clear hC2 hX2 hB2 c0 c1 c2 c3 c4 c5 c6 c7 c8 c9 c10 c11 c12 f0 f1 f2 f3 f4 f5 f6 f7 f8 f9 f10 f11 f12 hC
      obtain ⟨hS, hX, hB⟩ := hcut
      obtain ⟨s1, hs1, hn1, hp1, hk1, hg1⟩ := after_break M I s q hK
      have HS1 : Hid (s1 = (if brk I s.ps q.1 then endSt M s else s)) := hs1
      rw [← hs1] at hS
      have HG1 : Hid (s1.ps ≠ [] → G = clampI (q.1 - lastT s1.ps) ∧ 0 ≤ G) := fun hne => by
        obtain ⟨h1, h2⟩ := hg1 hne
        subst h2
        rw [HG.out, HT.out, (hfl hne).2, show q.1 + d - (lastT s1.ps + d) = q.1 - lastT s1.ps from by omega]
        exact ⟨rfl, h1⟩
      have hnum1 : 0 ≤ s1.number ∧ s1.number ≤ 4096 := by rw [hn1]; exact hnum
      obtain ⟨hnum2, hnum3⟩ := hnum1
      clear hs1 hg1 HB HLN hlc hl0 hgc hg0 hn1 hnum
      obtain ⟨f1, l1, KH1, lv1, gv1, kv1, hC, hfl1, hl1⟩ := hS
      obtain ⟨xao, xn, xcap, rfl, hxn, _, _, _⟩ := owns_cut hC.lens
      obtain ⟨yao, yn, ycap, rfl, hyn, _, _, _⟩ := owns_cut hC.gaps
      have HXN : Hid (xn = s1.ps.length) := by rw [Hid, hxn, lensOf_length]
      clear hxn hyn
      obtain ⟨⟨c0, c1, c2, c3, c4, c5, c6, c7, c8, c9, c10, c11, c12⟩, f0, g1, f2, f3, f4, f5, f6, f7, f8, f9, f10, f11, f12⟩ := hC.all
      obtain ⟨b0, b1, b2⟩ := hX.cells
      go_upto_if 39 with fail
      go_cut [] (fun wc => ∃ f' l' gv', CutAt base bc P M I d (pushSt s1 q).number f' l' (lensOf s1.ps) (gapsOf (s1.ps ++ [q])) s1.kept KH1 (.slice xao xn xcap) gv' kv1 wc ∧ f' = firstT (s1.ps ++ [q]) + d ∧ Boxed1 w.heap.size t wc ∧ Below base w wc)
      case first =>
        by_cases hE : s1.ps = []
        · have h0 : ((xn : Int) == 0) = true := by rw [HXN.out, hE]; rfl
          go_wp2_with fail
          go_meet
          case rel =>
            obtain ⟨x1, x2⟩ := boxed_set hC.block hX 3 (.int .i64 (s1.number + 1))
            obtain ⟨x3, x4⟩ := boxed_set x2 x1 4 (.int .u64 (nn t))
            obtain ⟨x5, x6⟩ := boxed_set x4 x3 5 (.int .i64 (ss t))
            obtain ⟨x7, _⟩ := boxed_set x6 x5 6 (.pointer none)
            have hfin := (hC.setNum (s1.number + 1)).setFirst t
            refine ⟨t, l1, .slice yao yn ycap, ?_, ?_, x7, (((hB.setCell hbc _).setCell hbc _).setCell hbc _).setCell hbc _⟩
            · have e1 : (pushSt s1 q).number = s1.number + 1 := by rw [pushSt, if_pos hE]
              have e2 : gapsOf (s1.ps ++ [q]) = gapsOf s1.ps := by rw [hE]; rfl
              rw [e1, e2]
              exact hfin
            · rw [hE, HT.out]; rfl
        · have h0 : ((xn : Int) == 0) = false := beq_eq_false_iff_ne.2 (by rw [HXN.out]; have := List.length_pos_iff.2 hE; omega)
          obtain ⟨hG1, hG2⟩ := HG1.out hE
          have e1 : (pushSt s1 q).number = s1.number := by rw [pushSt, if_neg hE]
          have e3 : f1 = firstT (s1.ps ++ [q]) + d := by rw [firstT_push hE]; exact (hfl1 hE).1
          have HG3 : Hid (G = clampI (q.1 - lastT s1.ps)) := hG1
          have HE1 : Hid ((pushSt s1 q).number = s1.number) := e1
          have HE3 : Hid (f1 = firstT (s1.ps ++ [q]) + d) := e3
          clear hG1 e1 e3
          by_cases hlt : G < 1000000000
          · obtain ⟨i0, hi, hz0, hz1, hz2⟩ := info_parts info67
            have hgb := gapsOf_length s1.ps
            go_wp2_with (first
              | (at_builtin; refine wpList_append_own _ rfl _ _ 64 rfl base 67 i0 _ 1 2 Try.underlying64 hi hz0 hz1 hz2 rfl (by decide) _ _ _ rfl (hC.gaps.alloc _) ⟨wc.heap.size, 0, none⟩ 1 1 [.int .u16 (G / 1000000)] rfl rfl ?c1 ?c2 ?c3 ?c4 ?c5 ?_)
              | go_in)
            case c1 => exact cell_new1 rfl
            case c2 => intro u hu; simp at hu; subst hu; rfl
            case c3 => unfold maxLen; omega
            case c4 => omega
            case c5 => rw [World.size_alloc]; have := hC.size; omega
            · intro v' w1 hown' hgrow _
              obtain ⟨⟨d8, z8⟩, hC', hB', hK'⟩ := gaps_step hC hbc hown' hgrow
              obtain ⟨va, vn, vc, hv⟩ : ∃ a n c, v' = .slice a n c := by
                rcases hown'.2 with ⟨h1, _⟩ | ⟨_, _, _, h1, _⟩
                · exact ⟨_, _, _, h1⟩
                · exact ⟨_, _, _, h1⟩
              subst hv
              clear hown' hgrow
              go_wp2_with fail
              go_meet
              case rel =>
                refine ⟨f1, l1, .slice va vn vc, ?_, HE3.out, hX.keep hK', hB.trans hB'⟩
                have e2 : gapsOf (s1.ps ++ [q]) = gapsOf s1.ps ++ [G / 1000000] := by
                  rw [gapsOf_push hE, gapOf, ← HG3.out, if_pos ⟨hG2, hlt⟩]
                rw [HE1.out, e2]
                exact hC'
          · have hlt' : decide (G < 1000000000) = false := decide_eq_false hlt
            go_wp2_with fail
            go_meet
            case rel =>
              refine ⟨f1, l1, .slice yao yn ycap, ?_, HE3.out, hX, hB⟩
              have e2 : gapsOf (s1.ps ++ [q]) = gapsOf s1.ps := by
                rw [gapsOf_push hE, gapOf, ← HG3.out, if_neg (by omega), List.append_nil]
              rw [HE1.out, e2]
              exact hC
      case rest =>
        clear hC hX hB c0 c1 c2 c3 c4 c5 c6 c7 c8 c9 c10 c11 c12 f0 g1 f2 f3 f4 f5 f6 f7 f8 f9 f10 f11 f12 b0 b1 b2 hfl1 hl1 HG1
        obtain ⟨f2, l2, gv2, hC, hf2, hX, hB⟩ := hcut
        obtain ⟨⟨c0, c1, c2, c3, c4, c5, c6, c7, c8, c9, c10, c11, c12⟩, r0, r1, r2, r3, r4, r5, r6, r7, r8, r9, r10, r11, r12⟩ := hC.all
        have HF2 : Hid (f2 = firstT (s1.ps ++ [q]) + d) := hf2
        clear hf2
        obtain ⟨i0, hi, hz0, hz1, hz2⟩ := info_parts info68
        have hlb := lensOf_length s1.ps
        have hown := hC.lens
        rw [hlb] at hown
        obtain ⟨hq1, hq2⟩ := hq
        clear hlb
        go_wp2_with (first
          | (at_builtin; refine wpList_append_own _ rfl _ _ 63 rfl base 68 i0 _ 1 4 Try.underlying63 hi hz0 hz1 hz2 rfl (by decide) _ _ _ rfl (hown.alloc _) ⟨wc.heap.size, 0, none⟩ 1 1 [.int .u32 (q.2 % 4294967296)] rfl rfl ?c1 ?c2 ?c3 ?c4 ?c5 ?_)
          | go_in)
        case c1 => exact cell_new1 rfl
        case c2 => intro u hu; simp at hu; subst hu; rfl
        case c3 => unfold maxLen; omega
        case c4 => omega
        case c5 => rw [World.size_alloc]; have := hC.size; omega
        · intro v' w1 hown' hgrow _
          rw [← lensOf_length s1.ps] at hown'
          obtain ⟨⟨d7, z7⟩, hC', hB', hK'⟩ := lens_step hC hbc hown' hgrow
          obtain ⟨va, vc, hv⟩ : ∃ a c, v' = .slice a ((lensOf s1.ps).length + 1) c := by
            rcases hown'.2 with ⟨_, h1⟩ | ⟨_, _, _, h1, _⟩
            · omega
            · exact ⟨_, _, h1⟩
          rw [lensOf_length] at hv
          subst hv
          clear hown' hgrow hown
          have hB2 := hB.trans hB'
          have hX2 := hX.keep hK'
          obtain ⟨w2, hw2⟩ : ∃ w2, w1.setCell ⟨bc, 7, none⟩ (.slice va (s1.ps.length + 1) vc) = w2 := ⟨_, rfl⟩
          rw [hw2] at hC' hB2 hX2
          clear hC hX hB hB' hK' c0 c1 c2 c3 c4 c5 c6 c7 c8 c9 c10 c11 c12 r0 r1 r2 r3 r4 r5 r6 r7 r8 r9 r10 r11 r12
          obtain ⟨⟨c0, c1, c2, c3, c4, c5, c6, c7, c8, c9, c10, c11, c12⟩, r0, r1, r2, r3, r4, r5, r6, r7, r8, r9, r10, r11, r12⟩ := hC'.all
          obtain ⟨b0, b1, b2⟩ := hX2.cells
          have hC3 := hC'.setLast t
          have hB3 : Below base w (((w2.setCell ⟨bc, 9, none⟩ (.int .u64 (nn t))).setCell ⟨bc, 10, none⟩ (.int .i64 (ss t))).setCell ⟨bc, 11, none⟩ (.pointer none)) := ((hB2.setCell hbc _).setCell hbc _).setCell hbc _
          have hps : (pushSt s1 q).ps = s1.ps ++ [q] ∧ (pushSt s1 q).kept = s1.kept := by
            rw [pushSt]
            split
            · rename_i h; exact ⟨by rw [h]; rfl, rfl⟩
            · exact ⟨rfl, rfl⟩
          have hS3 : CutterAt base bc P M I d (pushSt s1 q) (((w2.setCell ⟨bc, 9, none⟩ (.int .u64 (nn t))).setCell ⟨bc, 10, none⟩ (.int .i64 (ss t))).setCell ⟨bc, 11, none⟩ (.pointer none)) := by
            refine ⟨f2, t, KH1, .slice va (s1.ps.length + 1) vc, gv2, kv1, ?_, fun _ => ?_, ht⟩
            · rw [hps.1, hps.2, lensOf_snoc]; exact hC3
            · rw [hps.1, lastT_push, HF2.out, HT.out]; exact ⟨rfl, rfl⟩
          have HFIN : Hid (addSt P M I s q = (if P ≤ ((s1.ps.length : Int) + 1) then endSt M (pushSt s1 q) else pushSt s1 q)) := by
            rw [Hid, addSt, ← HS1.out]
            show (if P ≤ (((pushSt s1 q).ps.length : Nat) : Int) then _ else _) = _
            rw [hps.1, List.length_append]
            rfl
          have hl3 : (pushSt s1 q).ps.length ≤ 4096 := by rw [hps.1, List.length_append]; simp; omega
          have hk3 : (pushSt s1 q).kept.length ≤ 4096 := by rw [hps.2]; exact hk1
          have hne3 : (pushSt s1 q).ps ≠ [] := by rw [hps.1]; simp
          clear hC' hC3 hB2 hX2 hps
          by_cases hP : P ≤ (s1.ps.length : Int) + 1
          · go_wp2_with fail
            go_quiet (fail)
            go_wp2_with fail
            refine (f28_st base bc P M I d (pushSt s1 q) _ (hS3.later (below_q nq)) hbc hne3 hl3 hk3).mono ?_
            rintro e w5 ⟨rfl, hS5, hB5, _⟩
            go_wp2_with fail
            go_end0
            exact ⟨rfl, by rw [HFIN.out, if_pos hP]; exact hS5, (hB3.trans (below_dq nq)).trans hB5⟩
          · have hP' : decide (P ≤ (s1.ps.length : Int) + 1) = false := decide_eq_false hP
            go_wp2_with fail
            go_quiet (fail)
            go_wp2_with fail
            go_end0
            exact ⟨rfl, by rw [HFIN.out, if_neg (by omega)]; exact hS3.later (below_q nq), hB3.trans (below_dq nq)⟩
end Go.Proofs.Qxb6629007a
