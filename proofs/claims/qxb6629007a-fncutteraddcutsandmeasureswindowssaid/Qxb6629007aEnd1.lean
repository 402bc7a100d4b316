/-
  Seat b6629007a: (*Cutter).end where the window is kept.
-/
import Derived.Test.Qxb6629007aDraw
namespace Go.Proofs.Qxb6629007a
open Go.RowKit

theorem CutMid.all {base bc : Nat} {P M I d num f l : Int} {xs ys : List Int} {K : List Kept} {KH : List (Kept × Value × Value)} {lv gv kb kv : Value} {w : World} (h : CutMid base bc P M I d num f l xs ys K KH lv gv kb kv w) :
    (w.cell? ⟨bc, 0, none⟩ = some (.int .i64 P) ∧ w.cell? ⟨bc, 1, none⟩ = some (.int .i64 M) ∧ w.cell? ⟨bc, 2, none⟩ = some (.int .i64 I) ∧ w.cell? ⟨bc, 3, none⟩ = some (.int .i64 num) ∧ w.cell? ⟨bc, 4, none⟩ = some (.int .u64 (nn f)) ∧ w.cell? ⟨bc, 5, none⟩ = some (.int .i64 (ss f)) ∧ w.cell? ⟨bc, 6, none⟩ = some (.pointer none) ∧ w.cell? ⟨bc, 7, none⟩ = some (lv) ∧ w.cell? ⟨bc, 8, none⟩ = some (gv) ∧ w.cell? ⟨bc, 9, none⟩ = some (.int .u64 (nn l)) ∧ w.cell? ⟨bc, 10, none⟩ = some (.int .i64 (ss l)) ∧ w.cell? ⟨bc, 11, none⟩ = some (.pointer none) ∧ w.cell? ⟨bc, 12, none⟩ = some (kb)) ∧
    (w.frozen? ⟨bc, 0, none⟩ = false ∧ w.frozen? ⟨bc, 1, none⟩ = false ∧ w.frozen? ⟨bc, 2, none⟩ = false ∧ w.frozen? ⟨bc, 3, none⟩ = false ∧ w.frozen? ⟨bc, 4, none⟩ = false ∧ w.frozen? ⟨bc, 5, none⟩ = false ∧ w.frozen? ⟨bc, 6, none⟩ = false ∧ w.frozen? ⟨bc, 7, none⟩ = false ∧ w.frozen? ⟨bc, 8, none⟩ = false ∧ w.frozen? ⟨bc, 9, none⟩ = false ∧ w.frozen? ⟨bc, 10, none⟩ = false ∧ w.frozen? ⟨bc, 11, none⟩ = false ∧ w.frozen? ⟨bc, 12, none⟩ = false) :=
  ⟨⟨(row_cell h.block).1, (row_cell h.block).1, (row_cell h.block).1, (row_cell h.block).1, (row_cell h.block).1, (row_cell h.block).1, (row_cell h.block).1, (row_cell h.block).1, (row_cell h.block).1, (row_cell h.block).1, (row_cell h.block).1, (row_cell h.block).1, (row_cell h.block).1⟩, (row_cell h.block).2, (row_cell h.block).2, (row_cell h.block).2, (row_cell h.block).2, (row_cell h.block).2, (row_cell h.block).2, (row_cell h.block).2, (row_cell h.block).2, (row_cell h.block).2, (row_cell h.block).2, (row_cell h.block).2, (row_cell h.block).2, (row_cell h.block).2⟩

theorem list_append_run {w : World} {ops : Array Oper} {o : Oper} {rest : List Oper} {a : Act} {Q : Exit → Act → World → Prop} (t : TypeId) (hgd : o.guard = none) (s x : Operand)
    (ho : o.op = .call { callee := .builtin .append, args := #[s, x], argTypes := #[t, t] }) (v u v' : Value) (w' : World) (hs : a.eval s = v) (hx : a.eval x = u)
    (hrun : (Builtin.append_ #[t, t] o.type #[v, u]).run Try.prog w = .ok v' w') (h : wpList Try.prog ops Q rest (a.put o.dst v') w') : wpList Try.prog ops Q (o :: rest) a w :=
  wpList_plain hgd fun K hK => by
    unfold Oper.wp execOp
    simp only [ho, resolve, invoke, builtin, Sem.run_bind, Sem.run_pure, Result.andThen_ok, List.map_toArray, List.map_cons, List.map_nil, hs, hx, hrun]
    exact hK _ _ h

theorem winOf_eq (d num : Int) (ps : List Pkt) (lh gh : Value) : winOf d ((num, ps), lh, gh) = #[.int .i64 num, .int .u64 (nn (firstT ps + d)), .int .i64 (ss (firstT ps + d)), .pointer none, .int .u64 (nn (lastT ps + d)), .int .i64 (ss (lastT ps + d)), .pointer none, .int .i64 ps.length, .int .i64 (lensOf ps).sum, .int .i64 (rk (lensOf ps) 5), .int .i64 (rk (lensOf ps) 50), .int .i64 (rk (lensOf ps) 95), .int .i64 (overs (lensOf ps)).length, lh, gh] := rfl

attribute [local go_sem] winOf_eq

theorem oneCells {d : Int} {x : Kept} {a b : Option Addr} {n m c c2 : Nat} : ∀ u ∈ (winOf d (x, .slice a n c, .slice b m c2)).toList, u.oneCell' = true := by
  intro u hu
  simp [winOf, winArr] at hu
  rcases hu with rfl | rfl | rfl | rfl | rfl | rfl | rfl | rfl | rfl | rfl | rfl | rfl | rfl | rfl | rfl <;> rfl

set_option linter.unusedSimpArgs false in
set_option maxRecDepth 100000 in
set_option maxHeartbeats 2000000 in
theorem f28_keep (base bc : Nat) (P M I d num : Int) (ps : List Pkt) (K : List Kept) (KH : List (Kept × Value × Value)) (lv gv kv : Value) (w : World) (h : CutAt base bc P M I d num (firstT ps + d) (lastT ps + d) (lensOf ps) (gapsOf ps) K KH lv gv kv w) (hbc : base ≤ bc)
    (hne : ps ≠ []) (hlen : ps.length ≤ 4096) (hK : KH.length ≤ 4096) (hM : M ≤ ((lensOf ps).length : Int)) :
    Calls Try.prog 28 #[.pointer (some ⟨bc, 0, none⟩)] w fun e w' => e = .returned (.tuple #[]) ∧ ∃ lv' gv' kv' KH', KH'.length = KH.length + 1 ∧ CutAt base bc P M I d num (firstT ps + d) (lastT ps + d) [] [] (K ++ [(num, ps)]) KH' lv' gv' kv' w' ∧ Below base w w' ∧ Keep33 w w' := by
  obtain ⟨lao, ln, lcap, rfl, hln, hlc, hl0, hlr⟩ := owns_cut h.lens
  obtain ⟨gao, gn, gcap, rfl, hgn, hgc, hg0, hgr⟩ := owns_cut h.gaps
  obtain ⟨kao, kn, kcap, hkv⟩ : ∃ ao n cap, kv = .slice ao n cap := by
    rcases h.kept.own.2 with ⟨h1, h2⟩ | ⟨g1, cap1, _, h1, _⟩
    · exact ⟨_, _, _, h1⟩
    · exact ⟨_, _, _, h1⟩
  subst hkv
  have hM' : M ≤ (ln : Int) := by rw [hln]; exact hM
  obtain ⟨⟨c0, c1, c2, c3, c4, c5, c6, c7, c8, c9, c10, c11, c12⟩, f0, f1, f2, f3, f4, f5, f6, f7, f8, f9, f10, f11, f12⟩ := h.all
  have hpos := List.length_pos_iff.2 hne
  obtain ⟨g, hg⟩ : ∃ g, lao = some ⟨g, 0, none⟩ := by
    rcases h.lens.2 with ⟨h1, h2⟩ | ⟨g1, cap1, _, h1, _⟩
    · rw [lensOf_length] at h2; omega
    · cases h1; exact ⟨_, rfl⟩
  have k36 : ∀ q, Calls Try.prog 36 #[.int .i64 num, tm (firstT ps + d), tm (lastT ps + d), .slice lao ln lcap, .slice gao gn gcap] (w.drewN q) fun e w1 => ∃ a n c b m c2, e = .returned (.agg (winOf d ((num, ps), .slice a n c, .slice b m c2))) ∧
      CutAt base bc P M I d num (firstT ps + d) (lastT ps + d) (lensOf ps) (gapsOf ps) K KH (.slice lao ln lcap) (.slice gao gn gcap) (.slice kao kn kcap) w1 ∧ w1.ownsRow base 71 2 (.slice a n c) (lhist ps).length (bucketCells (lhist ps)) ∧ w1.ownsRow base 71 2 (.slice b m c2) (ghist ps).length (bucketCells (ghist ps)) ∧ Below base w w1 ∧ Keep33 w w1 := by
    intro q
    have hq := h.drew q
    subst hg hln
    refine (f36_any base num _ _ g lcap _ (lensOf ps) (gapsOf ps) (w.drewN q) hq.lens hq.gaps (fun e => hne (by simpa [lensOf] using e)) (by rw [lensOf_length]; exact hlen) (Nat.le_trans (gapsOf_length ps) hlen) lensOf_bound gapsOf_bound).mono ?_
    rintro e w1 ⟨lh, gh, rfl, hlh, hgh, hb⟩
    have hbw : base ≤ w.heap.size := Nat.le_trans hbc (Nat.le_of_lt h.size)
    obtain ⟨a, n, c, rfl⟩ : ∃ a n c, lh = .slice a n c := by
      rcases hlh.2 with ⟨h1, h2⟩ | ⟨g1, cap1, _, h1, _⟩
      · exact ⟨_, _, _, h1⟩
      · exact ⟨_, _, _, h1⟩
    obtain ⟨b, m, c2, rfl⟩ : ∃ a n c, gh = .slice a n c := by
      rcases hgh.2 with ⟨h1, h2⟩ | ⟨g1, cap1, _, h1, _⟩
      · exact ⟨_, _, _, h1⟩
      · exact ⟨_, _, _, h1⟩
    exact ⟨a, n, c, b, m, c2, by rw [lensOf_length]; rfl, hq.later hb, owns_mono hlh hbw, owns_mono hgh hbw, ((below_q q).mono hbw).trans (hb.mono hbw), (keep_below (below_q q)).trans (keep_below hb)⟩
  have HH : Hid (CutAt base bc P M I d num (firstT ps + d) (lastT ps + d) (lensOf ps) (gapsOf ps) K KH (.slice lao ln lcap) (.slice gao gn gcap) (.slice kao kn kcap) w) := h
  clear hgn hM hln hpos hg h hlr hgr
  obtain ⟨f, hf⟩ : ∃ f, firstT ps + d = f := ⟨_, rfl⟩
  obtain ⟨l, hl⟩ : ∃ l, lastT ps + d = l := ⟨_, rfl⟩
  rw [hf] at c4 c5
  rw [hl] at c9 c10
  simp only [hf, hl] at k36
  rw [hf, hl] at HH ⊢
  clear hf hl
  go_enter Try.func28, Try.ntmps28
  go_wp2_with fail
  go_quiet (fail)
  go_wp2_with fail
  have hS0 : ((fun w' => w'.cell? ⟨bc, 3, none⟩ = some (.int .i64 num) ∧ w'.cell? ⟨bc, 4, none⟩ = some (.int .u64 (nn f)) ∧ w'.cell? ⟨bc, 5, none⟩ = some (.int .i64 (ss f)) ∧ w'.cell? ⟨bc, 6, none⟩ = some (.pointer none) ∧
    w'.cell? ⟨bc, 7, none⟩ = some (.slice lao ln lcap) ∧ w'.cell? ⟨bc, 8, none⟩ = some (.slice gao gn gcap) ∧ w'.cell? ⟨bc, 9, none⟩ = some (.int .u64 (nn l)) ∧ w'.cell? ⟨bc, 10, none⟩ = some (.int .i64 (ss l)) ∧ w'.cell? ⟨bc, 11, none⟩ = some (.pointer none) ∧ w'.cell? ⟨bc, 12, none⟩ = some (.slice kao kn kcap))) ((w.drewN nq).drew) := ⟨c3, c4, c5, c6, c7, c8, c9, c10, c11, c12⟩
  refine region_but (n := 30) (S := (fun w' => w'.cell? ⟨bc, 3, none⟩ = some (.int .i64 num) ∧ w'.cell? ⟨bc, 4, none⟩ = some (.int .u64 (nn f)) ∧ w'.cell? ⟨bc, 5, none⟩ = some (.int .i64 (ss f)) ∧ w'.cell? ⟨bc, 6, none⟩ = some (.pointer none) ∧
    w'.cell? ⟨bc, 7, none⟩ = some (.slice lao ln lcap) ∧ w'.cell? ⟨bc, 8, none⟩ = some (.slice gao gn gcap) ∧ w'.cell? ⟨bc, 9, none⟩ = some (.int .u64 (nn l)) ∧ w'.cell? ⟨bc, 10, none⟩ = some (.int .i64 (ss l)) ∧ w'.cell? ⟨bc, 11, none⟩ = some (.pointer none) ∧ w'.cell? ⟨bc, 12, none⟩ = some (.slice kao kn kcap))) (by kernel_rfl) ?_
  refine but_take (i := 0) (v := .pointer (some ⟨bc, 0, none⟩)) rfl rfl (by kernel_rfl) (fun _ _ _ h => h) hS0 rfl (fun W hW => by go_simp) ?_
  simp only [Act.put, List.setIfInBounds_toArray, List.set_cons_zero, List.set_cons_succ]
  refine but_take (i := 1) (v := .pointer (some ⟨bc, 0, none⟩)) rfl rfl (by kernel_rfl) (fun _ _ _ h => h) hS0 rfl (fun W hW => by go_simp) ?_
  simp only [Act.put, List.setIfInBounds_toArray, List.set_cons_zero, List.set_cons_succ]
  refine but_take (i := 2) (v := .pointer (some ⟨bc, 0, none⟩)) rfl rfl (by kernel_rfl) (fun _ _ _ h => h) hS0 rfl (fun W hW => by go_simp) ?_
  simp only [Act.put, List.setIfInBounds_toArray, List.set_cons_zero, List.set_cons_succ]
  refine but_take (i := 3) (v := .pointer (some ⟨bc, 12, none⟩)) rfl rfl (by kernel_rfl) (fun _ _ _ h => h) hS0 rfl (fun W hW => by go_simp) ?_
  simp only [Act.put, List.setIfInBounds_toArray, List.set_cons_zero, List.set_cons_succ]
  refine but_take (i := 4) (v := .slice kao kn kcap) rfl rfl (by kernel_rfl) (fun _ _ _ h => h) hS0 rfl (fun W hW => by go_simp) ?_
  simp only [Act.put, List.setIfInBounds_toArray, List.set_cons_zero, List.set_cons_succ]
  refine but_take (i := 5) (v := .pointer (some ⟨bc, 0, none⟩)) rfl rfl (by kernel_rfl) (fun _ _ _ h => h) hS0 rfl (fun W hW => by go_simp) ?_
  simp only [Act.put, List.setIfInBounds_toArray, List.set_cons_zero, List.set_cons_succ]
  refine but_take (i := 6) (v := .pointer (some ⟨bc, 0, none⟩)) rfl rfl (by kernel_rfl) (fun _ _ _ h => h) hS0 rfl (fun W hW => by go_simp) ?_
  simp only [Act.put, List.setIfInBounds_toArray, List.set_cons_zero, List.set_cons_succ]
  refine but_take (i := 7) (v := .pointer (some ⟨bc, 3, none⟩)) rfl rfl (by kernel_rfl) (fun _ _ _ h => h) hS0 rfl (fun W hW => by go_simp) ?_
  simp only [Act.put, List.setIfInBounds_toArray, List.set_cons_zero, List.set_cons_succ]
  refine but_take (i := 8) (v := .int .i64 num) rfl rfl (by kernel_rfl) (fun _ _ _ h => h) hS0 rfl (fun W hW => by go_simp) ?_
  simp only [Act.put, List.setIfInBounds_toArray, List.set_cons_zero, List.set_cons_succ]
  refine but_take (i := 9) (v := .pointer (some ⟨bc, 0, none⟩)) rfl rfl (by kernel_rfl) (fun _ _ _ h => h) hS0 rfl (fun W hW => by go_simp) ?_
  simp only [Act.put, List.setIfInBounds_toArray, List.set_cons_zero, List.set_cons_succ]
  refine but_take (i := 10) (v := .pointer (some ⟨bc, 0, none⟩)) rfl rfl (by kernel_rfl) (fun _ _ _ h => h) hS0 rfl (fun W hW => by go_simp) ?_
  simp only [Act.put, List.setIfInBounds_toArray, List.set_cons_zero, List.set_cons_succ]
  refine but_take (i := 11) (v := .pointer (some ⟨bc, 4, none⟩)) rfl rfl (by kernel_rfl) (fun _ _ _ h => h) hS0 rfl (fun W hW => by go_simp) ?_
  simp only [Act.put, List.setIfInBounds_toArray, List.set_cons_zero, List.set_cons_succ]
  refine but_take (i := 12) (v := .agg #[.int .u64 (nn f), .int .i64 (ss f), .pointer none]) rfl rfl (by kernel_rfl) (fun _ _ _ h => h) hS0 rfl (fun W hW => by go_simp) ?_
  simp only [Act.put, List.setIfInBounds_toArray, List.set_cons_zero, List.set_cons_succ]
  refine but_take (i := 13) (v := .pointer (some ⟨bc, 0, none⟩)) rfl rfl (by kernel_rfl) (fun _ _ _ h => h) hS0 rfl (fun W hW => by go_simp) ?_
  simp only [Act.put, List.setIfInBounds_toArray, List.set_cons_zero, List.set_cons_succ]
  refine but_take (i := 14) (v := .pointer (some ⟨bc, 0, none⟩)) rfl rfl (by kernel_rfl) (fun _ _ _ h => h) hS0 rfl (fun W hW => by go_simp) ?_
  simp only [Act.put, List.setIfInBounds_toArray, List.set_cons_zero, List.set_cons_succ]
  refine but_take (i := 15) (v := .pointer (some ⟨bc, 9, none⟩)) rfl rfl (by kernel_rfl) (fun _ _ _ h => h) hS0 rfl (fun W hW => by go_simp) ?_
  simp only [Act.put, List.setIfInBounds_toArray, List.set_cons_zero, List.set_cons_succ]
  refine but_take (i := 16) (v := .agg #[.int .u64 (nn l), .int .i64 (ss l), .pointer none]) rfl rfl (by kernel_rfl) (fun _ _ _ h => h) hS0 rfl (fun W hW => by go_simp) ?_
  simp only [Act.put, List.setIfInBounds_toArray, List.set_cons_zero, List.set_cons_succ]
  refine but_take (i := 17) (v := .pointer (some ⟨bc, 0, none⟩)) rfl rfl (by kernel_rfl) (fun _ _ _ h => h) hS0 rfl (fun W hW => by go_simp) ?_
  simp only [Act.put, List.setIfInBounds_toArray, List.set_cons_zero, List.set_cons_succ]
  refine but_take (i := 18) (v := .pointer (some ⟨bc, 0, none⟩)) rfl rfl (by kernel_rfl) (fun _ _ _ h => h) hS0 rfl (fun W hW => by go_simp) ?_
  simp only [Act.put, List.setIfInBounds_toArray, List.set_cons_zero, List.set_cons_succ]
  refine but_take (i := 19) (v := .pointer (some ⟨bc, 7, none⟩)) rfl rfl (by kernel_rfl) (fun _ _ _ h => h) hS0 rfl (fun W hW => by go_simp) ?_
  simp only [Act.put, List.setIfInBounds_toArray, List.set_cons_zero, List.set_cons_succ]
  refine but_take (i := 20) (v := .slice lao ln lcap) rfl rfl (by kernel_rfl) (fun _ _ _ h => h) hS0 rfl (fun W hW => by go_simp) ?_
  simp only [Act.put, List.setIfInBounds_toArray, List.set_cons_zero, List.set_cons_succ]
  refine but_take (i := 21) (v := .pointer (some ⟨bc, 0, none⟩)) rfl rfl (by kernel_rfl) (fun _ _ _ h => h) hS0 rfl (fun W hW => by go_simp) ?_
  simp only [Act.put, List.setIfInBounds_toArray, List.set_cons_zero, List.set_cons_succ]
  refine but_take (i := 22) (v := .pointer (some ⟨bc, 0, none⟩)) rfl rfl (by kernel_rfl) (fun _ _ _ h => h) hS0 rfl (fun W hW => by go_simp) ?_
  simp only [Act.put, List.setIfInBounds_toArray, List.set_cons_zero, List.set_cons_succ]
  refine but_take (i := 23) (v := .pointer (some ⟨bc, 8, none⟩)) rfl rfl (by kernel_rfl) (fun _ _ _ h => h) hS0 rfl (fun W hW => by go_simp) ?_
  simp only [Act.put, List.setIfInBounds_toArray, List.set_cons_zero, List.set_cons_succ]
  refine but_take (i := 24) (v := .slice gao gn gcap) rfl rfl (by kernel_rfl) (fun _ _ _ h => h) hS0 rfl (fun W hW => by go_simp) ?_
  simp only [Act.put, List.setIfInBounds_toArray, List.set_cons_zero, List.set_cons_succ]
  refine but_step (i := 25) (by kernel_rfl) rfl ?_ rfl
  go_wp2_with fail
  refine (k36 _).mono ?_
  rintro e w1 ⟨a, n, c, b, m, c2, rfl, hC, hr1, hr2, hb1, hk1⟩
  obtain ⟨ka, kn2, kc2, w2, hrun, hmid, hb2, hk2⟩ := append_kept hC hbc hK ((num, ps), .slice a n c, .slice b m c2) hr1 hr2 oneCells
  obtain ⟨d0, d1, d2, d3, d4, d5, d6, d7, d8, d9, d10, d11, d12⟩ := hC.all.1
  obtain ⟨⟨e0, e1, e2, e3, e4, e5, e6, e7, e8, e9, e10, e11, e12⟩, y0, y1, y2, y3, y4, y5, y6, y7, y8, y9, y10, y11, y12⟩ := hmid.all
  go_wp2_with fail
  refine ⟨fun _ => ⟨d3, d4, d5, d6, d7, d8, d9, d10, d11, d12⟩, ?_⟩
  refine but_step (i := 26) (by kernel_rfl) rfl ?_ rfl
  go_wp2_with fail
  refine ⟨fun _ => ?_, ?_⟩
  · obtain ⟨a0, a1, a2, a3, a4, a5, a6, a7, a8, a9, a10, a11, a12⟩ := (hC.later ((Below.refl _ _).alloc (Nat.le_refl _) (.cells (winOf d ((num, ps), .slice a n c, .slice b m c2)) 36))).all.1
    exact ⟨a3, a4, a5, a6, a7, a8, a9, a10, a11, a12⟩
  refine but_step (i := 27) (by kernel_rfl) rfl ?_ rfl
  refine list_append_run 24 rfl _ _ rfl _ _ _ _ rfl rfl hrun ?_
  refine ⟨fun _ => ⟨e3, e4, e5, e6, e7, e8, e9, e10, e11, e12⟩, ?_⟩
  simp only [Act.put, List.setIfInBounds_toArray, List.set_cons_zero, List.set_cons_succ]
  refine but_step (i := 28) (by kernel_rfl) rfl ?_ rfl
  go_wp2_with fail
  refine ⟨fun _ => ⟨e3, e4, e5, e6, e7, e8, e9, e10, e11, e12⟩, ?_⟩
  refine but_step (i := 29) (by kernel_rfl) rfl ?_ rfl
  go_wp2_with fail
  refine ⟨fun _ => ⟨e3, e4, e5, e6, e7, e8, e9, e10, e11, e12⟩, ?_⟩
  refine but_step (i := 30) (by kernel_rfl) rfl ?_ rfl
  go_wp2_with fail
  refine ⟨fun h => absurd rfl h, ?_⟩
  refine but_done (by kernel_rfl) ?_ _
  have hfin := hmid.store
  obtain ⟨⟨p0, p1, p2, p3, p4, p5, p6, p7, p8, p9, p10, p11, p12⟩, r0, r1, r2, r3, r4, r5, r6, r7, r8, r9, r10, r11, r12⟩ := hfin.all
  have hK3 : Keep33 w (w2.setCell ⟨bc, 12, none⟩ (.slice ka kn2 kc2)) := (hk1.trans hk2).trans (keep_set hmid.block (by decide) _)
  have hB : Below base w (w2.setCell ⟨bc, 12, none⟩ (.slice ka kn2 kc2)) := (hb1.trans hb2).setCell hbc _
  clear hmid hC hrun hb1 hb2 hk1 hk2 hS0 hr1 hr2 k36 d0 d1 d2 d3 d4 d5 d6 d7 d8 d9 d10 d11 d12 e0 e1 e2 e3 e4 e5 e6 e7 e8 e9 e10 e11 e12 y0 y1 y2 y3 y4 y5 y6 y7 y8 y9 y10 y11 y12 c3 c4 c5 c6 c7 c8 c9 c10 c11 c12 f0 f1 f2 f3 f4 f5 f6 f7 f8 f9 f10 f11 f12
  generalize w2.setCell ⟨bc, 12, none⟩ (.slice ka kn2 kc2) = w3 at *
  obtain ⟨xa, xn, xc, hx, _, _, _, hlr⟩ := owns_cut hfin.lens
  cases hx
  obtain ⟨za, zn, zc, hz, _, _, _, hgr⟩ := owns_cut hfin.gaps
  cases hz
  go_wp2_with fail
  go_end0
  refine ⟨rfl, .slice lao 0 lcap, .slice gao 0 gcap, .slice ka kn2 kc2, KH ++ [((num, ps), .slice a n c, .slice b m c2)], by simp, ?_, ?_, ?_⟩
  · have h1 := hfin.setLens (xs' := []) hlr
    exact h1.setGaps (ys' := []) (u := .slice gao 0 gcap) (ownsRow_setCell_other hgr (owns_ne hgr hfin.block (by decide)) _)
  · exact (hB.setCell hbc _).setCell hbc _
  · have h1 := hfin.setLens (xs' := []) hlr
    exact (hK3.trans (keep_set hfin.block (by decide) _)).trans (keep_set h1.block (by decide) _)
end Go.Proofs.Qxb6629007a
