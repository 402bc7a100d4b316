/-
  Seat b6629007a: (*Cutter).end where the window is dropped; append onto the kept windows.
-/
import Derived.Test.Qxb6629007aCut0
import Derived.Deep.QuietTactic
import Derived.BigQuiet
import Derived.WalkSmall
import Derived.Deep.RegionHeld3
namespace Go.Proofs.Qxb6629007a
open Go.RowKit

/-- The blocks of boxed times stand as they stood. -/
def Keep33 (w w2 : World) : Prop := ∀ (b : Nat) (c : Array Value) (fr : Nat × Nat), w.heap[b]? = some (Obj.cells c 33 fr) → w2.heap[b]? = some (Obj.cells c 33 fr)

theorem Keep33.trans {a b c : World} (h : Keep33 a b) (h2 : Keep33 b c) : Keep33 a c := fun k x fr hk => h2 k x fr (h k x fr hk)
theorem keep_below {a b : World} (h : Below a.heap.size a b) : Keep33 a b := fun k x fr hk => by rw [h.block k (Array.getElem?_eq_some_iff.1 hk).1]; exact hk
theorem keep_set {w : World} {b k : Nat} {c : Array Value} {e : TypeId} {fr : Nat × Nat} (hb : w.heap[b]? = some (.cells c e fr)) (he : e ≠ 33) (u : Value) : Keep33 w (w.setCell ⟨b, k, none⟩ u) := fun j x fr hk => by
  rw [Below.heap_setCell _ _ _ _ (fun e2 => by have e3 : j = b := e2; rw [e3, hb] at hk; cases hk; exact he rfl)]; exact hk
theorem keep_grown {w w' : World} {base : Nat} {e : TypeId} {size : Nat} {v : Value} {n : Nat} {xs : List Value} (h : w.ownsRow base e size v n xs) (he : e ≠ 33) (hg : w.grownBy w' v.ownBlock) : Keep33 w w' := fun j x fr hk => by
  rw [hg.block j (Array.getElem?_eq_some_iff.1 hk).1 (fun e2 => owns_ne h hk he e2.symm)]; exact hk

theorem CutAt.drew {base bc : Nat} {P M I d num f l : Int} {xs ys : List Int} {K : List Kept} {KH : List (Kept × Value × Value)} {lv gv kv : Value} {w : World} (h : CutAt base bc P M I d num f l xs ys K KH lv gv kv w) (q : Nat) :
    CutAt base bc P M I d num f l xs ys K KH lv gv kv (w.drewN q) := h.later (below_q q)

theorem CutAt.all {base bc : Nat} {P M I d num f l : Int} {xs ys : List Int} {K : List Kept} {KH : List (Kept × Value × Value)} {lv gv kv : Value} {w : World} (h : CutAt base bc P M I d num f l xs ys K KH lv gv kv w) :
    (w.cell? ⟨bc, 0, none⟩ = some (.int .i64 P) ∧ w.cell? ⟨bc, 1, none⟩ = some (.int .i64 M) ∧ w.cell? ⟨bc, 2, none⟩ = some (.int .i64 I) ∧ w.cell? ⟨bc, 3, none⟩ = some (.int .i64 num) ∧ w.cell? ⟨bc, 4, none⟩ = some (.int .u64 (nn f)) ∧ w.cell? ⟨bc, 5, none⟩ = some (.int .i64 (ss f)) ∧ w.cell? ⟨bc, 6, none⟩ = some (.pointer none) ∧ w.cell? ⟨bc, 7, none⟩ = some (lv) ∧ w.cell? ⟨bc, 8, none⟩ = some (gv) ∧ w.cell? ⟨bc, 9, none⟩ = some (.int .u64 (nn l)) ∧ w.cell? ⟨bc, 10, none⟩ = some (.int .i64 (ss l)) ∧ w.cell? ⟨bc, 11, none⟩ = some (.pointer none) ∧ w.cell? ⟨bc, 12, none⟩ = some (kv)) ∧
    (w.frozen? ⟨bc, 0, none⟩ = false ∧ w.frozen? ⟨bc, 1, none⟩ = false ∧ w.frozen? ⟨bc, 2, none⟩ = false ∧ w.frozen? ⟨bc, 3, none⟩ = false ∧ w.frozen? ⟨bc, 4, none⟩ = false ∧ w.frozen? ⟨bc, 5, none⟩ = false ∧ w.frozen? ⟨bc, 6, none⟩ = false ∧ w.frozen? ⟨bc, 7, none⟩ = false ∧ w.frozen? ⟨bc, 8, none⟩ = false ∧ w.frozen? ⟨bc, 9, none⟩ = false ∧ w.frozen? ⟨bc, 10, none⟩ = false ∧ w.frozen? ⟨bc, 11, none⟩ = false ∧ w.frozen? ⟨bc, 12, none⟩ = false) :=
  ⟨⟨(row_cell h.block).1, (row_cell h.block).1, (row_cell h.block).1, (row_cell h.block).1, (row_cell h.block).1, (row_cell h.block).1, (row_cell h.block).1, (row_cell h.block).1, (row_cell h.block).1, (row_cell h.block).1, (row_cell h.block).1, (row_cell h.block).1, (row_cell h.block).1⟩, (row_cell h.block).2, (row_cell h.block).2, (row_cell h.block).2, (row_cell h.block).2, (row_cell h.block).2, (row_cell h.block).2, (row_cell h.block).2, (row_cell h.block).2, (row_cell h.block).2, (row_cell h.block).2, (row_cell h.block).2, (row_cell h.block).2, (row_cell h.block).2⟩

set_option maxRecDepth 100000 in
set_option maxHeartbeats 1000000 in
theorem f28_drop (base bc : Nat) (P M I d num f l : Int) (xs ys : List Int) (K : List Kept) (KH : List (Kept × Value × Value)) (lv gv kv : Value) (w : World) (h : CutAt base bc P M I d num f l xs ys K KH lv gv kv w) (hbc : base ≤ bc)
    (hM : ¬ M ≤ (xs.length : Int)) :
    Calls Try.prog 28 #[.pointer (some ⟨bc, 0, none⟩)] w fun e w' => e = .returned (.tuple #[]) ∧ ∃ lv' gv', CutAt base bc P M I d num f l [] [] K KH lv' gv' kv w' ∧ Below base w w' ∧ Keep33 w w' := by
  obtain ⟨lao, ln, lcap, rfl, hln, hlc, hl0, hlr⟩ := owns_cut h.lens
  obtain ⟨gao, gn, gcap, rfl, hgn, hgc, hg0, hgr⟩ := owns_cut h.gaps
  have hM' : decide (M ≤ (ln : Int)) = false := decide_eq_false (by rw [hln]; exact hM)
  obtain ⟨⟨c0, c1, c2, c3, c4, c5, c6, c7, c8, c9, c10, c11, c12⟩, f0, f1, f2, f3, f4, f5, f6, f7, f8, f9, f10, f11, f12⟩ := h.all
  clear hln hgn hM
  go_enter Try.func28, Try.ntmps28
  go_wp2_with fail
  go_quiet (fail)
  go_wp2_with fail
  go_end0
  have h1 := h.setLens (xs' := []) hlr
  refine ⟨rfl, .slice lao 0 lcap, .slice gao 0 gcap, ?_, ?_, ((keep_set h.block (by decide) _).trans (keep_set h1.block (by decide) _)).trans (keep_below (below_q _))⟩
  · have h2 := h1.setGaps (ys' := []) (u := .slice gao 0 gcap) (ownsRow_setCell_other hgr (owns_ne hgr h.block (by decide)) _)
    exact h2.drew _
  · exact (((Below.refl _ _).setCell hbc _).setCell hbc _).trans ((below_q _).mono (by have := h.size; simp; omega))


theorem step_append_run {w : World} {ops : Array Oper} {o : Oper} {a : Act} {K : Act → World → Prop} {Q : Exit → Act → World → Prop} {E : Prop} (t : TypeId) (hgd : o.guard = none) (s x : Operand)
    (ho : o.op = .call { callee := .builtin .append, args := #[s, x], argTypes := #[t, t] }) (v u v' : Value) (w' : World) (hs : a.eval s = v) (hx : a.eval x = u)
    (hrun : (Builtin.append_ #[t, t] o.type #[v, u]).run Try.prog w = .ok v' w') (h : K (a.put o.dst v') w') :
    if Region.wanted o (yielded ops a.tmps) = true then Oper.wp Try.prog o a w K Q else E := by
  have hw : Region.wanted o (yielded ops a.tmps) = true := by simp [Region.wanted, hgd]
  rw [if_pos hw]
  unfold Oper.wp execOp
  simp only [ho, resolve, invoke, builtin, Sem.run_bind, Sem.run_pure, Result.andThen_ok, List.map_toArray, List.map_cons, List.map_nil, hs, hx, hrun]
  exact h

/-- The cutter while a longer list of kept windows is made: its block still holds kb. -/
structure CutMid (base bc : Nat) (P M I d : Int) (num f l : Int) (xs ys : List Int) (K : List Kept) (KH : List (Kept × Value × Value)) (lv gv kb kv : Value) (w : World) : Prop where
  block : w.heap[bc]? = some (.cells (cutArr P M I num f l lv gv kb) 66 (0, 0))
  lens : w.ownsRow base 68 1 lv xs.length (xs.map (Value.int .u32))
  gaps : w.ownsRow base 67 1 gv ys.length (ys.map (Value.int .u16))
  kept : KeptAt base d K KH kv w

section
variable {base bc : Nat} {P M I d num f l : Int} {xs ys : List Int} {K : List Kept} {KH : List (Kept × Value × Value)} {lv gv kv : Value} {w : World}

theorem CutMid.store {kb : Value} (h : CutMid base bc P M I d num f l xs ys K KH lv gv kb kv w) : CutAt base bc P M I d num f l xs ys K KH lv gv kv (w.setCell ⟨bc, 12, none⟩ kv) :=
  ⟨heap_setCell_row h.block, ownsRow_setCell_other h.lens (owns_ne h.lens h.block (by decide)) _, ownsRow_setCell_other h.gaps (owns_ne h.gaps h.block (by decide)) _, h.kept.setCell h.block (by decide) (by decide) _⟩

theorem winOf_length (d : Int) (x : Kept × Value × Value) : (winOf d x).toList.length = 15 := rfl

theorem cell_new15 {w : World} {c : Array Value} {e : TypeId} : ∀ (j : Nat) (u : Value), c.toList[j]? = some u → (w.alloc (Obj.cells c e)).cell? ((⟨w.heap.size, 0, none⟩ : Addr).add j) = some u := by
  intro j u hj
  rw [show (⟨w.heap.size, 0, none⟩ : Addr).add j = ⟨w.heap.size, j, none⟩ from by unfold Addr.add; split <;> simp_all]
  rw [(row_cell (alloc1_row w c e)).1]
  simpa using hj

/-- 'append(c.kept, W)': the kept windows and one more. -/
theorem append_kept (h : CutAt base bc P M I d num f l xs ys K KH lv gv kv w) (hbc : base ≤ bc) (hK : KH.length ≤ 4096) (x : Kept × Value × Value) (hx1 : w.ownsRow base 71 2 x.2.1 (lhist x.1.2).length (bucketCells (lhist x.1.2))) (hx2 : w.ownsRow base 71 2 x.2.2 (ghist x.1.2).length (bucketCells (ghist x.1.2)))
    (ho : ∀ u ∈ (winOf d x).toList, u.oneCell' = true) :
    ∃ ao n cap w2, (Builtin.append_ #[24, 24] 24 #[kv, .slice (some ⟨w.heap.size, 0, none⟩) 1 1]).run Try.prog (w.alloc (.cells (winOf d x) 36)) = .ok (.slice ao n cap) w2 ∧
      CutMid base bc P M I d num f l xs ys (K ++ [x.1]) (KH ++ [x]) lv gv kv (.slice ao n cap) w2 ∧ Below base w w2 ∧ Keep33 w w2 := by
  obtain ⟨i0, hi, hz0, hz1, hz2⟩ := info_parts info36
  have hbase : base ≤ w.heap.size := Nat.le_trans hbc (Nat.le_of_lt h.size)
  obtain ⟨v', w2, hrun, hown, hg, _⟩ := run_append_own (P := Try.prog) (w.alloc (.cells (winOf d x) 36)) base 24 24 36 i0 _ 15 152 Try.underlying24 hi hz0 hz1 hz2 rfl (by decide) kv KH.length _ (h.kept.own.alloc _)
    ⟨w.heap.size, 0, none⟩ 1 1 (winOf d x).toList rfl cell_new15 ho (by unfold maxLen; omega) (by omega) (by rw [World.size_alloc]; omega)
  have hcut := h.later ((Below.refl _ _).alloc (Nat.le_refl _) (.cells (winOf d x) 36))
  have hr1 := hx1.alloc (.cells (winOf d x) 36)
  have hr2 := hx2.alloc (.cells (winOf d x) 36)
  have hne : ∀ {e : TypeId} {v : Value} {n : Nat} {sz : Nat} {vs : List Value}, (w.alloc (.cells (winOf d x) 36)).ownsRow base e sz v n vs → e ≠ 36 → v.ownBlock = none ∨ v.ownBlock ≠ kv.ownBlock := by
    intro e v n sz vs ho he
    rcases hcut.kept.own.2 with ⟨rfl, _⟩ | ⟨g, cap, cur, rfl, _, hg, _⟩
    · cases hv : v.ownBlock with
      | none => exact .inl rfl
      | some b => exact .inr (by simp [Value.ownBlock])
    · exact .inr (owns_ne ho hg he)
  have hB : Below base w w2 := ((Below.refl _ _).alloc hbase _).grown hg (by rw [World.size_alloc]; omega) (fun k hk => (h.kept.own.lt k hk).1)
  have hkb : some bc ≠ kv.ownBlock := fun e => owns_ne hcut.kept.own hcut.block (by decide) e.symm
  rcases hown.2 with ⟨_, h0⟩ | ⟨g, cap, cur, rfl, h1, h2, h3⟩
  · omega
  · refine ⟨_, _, cap, w2, hrun, ⟨?_, hcut.lens.kept hg (hne hcut.lens (by decide)), hcut.gaps.kept hg (hne hcut.gaps (by decide)), ⟨by rw [List.map_append, h.kept.names]; rfl, ?_, ?_⟩⟩, hB, (keep_below ((Below.refl _ _).alloc (Nat.le_refl _) _)).trans (keep_grown hcut.kept.own (by decide) hg)⟩
    · rw [hg.block bc hcut.size hkb]; exact hcut.block
    · rw [List.flatMap_append, List.length_append]
      simpa using hown
    · intro y hy
      rcases List.mem_append.1 hy with hy | hy
      · exact ⟨(hcut.kept.rows y hy).1.kept hg (hne (hcut.kept.rows y hy).1 (by decide)), (hcut.kept.rows y hy).2.kept hg (hne (hcut.kept.rows y hy).2 (by decide))⟩
      · obtain rfl : y = x := by simpa using hy
        exact ⟨hr1.kept hg (hne hr1 (by decide)), hr2.kept hg (hne hr2 (by decide))⟩
end

end Go.Proofs.Qxb6629007a
