/-
  Seat b6628445a: ShortMessages (function 9) with a header, and with one part: walked.
-/
import Derived.Test.Qxb6628445aGates
import Derived.Deep.RegionHeld3
import Derived.Deep.DrawnRows
namespace Go.Proofs.Qxb6628445a
open Go.RowKit

set_option maxRecDepth 100000 in
set_option maxHeartbeats 400000 in
theorem f13_any (a : Addr) (n cap : Nat) (w : World) (h : n ≤ cap) : Calls Try.prog 13 #[.slice (some a) n cap] w fun e w' => e = .returned (.slice (some a) n n) ∧ w' = w := by
  go_enter Try.func13, Try.ntmps13
  go_wp2
  go_ret
  exact ⟨rfl, rfl⟩

theorem Rd.drew {w : World} {ao : Option Addr} {vs : List Value} (h : Rd w ao vs) : Rd w.drew ao vs := h
theorem Bts.drew {w : World} {s : Sl} {xs : List Int} (h : Bts w s xs) : Bts w.drew s xs := ⟨h.len, h.room, h.bare, h.rd⟩

/-- AN APPEND WHOSE RUN IS KNOWN, at a step of a region that draws its order. -/
theorem step_append_run {w : World} {ops : Array Oper} {o : Oper} {a : Act} {K : Act → World → Prop} {Q : Exit → Act → World → Prop} {E : Prop} (hgd : o.guard = none) (s x : Operand)
    (ho : o.op = .call { callee := .builtin .append, args := #[s, x], argTypes := #[23, 23] }) (v u v' : Value) (w' : World) (hs : a.eval s = v) (hx : a.eval x = u)
    (hrun : (Builtin.append_ #[23, 23] o.type #[v, u]).run Try.prog w = .ok v' w') (h : K (a.put o.dst v') w') :
    if Region.wanted o (yielded ops a.tmps) = true then Oper.wp Try.prog o a w K Q else E := by
  have hw : Region.wanted o (yielded ops a.tmps) = true := by simp [Region.wanted, hgd]
  rw [if_pos hw]
  unfold Oper.wp execOp
  simp only [ho, resolve, invoke, builtin, Sem.run_bind, Sem.run_pure, Result.andThen_ok, List.map_toArray, List.map_cons, List.map_nil, hs, hx, hrun]
  exact h

theorem mat_one {w : World} {r : Sl} {xs : List Int} (h : Bts w r xs) : Mat (w.alloc (.cells #[.slice r.ao r.n r.cap] 23)) (some ⟨w.heap.size, 0, none⟩) [r] [xs] := by
  refine ⟨rfl, Rd.ofBlock (cur := #[.slice r.ao r.n r.cap]) (e := 23) (by rw [heap_alloc_get, if_pos rfl]) (fun k hk => ?_), fun k h1 h2 => ?_⟩
  · have : k = 0 := by simp at hk; omega
    subst this
    rfl
  · have : k = 0 := by simp at h1; omega
    subst this
    exact h.later ((Below.refl _ _).alloc (Nat.le_refl _) _)

theorem below_of_drew {w w1 : World} (h : Below w.drew.heap.size w.drew w1) : Below w.heap.size w w1 := ⟨h.os, h.tape, h.output, h.size, h.block⟩

attribute [local go_sem ↓] Go.wp_at_zero Go.wp_at_succ

set_option maxRecDepth 100000 in
set_option maxHeartbeats 400000 in
theorem f9_header (eb : Nat) (ref : Int) (a : Addr) (nh hcap : Nat) (hx : List Int) (ao : Option Addr) (rs : List Sl) (n cap : Nat) (rows : List (List Int)) (w : World) (hm : Mat w ao rs rows) (hn : n = rs.length) (hh : Bts w ⟨some a, nh, hcap⟩ hx)
    (c2 : w.cell? ⟨eb, 2, none⟩ = some (.slice ao n cap)) (c3 : w.cell? ⟨eb, 3, none⟩ = some (.slice (some a) nh hcap)) (hpos : 0 < n) (hS : Small rs rows hx) :
    Calls Try.prog 9 #[.pointer (some ⟨eb, 0, none⟩), .int .u8 ref] w fun e w' => ∃ (ra : Option Addr) (rs' : List Sl) (rc : Nat), e = .returned (.slice ra rs'.length rc) ∧ Mat w' ra rs' [hx ++ rows.headD []] ∧ Below w.heap.size w w' := by
  have hne : ∀ W : World, (binOp .neq 23 (.slice (some a) nh hcap) (.slice none 0 0)).run Try.prog W = .ok (.bool true) W := fun W => by
    have := run_neq_slice_nil_any (P := Try.prog) W 23 5 (some a) nh hcap 0 0 Try.underlying23
    simpa using this
  obtain ⟨p, hp1, hp2⟩ := hm.at cap (k := 0) (by omega)
  rw [← hn, show ((0 : Nat) : Int) = 0 from rfl] at hp1
  have hks : 0 < rs.length := by omega
  have hkr : 0 < rows.length := by rw [← hm.len]; exact hks
  have hbt := hm.each 0 hks hkr
  have hhd : rows.headD [] = rows[0] := by cases rows <;> simp at hkr ⊢
  have hle := hS.2.2 _ (List.getElem_mem hkr)
  have hl2 := hS.2.1
  rw [hhd]
  have HN : Hid (n = rs.length) := hn
  generalize rs[0] = q at *
  generalize rows[0] = px at *
  clear hn
  obtain ⟨r, w1, hrun, hb1, hbel1⟩ := run_append_full (w := w.drew) (s := ⟨some a, nh, nh⟩) (p := q) (xs := hx) (ys := px) ⟨hh.len, Nat.le_refl _, (fun e => by cases e), hh.rd.drew⟩ rfl hbt.drew (by omega) 23
  have hroom : nh ≤ hcap := hh.room
  have k2 : w1.cell? ⟨eb, 2, none⟩ = some (.slice ao n cap) := (hbel1.cell (World.block_lt_of_cell? w.drew _ c2)).trans c2
  have k3 : w1.cell? ⟨eb, 3, none⟩ = some (.slice (some a) nh hcap) := (hbel1.cell (World.block_lt_of_cell? w.drew _ c3)).trans c3
  have k4 : w1.cell? p = some (.slice q.ao q.n q.cap) := (hbel1.cell (World.block_lt_of_cell? w.drew _ hp2)).trans hp2
  have e2 := World.new_ne w1 _ k2
  have e3 := World.new_ne w1 _ k3
  have e4 := World.new_ne w1 _ k4
  go_enter Try.func9, Try.ntmps9
  go_wp2
  go_region_held3 (fun w' => w'.cell? ⟨eb, 2, none⟩ = some (.slice ao n cap) ∧ w'.cell? ⟨eb, 3, none⟩ = some (.slice (some a) nh hcap) ∧ w'.cell? p = some (.slice q.ao q.n q.cap)) (go_keep)
    (first | (go_at_call 13; refine (f13_any _ _ _ _ hroom).mono ?_; rintro e w' ⟨rfl, rfl⟩) | (refine step_append_run (by rfl) _ _ (by rfl) _ _ _ _ (by rfl) (by rfl) hrun ?_))
  go_wp2
  go_ret
  exact ⟨_, [r], 1, rfl, mat_one hb1, (below_of_drew hbel1).alloc hbel1.size _⟩

set_option maxRecDepth 100000 in
set_option maxHeartbeats 400000 in
theorem f9_one (eb : Nat) (ref : Int) (ao : Option Addr) (rs : List Sl) (cap : Nat) (rows : List (List Int)) (w : World) (hm : Mat w ao rs rows) (hn : 1 = rs.length)
    (c2 : w.cell? ⟨eb, 2, none⟩ = some (.slice ao 1 cap)) (c3 : w.cell? ⟨eb, 3, none⟩ = some (.slice none 0 0)) :
    Calls Try.prog 9 #[.pointer (some ⟨eb, 0, none⟩), .int .u8 ref] w fun e w' => ∃ (ra : Option Addr) (rs' : List Sl) (rc : Nat), e = .returned (.slice ra rs'.length rc) ∧ Mat w' ra rs' [rows.headD []] ∧ Below w.heap.size w w' := by
  have hne : ∀ W : World, (binOp .neq 23 (.slice none 0 0) (.slice none 0 0)).run Try.prog W = .ok (.bool false) W := fun W => by
    have := run_neq_slice_nil_any (P := Try.prog) W 23 5 none 0 0 0 0 Try.underlying23
    simpa using this
  obtain ⟨p, hp1, hp2⟩ := hm.at cap (k := 0) (by omega)
  rw [← hn, show ((0 : Nat) : Int) = 0 from rfl] at hp1
  have hks : 0 < rs.length := by omega
  have hkr : 0 < rows.length := by rw [← hm.len]; exact hks
  have hbt := hm.each 0 hks hkr
  have hhd : rows.headD [] = rows[0] := by cases rows <;> simp at hkr ⊢
  rw [hhd]
  generalize rs[0] = q at *
  generalize rows[0] = px at *
  clear hn
  go_enter Try.func9, Try.ntmps9
  go_wp2
  go_ret
  exact ⟨_, [q], 1, rfl, mat_one hbt, (Below.refl _ _).alloc (Nat.le_refl _) _⟩
end Go.Proofs.Qxb6628445a
