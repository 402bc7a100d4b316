/-
  Seat b6629007a: the small exports, the slice of packets, the plain cutter over a flow.
-/
import Derived.Test.Qxb6629007aAdd
namespace Go.Proofs.Qxb6629007a
open Go.RowKit

/-- The slice of packets reads as ps. -/
structure Pks (w : World) (ao : Option Addr) (n cap : Nat) (ps : List Pkt) : Prop where
  len : n = ps.length
  rd : ∃ b off, b < w.heap.size + 1 ∧ ∀ k (h : k < ps.length), (∀ W : World, (Instr.indexAt 22 (.slice ao n cap) (.int .i64 (k : Int))).run Try.prog W = .ok (.pointer (some ⟨b, off + k * 2, none⟩)) W) ∧
    w.cell? ⟨b, off + k * 2, none⟩ = some (.int .i64 ps[k].1) ∧ w.cell? ⟨b, off + k * 2 + 1, none⟩ = some (.int .i64 ps[k].2) ∧ b < w.heap.size
  wf : ∀ q ∈ ps, (-9223372036854775808 ≤ q.1 ∧ q.1 < 9223372036854775808) ∧ (-9223372036854775808 ≤ q.2 ∧ q.2 < 9223372036854775808)

theorem Pks.later {w w' : World} {ao : Option Addr} {n cap : Nat} {ps : List Pkt} (h : Pks w ao n cap ps) (hb : Below w.heap.size w w') : Pks w' ao n cap ps := by
  obtain ⟨b, off, h0, h1⟩ := h.rd
  refine ⟨h.len, ⟨b, off, by have := hb.size; omega, fun k hk => ?_⟩, h.wf⟩
  obtain ⟨a1, a2, a3, a4⟩ := h1 k hk
  exact ⟨a1, by rw [hb.cell (by exact a4)]; exact a2, by rw [hb.cell (by exact a4)]; exact a3, by have := hb.size; omega⟩

set_option maxRecDepth 100000 in
theorem f12_any (P M I d : Int) (w : World) :
    Calls Try.prog 12 #[.agg #[.int .i64 P, .int .i64 M, .int .i64 I]] w fun e w' => e = .returned (.pointer (some ⟨w.heap.size + 1, 0, none⟩)) ∧ CutterAt w.heap.size (w.heap.size + 1) P M I d ⟨0, [], []⟩ w' ∧ Below w.heap.size w w' := by
  go_enter Try.func12, Try.ntmps12
  go_wp2
  go_ret
  refine ⟨rfl, ⟨0, 0, [], .slice none 0 0, .slice none 0 0, .slice none 0 0, ⟨?_, World.ownsRow_nil _ _ _ _, World.ownsRow_nil _ _ _ _, ⟨rfl, World.ownsRow_nil _ _ _ _, fun x hx => by cases hx⟩⟩, fun h => absurd rfl h, by omega⟩, below_two _ _ _⟩
  rw [heap_alloc_get, World.size_alloc, if_pos rfl]
  rfl

set_option maxRecDepth 100000 in
theorem f15_any {base bc : Nat} {P M I d : Int} {s : St} {w : World} (h : CutterAt base bc P M I d s w) :
    Calls Try.prog 15 #[.pointer (some ⟨bc, 0, none⟩)] w fun e w' => e = .returned (.int .i64 (s.ps.length : Int)) ∧ w' = w := by
  obtain ⟨f, l, KH, lv, gv, kv, hC, _, _⟩ := h
  obtain ⟨lao, ln, lcap, rfl, hln, _, _, _⟩ := owns_cut hC.lens
  rw [lensOf_length] at hln
  obtain ⟨⟨c0, c1, c2, c3, c4, c5, c6, c7, c8, c9, c10, c11, c12⟩, _⟩ := hC.all
  have HLN : Hid (ln = s.ps.length) := hln
  clear hln
  go_enter Try.func15, Try.ntmps15
  go_wp2
  go_ret
  exact ⟨by rw [← HLN.out]; rfl, rfl⟩

set_option maxRecDepth 100000 in
theorem f18_any {base bc : Nat} {P M I d : Int} {s : St} {w : World} (h : CutterAt base bc P M I d s w) :
    Calls Try.prog 18 #[.pointer (some ⟨bc, 0, none⟩)] w fun e w' => e = .returned (.int .i64 s.number) ∧ w' = w := by
  obtain ⟨f, l, KH, lv, gv, kv, hC, _, _⟩ := h
  obtain ⟨⟨c0, c1, c2, c3, c4, c5, c6, c7, c8, c9, c10, c11, c12⟩, _⟩ := hC.all
  go_enter Try.func18, Try.ntmps18
  go_wp2
  go_ret
  exact ⟨rfl, rfl⟩

set_option maxRecDepth 100000 in
theorem f17_any {bc : Nat} {kv : Value} {w : World} (c12 : w.cell? ⟨bc, 12, none⟩ = some kv) :
    Calls Try.prog 17 #[.pointer (some ⟨bc, 0, none⟩)] w fun e w' => e = .returned kv ∧ w' = w := by
  go_enter Try.func17, Try.ntmps17
  go_wp2
  go_ret
  exact ⟨rfl, rfl⟩

set_option maxRecDepth 100000 in
theorem f16_any (base bc : Nat) (P M I d : Int) (s : St) (w : World) (h : CutterAt base bc P M I d s w) (hbc : base ≤ bc) (hne : s.ps ≠ []) (hlen : s.ps.length ≤ 4096) (hK : s.kept.length ≤ 4096) :
    Calls Try.prog 16 #[.pointer (some ⟨bc, 0, none⟩)] w fun e w' => e = .returned (.tuple #[]) ∧ CutterAt base bc P M I d (endSt M s) w' ∧ Below base w w' := by
  go_enter Try.func16, Try.ntmps16
  go_wp2_with fail
  refine (f28_st base bc P M I d s w h hbc hne hlen hK).mono ?_
  rintro e w1 ⟨rfl, h1, h2, _⟩
  go_wp2
  go_end0
  exact ⟨rfl, h1, h2⟩

/-- The plain cutter over a flow. -/
def feed (P M I : Int) (ps : List Pkt) : St := ps.foldl (addSt P M I) ⟨0, [], []⟩
theorem feed_snoc (P M I : Int) (ps : List Pkt) (q : Pkt) : feed P M I (ps ++ [q]) = addSt P M I (feed P M I ps) q := by simp [feed]

theorem endSt_count (M : Int) (s : St) (h : s.ps ≠ []) : (endSt M s).kept.length + (endSt M s).ps.length ≤ s.kept.length + s.ps.length := by
  have := List.length_pos_iff.2 h
  show (if M ≤ (s.ps.length : Int) then s.kept ++ [(s.number, s.ps)] else s.kept).length + 0 ≤ _
  split
  · rw [List.length_append]; simp; omega
  · omega

theorem pushSt_facts (s : St) (q : Pkt) : (pushSt s q).ps = s.ps ++ [q] ∧ (pushSt s q).kept = s.kept ∧ s.number ≤ (pushSt s q).number ∧ (pushSt s q).number ≤ s.number + 1 := by
  rw [pushSt]
  split
  · rename_i h; exact ⟨by rw [h]; rfl, rfl, by simp; omega, by simp⟩
  · exact ⟨rfl, rfl, by simp, by simp; omega⟩

theorem addSt_facts (P M I : Int) (s : St) (q : Pkt) : (addSt P M I s q).kept.length + (addSt P M I s q).ps.length ≤ s.kept.length + s.ps.length + 1 ∧ s.number ≤ (addSt P M I s q).number ∧ (addSt P M I s q).number ≤ s.number + 1 := by
  have h1 : (if brk I s.ps q.1 then endSt M s else s).kept.length + (if brk I s.ps q.1 then endSt M s else s).ps.length ≤ s.kept.length + s.ps.length ∧ (if brk I s.ps q.1 then endSt M s else s).number = s.number := by
    split
    · rename_i hb
      exact ⟨endSt_count M s (fun e => by rw [e] at hb; simp [brk] at hb), rfl⟩
    · exact ⟨Nat.le_refl _, rfl⟩
  rw [addSt]
  generalize (if brk I s.ps q.1 then endSt M s else s) = s1 at *
  obtain ⟨p1, p2, p3, p4⟩ := pushSt_facts s1 q
  have hl : (pushSt s1 q).kept.length + (pushSt s1 q).ps.length = s1.kept.length + s1.ps.length + 1 := by rw [p1, p2]; simp; omega
  have hne : (pushSt s1 q).ps ≠ [] := by rw [p1]; simp
  have := endSt_count M (pushSt s1 q) hne
  show (if P ≤ (((pushSt s1 q).ps.length : Nat) : Int) then endSt M (pushSt s1 q) else pushSt s1 q).kept.length + (if P ≤ (((pushSt s1 q).ps.length : Nat) : Int) then endSt M (pushSt s1 q) else pushSt s1 q).ps.length ≤ _ ∧ s.number ≤ (if P ≤ (((pushSt s1 q).ps.length : Nat) : Int) then endSt M (pushSt s1 q) else pushSt s1 q).number ∧ (if P ≤ (((pushSt s1 q).ps.length : Nat) : Int) then endSt M (pushSt s1 q) else pushSt s1 q).number ≤ _
  split
  · exact ⟨by omega, by show s.number ≤ (pushSt s1 q).number; omega, by show (pushSt s1 q).number ≤ _; omega⟩
  · exact ⟨by omega, by omega, by omega⟩

theorem feed_facts (P M I : Int) (ps : List Pkt) : ∀ k, k ≤ ps.length → (feed P M I (ps.take k)).kept.length + (feed P M I (ps.take k)).ps.length ≤ k ∧ 0 ≤ (feed P M I (ps.take k)).number ∧ (feed P M I (ps.take k)).number ≤ k := by
  intro k
  induction k with
  | zero => intro _; simp [feed]
  | succ n ih =>
    intro h
    have := ih (by omega)
    rw [List.take_succ_eq_append_getElem (by omega), feed_snoc]
    have h2 := addSt_facts P M I (feed P M I (ps.take n)) ps[n]
    omega

/-- Behind the flow: the open window ends. -/
def fin (P M I : Int) (ps : List Pkt) : St := if (feed P M I ps).ps = [] then feed P M I ps else endSt M (feed P M I ps)
end Go.Proofs.Qxb6629007a
