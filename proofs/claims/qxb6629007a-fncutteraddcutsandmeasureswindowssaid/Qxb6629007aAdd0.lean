/-
  Seat b6629007a: the plain cutter; (*Cutter).end in its words.
-/
import Derived.Test.Qxb6629007aEnd1
namespace Go.Proofs.Qxb6629007a
open Go.RowKit

/-- The open window ends. -/
def endSt (M : Int) (s : St) : St := { number := s.number, ps := [], kept := if M ≤ (s.ps.length : Int) then s.kept ++ [(s.number, s.ps)] else s.kept }

/-- The cutter's plain state, in memory. -/
def CutterAt (base bc : Nat) (P M I d : Int) (s : St) (w : World) : Prop :=
  ∃ f l KH lv gv kv, CutAt base bc P M I d s.number f l (lensOf s.ps) (gapsOf s.ps) s.kept KH lv gv kv w ∧ (s.ps ≠ [] → f = firstT s.ps + d ∧ l = lastT s.ps + d) ∧ (-9223372036854775808 ≤ l ∧ l < 9223372036854775808)

theorem CutterAt.later {base bc : Nat} {P M I d : Int} {s : St} {w w' : World} (h : CutterAt base bc P M I d s w) (hb : Below w.heap.size w w') : CutterAt base bc P M I d s w' := by
  obtain ⟨f, l, KH, lv, gv, kv, h1, h2, h3⟩ := h
  exact ⟨f, l, KH, lv, gv, kv, h1.later hb, h2, h3⟩

theorem f28_st (base bc : Nat) (P M I d : Int) (s : St) (w : World) (h : CutterAt base bc P M I d s w) (hbc : base ≤ bc) (hne : s.ps ≠ []) (hlen : s.ps.length ≤ 4096) (hK : s.kept.length ≤ 4096) :
    Calls Try.prog 28 #[.pointer (some ⟨bc, 0, none⟩)] w fun e w' => e = .returned (.tuple #[]) ∧ CutterAt base bc P M I d (endSt M s) w' ∧ Below base w w' ∧ Keep33 w w' := by
  obtain ⟨f, l, KH, lv, gv, kv, h1, h2, h3⟩ := h
  obtain ⟨rfl, rfl⟩ := h2 hne
  have hl : KH.length = s.kept.length := by rw [← h1.kept.names, List.length_map]
  by_cases hM : M ≤ (s.ps.length : Int)
  · refine (f28_keep base bc P M I d s.number s.ps s.kept KH lv gv kv w h1 hbc hne hlen (by omega) (by rw [lensOf_length]; exact hM)).mono ?_
    rintro e w' ⟨rfl, lv', gv', kv', KH', _, hc, hb, hk⟩
    refine ⟨rfl, ⟨firstT s.ps + d, lastT s.ps + d, KH', lv', gv', kv', ?_, fun h => absurd rfl h, h3⟩, hb, hk⟩
    show CutAt base bc P M I d s.number _ _ _ _ (if M ≤ (s.ps.length : Int) then s.kept ++ [(s.number, s.ps)] else s.kept) KH' lv' gv' kv' w'
    rw [if_pos hM]
    exact hc
  · refine (f28_drop base bc P M I d s.number _ _ _ _ s.kept KH lv gv kv w h1 hbc (by rw [lensOf_length]; exact hM)).mono ?_
    rintro e w' ⟨rfl, lv', gv', hc, hb, hk⟩
    refine ⟨rfl, ⟨firstT s.ps + d, lastT s.ps + d, KH, lv', gv', kv, ?_, fun h => absurd rfl h, h3⟩, hb, hk⟩
    show CutAt base bc P M I d s.number _ _ _ _ (if M ≤ (s.ps.length : Int) then s.kept ++ [(s.number, s.ps)] else s.kept) KH lv' gv' kv w'
    rw [if_neg hM]
    exact hc

/-- Before packet q the open window breaks. -/
def brk (I : Int) (ps : List Pkt) (t : Int) : Bool := !ps.isEmpty && (decide (I < clampI (t - lastT ps)) || decide (clampI (t - lastT ps) < 0))
/-- One packet more in the open window. -/
def pushSt (s : St) (q : Pkt) : St := if s.ps = [] then { number := s.number + 1, ps := [q], kept := s.kept } else { number := s.number, ps := s.ps ++ [q], kept := s.kept }
def addSt (P M I : Int) (s : St) (q : Pkt) : St :=
  let s2 := pushSt (if brk I s.ps q.1 then endSt M s else s) q
  if P ≤ (s2.ps.length : Int) then endSt M s2 else s2

/-- A boxed time. -/
def Boxed1 (b : Nat) (t : Int) (w : World) : Prop := w.heap[b]? = some (.cells #[.int .u64 (nn t), .int .i64 (ss t), .pointer none] 33 (0, 0))
theorem Boxed1.cells {b : Nat} {t : Int} {w : World} (h : Boxed1 b t w) : w.cell? ⟨b, 0, none⟩ = some (.int .u64 (nn t)) ∧ w.cell? ⟨b, 1, none⟩ = some (.int .i64 (ss t)) ∧ w.cell? ⟨b, 2, none⟩ = some (.pointer none) := ⟨(row_cell h).1, (row_cell h).1, (row_cell h).1⟩
theorem Boxed1.keep {b : Nat} {t : Int} {w w' : World} (h : Boxed1 b t w) (hk : Keep33 w w') : Boxed1 b t w' := hk b _ _ h

end Go.Proofs.Qxb6629007a
