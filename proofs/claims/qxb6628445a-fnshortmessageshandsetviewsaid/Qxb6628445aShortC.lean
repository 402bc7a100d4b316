/-
  Seat b6628445a: ShortMessages with a header once more: the message is not nil.
-/
import Derived.Test.Qxb6628445aShortB
import Derived.Deep.RegionHeld3
import Derived.Deep.DrawnRows
namespace Go.Proofs.Qxb6628445a
open Go.RowKit

/-- What append onto a slice that is not nil hands back is not nil. -/
theorem append_some {w w' : World} {a : Addr} {n : Nat} {p r : Sl} {xs ys : List Int} {ty : TypeId} (hrun : (Builtin.append_ #[23, 23] ty #[.slice (some a) n n, .slice p.ao p.n p.cap]).run Try.prog w = .ok (.slice r.ao r.n r.cap) w') (hb : Bts w' r (xs ++ ys)) (hp : p.n = ys.length) : ∃ am, r.ao = some am := by
  cases hr : r.ao with
  | some am => exact ⟨am, rfl⟩
  | none =>
    have h0 := hb.rd.1 hr
    simp [byteVals] at h0
    obtain ⟨_, rfl⟩ := h0
    obtain ⟨i0, hi, hz0, hz1, hz2⟩ := info_parts info5
    have hst : ∀ a : Addr, (storeCells a []).run Try.prog w = .ok () w := fun a => rfl
    simp only [List.length_nil] at hp
    rw [hp] at hrun
    cases hpa : p.ao <;> simp [hpa, hr, Builtin.append_, run_underlying Try.underlying23, sizeOf, typeInfo, hi, Builtin.lenOf, Builtin.firstCells, loadCells, loadCellsFrom, hst] at hrun

attribute [local go_sem ↓] Go.wp_at_zero Go.wp_at_succ

set_option maxRecDepth 100000 in
set_option maxHeartbeats 400000 in
theorem f9_header2 (eb : Nat) (ref : Int) (a : Addr) (nh hcap : Nat) (hx : List Int) (ao : Option Addr) (rs : List Sl) (n cap : Nat) (rows : List (List Int)) (w : World) (hm : Mat w ao rs rows) (hn : n = rs.length) (hh : Bts w ⟨some a, nh, hcap⟩ hx)
    (c2 : w.cell? ⟨eb, 2, none⟩ = some (.slice ao n cap)) (c3 : w.cell? ⟨eb, 3, none⟩ = some (.slice (some a) nh hcap)) (hpos : 0 < n) (hS : Small rs rows hx) :
    Calls Try.prog 9 #[.pointer (some ⟨eb, 0, none⟩), .int .u8 ref] w fun e w' => ∃ (ra : Option Addr) (rs' : List Sl) (rc : Nat), e = .returned (.slice ra rs'.length rc) ∧ Mat w' ra rs' [hx ++ rows.headD []] ∧ (∀ r ∈ rs', ∃ am, r.ao = some am) ∧ Below w.heap.size w w' := by
  have hne : ∀ W : World, (binOp .neq 23 (.slice (some a) nh hcap) (.slice none 0 0)).run Try.prog W = .ok (.bool true) W := fun W => by
    have := run_neq_slice_nil_any (P := Try.prog) W 23 5 (some a) nh hcap 0 0 Try.underlying23
    simpa using this
  obtain ⟨p, hp1, hp2⟩ := hm.at cap (k := 0) (by omega)
  rw [← hn, show ((0 : Nat) : Int) = 0 from rfl] at hp1
  have hks : 0 < rs.length := by omega
  have hkr : 0 < rows.length := by rw [← hm.len]; exact hks
  have hbt := hm.each 0 hks hkr
  have hhd : rows.headD [] = rows[0] := by cases rows <;> simp at hkr ⊢
  have hle := hS.2.2 _ (List.getElem_mem hkr)
  have hl2 := hS.2.1
  rw [hhd]
  have HN : Hid (n = rs.length) := hn
  generalize rs[0] = q at *
  generalize rows[0] = px at *
  clear hn
  obtain ⟨r, w1, hrun, hb1, hbel1⟩ := run_append_full (w := w.drew) (s := ⟨some a, nh, nh⟩) (p := q) (xs := hx) (ys := px) ⟨hh.len, Nat.le_refl _, (fun e => by cases e), hh.rd.drew⟩ rfl hbt.drew (by omega) 23
  have hsome := append_some hrun hb1 hbt.len
  have hroom : nh ≤ hcap := hh.room
  have k2 : w1.cell? ⟨eb, 2, none⟩ = some (.slice ao n cap) := (hbel1.cell (World.block_lt_of_cell? w.drew _ c2)).trans c2
  have k3 : w1.cell? ⟨eb, 3, none⟩ = some (.slice (some a) nh hcap) := (hbel1.cell (World.block_lt_of_cell? w.drew _ c3)).trans c3
  have k4 : w1.cell? p = some (.slice q.ao q.n q.cap) := (hbel1.cell (World.block_lt_of_cell? w.drew _ hp2)).trans hp2
  have e2 := World.new_ne w1 _ k2
  have e3 := World.new_ne w1 _ k3
  have e4 := World.new_ne w1 _ k4
  go_enter Try.func9, Try.ntmps9
  go_wp2
  go_region_held3 (fun w' => w'.cell? ⟨eb, 2, none⟩ = some (.slice ao n cap) ∧ w'.cell? ⟨eb, 3, none⟩ = some (.slice (some a) nh hcap) ∧ w'.cell? p = some (.slice q.ao q.n q.cap)) (go_keep)
    (first | (go_at_call 13; refine (f13_any _ _ _ _ hroom).mono ?_; rintro e w' ⟨rfl, rfl⟩) | (refine step_append_run (by rfl) _ _ (by rfl) _ _ _ _ (by rfl) (by rfl) hrun ?_))
  go_wp2
  go_ret
  exact ⟨_, [r], 1, rfl, mat_one hb1, (fun x hx => (List.mem_singleton.1 hx) ▸ hsome), (below_of_drew hbel1).alloc hbel1.size _⟩

end Go.Proofs.Qxb6628445a
