/-
  Seat b6629007a: the kept windows, read one by one.
-/
import Derived.Test.Qxb6629007aShift
import Derived.Test.Qxb6629007aClosed
namespace Go.Proofs.Qxb6629007a
open Go.RowKit

theorem flat15 {α : Type} (f : α → List Value) (hf : ∀ x, (f x).length = 15) (l : List α) : ∀ k (hk : k < l.length) j, j < 15 → (l.flatMap f)[k * 15 + j]? = (f l[k])[j]? := by
  induction l with
  | nil => intro k hk; simp at hk
  | cons a l ih =>
    intro k hk j hj
    rw [List.flatMap_cons]
    match k with
    | 0 =>
      rw [List.getElem?_append_left (by rw [hf]; omega)]
      simp
    | k + 1 =>
      rw [List.getElem?_append_right (by rw [hf]; omega), hf, show (k + 1) * 15 + j - 15 = k * 15 + j from by omega, ih k (by simpa using hk) j hj]
      simp

/-- Fifteen cells of a window, from offset o of block g on. -/
def Win15 (g o : Nat) (num t1 t2 n sum p5 p50 p95 ov : Int) (lh gh : Value) (w : World) : Prop :=
  w.cell? ⟨g, o, none⟩ = some (.int .i64 num) ∧ w.cell? ⟨g, o + 1, none⟩ = some (.int .u64 (nn t1)) ∧ w.cell? ⟨g, o + 2, none⟩ = some (.int .i64 (ss t1)) ∧ w.cell? ⟨g, o + 3, none⟩ = some (.pointer none) ∧ w.cell? ⟨g, o + 4, none⟩ = some (.int .u64 (nn t2)) ∧ w.cell? ⟨g, o + 5, none⟩ = some (.int .i64 (ss t2)) ∧ w.cell? ⟨g, o + 6, none⟩ = some (.pointer none) ∧ w.cell? ⟨g, o + 7, none⟩ = some (.int .i64 n) ∧ w.cell? ⟨g, o + 8, none⟩ = some (.int .i64 sum) ∧ w.cell? ⟨g, o + 9, none⟩ = some (.int .i64 p5) ∧ w.cell? ⟨g, o + 10, none⟩ = some (.int .i64 p50) ∧ w.cell? ⟨g, o + 11, none⟩ = some (.int .i64 p95) ∧ w.cell? ⟨g, o + 12, none⟩ = some (.int .i64 ov) ∧ w.cell? ⟨g, o + 13, none⟩ = some (lh) ∧ w.cell? ⟨g, o + 14, none⟩ = some (gh)

theorem win15_of {w : World} {g o : Nat} {num t1 t2 n sum p5 p50 p95 ov : Int} {lh gh : Value} (h : ∀ j, j < 15 → w.cell? ⟨g, o + j, none⟩ = (winArr num t1 t2 n sum p5 p50 p95 ov lh gh)[j]?) : Win15 g o num t1 t2 n sum p5 p50 p95 ov lh gh w :=
  ⟨h 0 (by omega), h 1 (by omega), h 2 (by omega), h 3 (by omega), h 4 (by omega), h 5 (by omega), h 6 (by omega), h 7 (by omega), h 8 (by omega), h 9 (by omega), h 10 (by omega), h 11 (by omega), h 12 (by omega), h 13 (by omega), h 14 (by omega)⟩

/-- The kept windows: the slice's three words, and where window k lies. -/
theorem kept_at {base : Nat} {d : Int} {K : List Kept} {KH : List (Kept × Value × Value)} {kv : Value} {w : World} (h : KeptAt base d K KH kv w) : ∃ ao cap g, kv = .slice ao KH.length cap ∧
    ∀ k (hk : k < KH.length), (∀ W : World, (Instr.indexAt 24 (.slice ao KH.length cap) (.int .i64 (k : Int))).run Try.prog W = .ok (.pointer (some ⟨g, k * 15, none⟩)) W) ∧ g < w.heap.size ∧
      Win15 g (k * 15) KH[k].1.1 (firstT KH[k].1.2 + d) (lastT KH[k].1.2 + d) KH[k].1.2.length (lensOf KH[k].1.2).sum (rk (lensOf KH[k].1.2) 5) (rk (lensOf KH[k].1.2) 50) (rk (lensOf KH[k].1.2) 95) (overs (lensOf KH[k].1.2)).length KH[k].2.1 KH[k].2.2 w := by
  rcases h.own.2 with ⟨h1, h2⟩ | ⟨g, cap, cur, h1, h2, h3, h4, h5, h6, h7⟩
  · exact ⟨none, 0, 0, by rw [h1, h2], fun k hk => absurd hk (by omega)⟩
  · subst h1
    refine ⟨_, cap, g, rfl, fun k hk => ⟨fun W => ?_, (Array.getElem?_eq_some_iff.1 h3).1, win15_of fun j hj => ?_⟩⟩
    · simp [Instr.indexAt, run_underlying Try.underlying24, asIntOf, hk, Addr.add]
      intro h0; omega
    · have e := flat15 (fun x => (winOf d x).toList) (winOf_length d) KH k hk j hj
      rw [(row_cell h3).1, ← Array.getElem?_toList]
      have h8 : (cur.toList.take (KH.length * 15))[k * 15 + j]? = (KH.flatMap fun x => (winOf d x).toList)[k * 15 + j]? := by rw [h7]
      rw [List.getElem?_take_of_lt (by omega), e] at h8
      rw [h8]
      simp [winOf]
end Go.Proofs.Qxb6629007a
