/-
  Seat b6628445a: THE ARGUMENTS OPENED: a slice of bytes and a slice of slices of bytes, whatever they are, as the walks speak of them.
-/
import Derived.Test.Qxb6628445aBytes
import Derived.Deep.Matrix
import Derived.OpenShut
namespace Go.Proofs.Qxb6628445a
open Go.ChangeShapes Go.WideShapes Go.ChangeAt Go.RowKit

theorem own : ownKnob Try.prog.godebug = none := by kernel_rfl
theorem laidOut : laidOutB Try.prog = true := by kernel_rfl
theorem cells5 : Try.prog.cellsOf 5 = 1 := by kernel_rfl
theorem cells23 : Try.prog.cellsOf 23 = 1 := by kernel_rfl

/-- A slice of bytes that came in. -/
theorem open_bytes {H : Type} {enc : TypeId × Value → H} {W : World} {ao : Option Addr} {n cap fuel : Nat} {x : DataW H × List MemPlace} (h : DataW.trod enc Try.prog W 0 (fun _ => true) true fuel 23 [.slice ao n cap] = some x) :
    ∃ xs : List Int, Bts W ⟨ao, n, cap⟩ xs := by
  rcases open_ints Try.underlying23 Try.underlying5 cells5 h with ⟨hcs, _⟩ | ⟨a, len, c, zs, hcs, _, hl, hm, hz, _, hcell, _⟩
  · simp at hcs
    obtain ⟨rfl, rfl, rfl⟩ := hcs
    exact ⟨[], rfl, Nat.le_refl _, fun _ => rfl, Rd.nil _ _⟩
  · simp at hcs
    obtain ⟨rfl, rfl, rfl⟩ := hcs
    simp only [if_true] at hz
    refine ⟨zs.take n, by simp; omega, hl, (fun e => by cases e), (fun e => by cases e), fun a' ha k hk => ?_⟩
    cases ha
    have hk' : k < n ∧ k < zs.length := by simp [byteVals] at hk; omega
    rw [hcell k hk'.2]
    simp [byteVals, hk'.1, hk'.2]

/-- A slice of slices of bytes that came in. -/
theorem open_rows {H : Type} {enc : TypeId × Value → H} {W : World} {ao : Option Addr} {n cap fuel : Nat} {x : DataW H × List MemPlace} (h : DataW.trod enc Try.prog W 0 (fun _ => true) true fuel 22 [.slice ao n cap] = some x) :
    ∃ (rs : List Sl) (rows : List (List Int)), rs.length = n ∧ n ≤ maxLen ∧ Mat W ao rs rows := by
  rcases Go.Deep.open_int_rows Try.underlying22 Try.underlying23 Try.underlying5 cells23 cells5 h with ⟨hcs, _⟩ | ⟨a, len, c, A, L, C, Z, hcs, _, hl, hm, _, hr⟩
  · simp at hcs
    obtain ⟨rfl, rfl, rfl⟩ := hcs
    exact ⟨[], [], rfl, Nat.zero_le _, rfl, Rd.nil _ _, fun k hk => by simp at hk⟩
  · simp at hcs
    obtain ⟨rfl, rfl, rfl⟩ := hcs
    refine ⟨(List.range n).map fun r => ⟨A r, L r, C r⟩, (List.range n).map fun r => (Z r).take (L r), by simp, by omega, by simp, ⟨(fun e => by cases e), fun a' ha k hk => ?_⟩, fun k h1 h2 => ?_⟩
    · cases ha
      have hk' : k < n := by simpa using hk
      rw [(hr k (by omega)).1]
      simp [Sl.val, hk']
    · have hk' : k < n := by simpa using h1
      obtain ⟨_, e2, e3, e4, _, e6, e7⟩ := hr k (by omega)
      simp only [List.getElem_map, List.getElem_range]
      refine ⟨by simp; omega, e2, e6, ⟨fun e => ?_, fun a' ha j hj => ?_⟩⟩
      · have := e6 e
        have hz : Z k = [] := List.eq_nil_of_length_eq_zero (by omega)
        simp [byteVals, hz]
      · have hj' : j < L k ∧ j < (Z k).length := by simp [byteVals] at hj; omega
        rw [(e7 a' ha).2 j (by omega)]
        simp [byteVals, hj'.1, hj'.2]

end Go.Proofs.Qxb6628445a
