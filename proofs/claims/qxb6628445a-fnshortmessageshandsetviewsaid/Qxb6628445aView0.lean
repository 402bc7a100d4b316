/-
  Seat b6628445a: small lemmas for function 3 (FnShortMessagesHandsetView).
-/
import Derived.Test.Qxb6628445aParse
import Derived.Test.Qxb6628445aShortC
import Derived.Test.Qxb6628445aStamps0
import Derived.Deep.QuietTactic
import Derived.BigQuiet
import Derived.WalkSmall
import Derived.Deep.RegionWith
namespace Go.Proofs.Qxb6628445a
open Go.RowKit

theorem Bts.drewN {w : World} {s : Sl} {xs : List Int} (h : Bts w s xs) (q : Nat) : Bts (w.drewN q) s xs := ⟨h.len, h.room, h.bare, h.rd⟩

theorem add_add (a : Addr) (i j : Nat) : (a.add i).add j = a.add (i + j) := by
  unfold Addr.add
  by_cases h1 : i = 0
  · subst h1
    by_cases h2 : j = 0
    · subst h2; simp
    · simp [h2]
  · by_cases h2 : j = 0
    · subst h2; simp [h1]
    · simp [h1, h2, Nat.add_assoc]

theorem bts_take {w : World} {a : Addr} {n k cap : Nat} {xs ys : List Int} (h : Bts w ⟨some a, n, cap⟩ (xs ++ ys)) (hk : k = xs.length) : Bts w ⟨some a, k, cap⟩ xs := by
  have hr : n ≤ cap := h.room
  have hl : n = (xs ++ ys).length := h.len
  simp at hl
  refine ⟨hk, by show k ≤ cap; omega, (fun e => by cases e), (fun e => by cases e), fun a' ha j hj => ?_⟩
  have hj' : j < xs.length := by simpa [byteVals] using hj
  rw [h.rd.2 a' ha j (by simp [byteVals]; omega)]
  simp [byteVals, hj', List.getElem?_append_left]

theorem bts_drop {w : World} {a : Addr} {n k L cap : Nat} {xs ys : List Int} (h : Bts w ⟨some a, n, cap⟩ (xs ++ ys)) (hk : k = xs.length) (hL : L = ys.length) : Bts w ⟨some (a.add k), L, cap - k⟩ ys := by
  have hr : n ≤ cap := h.room
  have hl : n = (xs ++ ys).length := h.len
  simp at hl
  refine ⟨hL, by show L ≤ cap - k; omega, (fun e => by cases e), (fun e => by cases e), fun a' ha j hj => ?_⟩
  cases ha
  have hj' : j < ys.length := by simpa [byteVals] using hj
  rw [add_add, h.rd.2 a rfl (k + j) (by simp [byteVals]; omega), hk]
  simp only [byteVals, List.map_append]
  rw [List.getElem?_append_right (by simp)]
  simp

end Go.Proofs.Qxb6628445a
