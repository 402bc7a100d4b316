/-
  Seat b6628445a: small lemmas for function 4 (FnShortMessagesRefStampsOnlyByteThree).
-/
import Derived.Test.Qxb6628445aShortB
import Derived.Deep.QuietTactic
import Derived.BigQuiet
import Derived.WalkSmall
namespace Go.Proofs.Qxb6628445a
open Go.RowKit



theorem info3 : (Try.prog.info? 3).map (fun i => (i.zero, i.size, i.bytes)) = some (some (.int .i64 0), 1, 8) := by kernel_rfl

theorem gate_cases {e : Ending} {p : Prop} (h : Gate e p) : e = .returned (.bool false) ∨ (e = .returned (.bool true) ∧ p) := by
  obtain ⟨b, h1, h2⟩ := h
  cases b
  · exact .inl h1
  · exact .inr ⟨h1, h2 rfl⟩

/-- The lengths of the rows, as cells. -/
def lenVals (rows : List (List Int)) : List Value := rows.map fun r => Value.int .i64 (r.length : Int)


theorem Filled.later {wr w1 : World} {B : Nat} {e : TypeId} {n k : Nat} {vs : List Value} (h : Filled wr B e n k vs) (hb : Below wr.heap.size wr w1) : Filled w1 B e n k vs := by
  obtain ⟨cur, h1, h2⟩ := h
  exact ⟨cur, by rw [hb.block B (lt_of_block h1)]; exact h1, h2⟩

theorem below_then {w a b : World} (h : Below w.heap.size w a) (h2 : Below a.heap.size a b) : Below w.heap.size w b := h.trans (h2.mono h.size)

theorem lens_cell {w : World} {B n k : Nat} {rows : List (List Int)} (h : Filled w B 3 n k (lenVals rows)) {i : Nat} (hi : i < k) (hir : i < rows.length) : w.cell? ⟨B, i, none⟩ = some (.int .i64 ((rows[i]).length : Int)) := by
  obtain ⟨cur, h1, h2, h3⟩ := h
  rw [(row_cell h1).1, h3 i hi]
  simp [lenVals, hir]

/-- WHAT THE TWO MESSAGES OF ONE PART SHARE. -/
theorem hdr_facts (a b : Int) (n i : Nat) (row : List Int) : (hdr a n i ++ row).length = row.length + 6 ∧ (hdr b n i ++ row).length = row.length + 6 ∧ (hdr a n i ++ row)[3]? = some a ∧ (hdr b n i ++ row)[3]? = some b ∧ ∀ k, k ≠ 3 → (hdr a n i ++ row)[k]? = (hdr b n i ++ row)[k]? := by
  refine ⟨by simp [hdr], by simp [hdr], rfl, rfl, fun k hk => ?_⟩
  match k, hk with
  | 0, _ => rfl
  | 1, _ => rfl
  | 2, _ => rfl
  | 4, _ => rfl
  | 5, _ => rfl
  | k + 6, _ => simp [hdr]

theorem get_of {l : List Int} {k : Nat} {x : Int} (h : l[k]? = some x) {hk : k < l.length} : l[k] = x := by
  rw [List.getElem?_eq_getElem hk] at h
  exact Option.some.inj h
theorem get_eq {l l' : List Int} {k : Nat} (h : l[k]? = l'[k]?) {hk : k < l.length} {hk' : k < l'.length} : l[k] = l'[k] := by
  rw [List.getElem?_eq_getElem hk, List.getElem?_eq_getElem hk'] at h
  exact Option.some.inj h

theorem eq_of_bne {n m : Nat} (h : n = m) (h1 : ((n : Int) != 1) = false) : m = 1 := by
  have h2 : ¬ ((n : Int) ≠ 1) := fun h3 => by rw [bne_iff_ne.2 h3] at h1; cases h1
  omega
theorem msgs_one {hx : List Int} {rows : List (List Int)} {ref : Int} (h : rows.length = 1) : msgs true hx rows ref = [rows.headD []] := by
  simp [msgs, h]

theorem msgs_hdr {hx : List Int} {rows : List (List Int)} {ref : Int} : msgs false hx rows ref = [hx ++ rows.headD []] := by
  simp [msgs]

theorem box4 {w : World} {B : Nat} {x y u v : Value} (h : w.heap[B]? = some (.cells #[x, y, u, v] 30 (0, 0))) : w.cell? ⟨B, 2, none⟩ = some u ∧ w.cell? ⟨B, 3, none⟩ = some v := by
  simp [World.cell?, h]

theorem msgs_mul {hx : List Int} {rows : List (List Int)} {ref : Int} (h : ¬ rows.length = 1) : msgs true hx rows ref = rows.mapIdx fun k p => hdr ref rows.length k ++ p := by
  simp [msgs, h]

theorem ne_of_bne {n m : Nat} (h : n = m) (h1 : ((n : Int) != 1) = true) : ¬ m = 1 := by
  have h2 := bne_iff_ne.1 h1
  omega

end Go.Proofs.Qxb6628445a
