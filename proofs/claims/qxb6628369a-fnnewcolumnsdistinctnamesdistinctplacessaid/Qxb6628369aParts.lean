/-
  Seat b6628369a: PLAIN PARTS: what NewColumns' two new pieces of memory (the index, a map; the texts, a row of strings) say of the map that came in, key by key; no walk in here.
-/
import Derived.Test.Qxb6628369aRows
import Derived.WalkKit
import Derived.ProofKit
import Derived.Maps.RangeWalk
import Derived.Maps.StringElems
import Derived.Maps.Ext
namespace Go.Proofs.Qxb6628369a
open Go.RowKit Go.Maps

/-- WHAT THE INDEX Dix AND THE TEXTS ts SAY OF D, of those keys of D that are no longer to come. -/
structure ColRel {H : Type} (D Dix : DataW H) (left : Lit → Bool) (ts : List ByteArray) : Prop where
  tidy : Tidy Dix
  keys : ∀ kl, Maps.has Dix kl = (Maps.has D kl && !left kl)
  size : Maps.size Dix = ts.length
  found : ∀ kl, Maps.has Dix kl = true → ∃ (i : Nat) (h : i < ts.length), (∀ z, Dix.atKey kl z = .lit (.int .i64 (i : Int))) ∧ (∀ z, D.atKey kl z = .lit (.string (ts[i]).data.toList))
  apart : ∀ k1 k2 (i : Int), Maps.has Dix k1 = true → Maps.has Dix k2 = true → (∀ z, Dix.atKey k1 z = .lit (.int .i64 i)) → (∀ z, Dix.atKey k2 z = .lit (.int .i64 i)) → k1 = k2

theorem col_start {H : Type} (D : DataW H) : ColRel D (.map []) (Maps.has D) [] where
  tidy := tidy_empty
  keys := fun kl => by cases Maps.has D kl <;> rfl
  size := rfl
  found := fun kl h => by cases h
  apart := fun k1 k2 i h => by cases h

theorem col_step {H : Type} {D Dix : DataW H} {left : Lit → Bool} {ts : List ByteArray} (h : ColRel D Dix left ts) {kl : Lit} (hk : WideAt.IsKeyLit kl) (hl : left kl = true) {s : ByteArray} (hat : ∀ z, D.atKey kl z = .lit (.string s.data.toList)) :
    ColRel D (Dix.put kl (.lit (.int .i64 (ts.length : Int)))) (fun z => left z && !z.sameKey kl) (ts ++ [s]) := by
  have hD : Maps.has D kl = true := has_true_of_atKey hat
  have hno : Maps.has Dix kl = false := by rw [h.keys, hl, hD]; rfl
  have hm := h.tidy.isMap
  -- a key that was there is another key, and stands at an earlier place
  have old : ∀ k, Maps.has (Dix.put kl (.lit (.int .i64 (ts.length : Int)))) k = true → k ≠ kl → Maps.has Dix k = true := fun k hk' hne => by rwa [has_put_other hne] at hk'
  have place : ∀ k, Maps.has Dix k = true → ∀ (i : Int), (∀ z, Dix.atKey k z = .lit (.int .i64 i)) → i < ts.length := by
    intro k hk' i hi
    obtain ⟨j, hj, h1, _⟩ := h.found k hk'
    have e := (hi (.lit (.bool true))).symm.trans (h1 _)
    simp at e
    omega
  refine ⟨h.tidy.put hk _, ?_, ?_, ?_, ?_⟩
  · intro k
    by_cases e : k = kl
    · subst e
      rw [has_put_same hm hk, hD, WideAt.sameKey_self hk]
      simp
    · rw [has_put_other e, h.keys, sameKey_ne e]
      simp
  · rw [size_put h.tidy, hno, h.size]
    simp
  · intro k hk'
    by_cases e : k = kl
    · subst e
      refine ⟨ts.length, by simp, fun z => atKey_put_same hm hk _ z, fun z => ?_⟩
      rw [hat z]
      simp
    · obtain ⟨i, hi, h1, h2⟩ := h.found k (old k hk' e)
      refine ⟨i, by simp; omega, fun z => by rw [atKey_put_other e]; exact h1 z, fun z => ?_⟩
      rw [h2 z, List.getElem_append_left hi]
  · intro k1 k2 i hk1 hk2 h1 h2
    by_cases e1 : k1 = kl
    · by_cases e2 : k2 = kl
      · rw [e1, e2]
      · subst e1
        have a1 : i = ts.length := by
          have e := (h1 (.lit (.bool true))).symm.trans (atKey_put_same hm hk _ _)
          simpa using e
        have a2 := place k2 (old k2 hk2 e2) i (fun z => by rw [← h2 z, atKey_put_other e2])
        omega
    · by_cases e2 : k2 = kl
      · subst e2
        have a1 : i = ts.length := by
          have e := (h2 (.lit (.bool true))).symm.trans (atKey_put_same hm hk _ _)
          simpa using e
        have a2 := place k1 (old k1 hk1 e1) i (fun z => by rw [← h1 z, atKey_put_other e1])
        omega
      · exact h.apart k1 k2 i (old k1 hk1 e1) (old k2 hk2 e2) (fun z => by rw [← h1 z, atKey_put_other e1]) (fun z => by rw [← h2 z, atKey_put_other e2])

/-- Two maps as read with the same keys have as many entries. -/
theorem size_of_keys {H : Type} {D₁ D₂ : DataW H} (c₁ : Canon D₁) (c₂ : Canon D₂) (hh : ∀ k, Maps.has D₁ k = Maps.has D₂ k) : Maps.size D₁ = Maps.size D₂ := by
  obtain ⟨es₁, rfl, s₁, k₁⟩ := c₁
  obtain ⟨es₂, rfl, s₂, k₂⟩ := c₂
  have mem : ∀ (es : List (Lit × DataW H)), (∀ p ∈ es, WideAt.IsKeyLit p.1) → ∀ q : Lit × DataW H, q ∈ es.map (fun p => (p.1, (.lit (.bool true) : DataW H))) ↔ q.2 = .lit (.bool true) ∧ WideAt.IsKeyLit q.1 ∧ Maps.has (.map es) q.1 = true := by
    intro es hk q
    rw [has_eq, List.mem_map, List.any_eq_true]
    constructor
    · rintro ⟨p, hp, rfl⟩
      exact ⟨rfl, hk p hp, p, hp, WideAt.sameKey_self (hk p hp)⟩
    · rintro ⟨h1, h2, p, hp, h3⟩
      refine ⟨p, hp, ?_⟩
      have e := (WideAt.sameKey_iff h2).1 h3
      rw [e, ← h1]
  have rise : ∀ (es : List (Lit × DataW H)), es.Pairwise (fun p q => p.1.before q.1 = true) → (es.map (fun p => (p.1, (.lit (.bool true) : DataW H)))).Pairwise (fun p q => p.1.before q.1 = true) := by
    intro es h
    rw [List.pairwise_map]
    exact h
  have e := eq_of_mem_rising (rise es₁ s₁) (rise es₂ s₂) (fun q => by rw [mem es₁ k₁ q, mem es₂ k₂ q, hh])
  have el := congrArg List.length e
  simpa [Maps.size] using el

/-- A struct of two cells in a block of its own: its cells, that they may be written, and the block behind a store into the second. -/
theorem two_cells {w : World} {b : Nat} {u v : Value} {t : TypeId} (h : w.heap[b]? = some (.cells #[u, v] t (0, 0))) :
    w.cell? ⟨b, 0, none⟩ = some u ∧ w.cell? ⟨b, 1, none⟩ = some v ∧ w.frozen? ⟨b, 0, none⟩ = false ∧ w.frozen? ⟨b, 1, none⟩ = false := by
  simp [World.cell?, World.frozen?, h]
theorem two_setCell1 {w : World} {b : Nat} {u v x : Value} {t : TypeId} (h : w.heap[b]? = some (.cells #[u, v] t (0, 0))) : (w.setCell ⟨b, 1, none⟩ x).heap[b]? = some (.cells #[u, x] t (0, 0)) := by
  have hlt := lt_of_block h
  have h' : w.heap[b] = .cells #[u, v] t (0, 0) := by simpa [Array.getElem?_eq_getElem hlt] using h
  show (w.heap.modify b _)[b]? = _
  rw [Array.getElem?_eq_getElem (by simpa using hlt), Array.getElem_modify_self, h']
  rfl

/-- THE RANGE's STEP AT STRING KEYS AND STRING ELEMENTS (after the library's law at int keys). -/
theorem wpList_next_ranges_ss {H : Type} {P : Program} (w : World) {ops : Array Oper} {rest : List Oper} {o : Oper} {a : Act} {Q : Exit → Act → World → Prop}
    (hg : o.guard = none) (it : Operand) (hop : o.op = Op.next it false) (k e : TypeId) (K : Keyed P k) (hk : P.underlying k = some .string) (he : P.underlying e = some .string)
    (b r n : Nat) (D : DataW H) (left : Lit → Bool) (cnt : Nat) (hit : a.eval it = .pointer (some ⟨r, 0, none⟩)) (h : w.ranges P k (plainElem P e) b r n D left cnt)
    (hDone : cnt = 0 → (∀ kl, left kl = false) → wpList P ops Q rest (a.put o.dst (.tuple #[.bool false])) w)
    (hMore : ∀ (x c : ByteArray) (w' : World) (cnt' : Nat), x.size ≤ maxLen → c.size ≤ maxLen → left (.string x.data.toList) = true → (∀ zd, D.atKey (.string x.data.toList) zd = .lit (.string c.data.toList)) → w'.ranges P k (plainElem P e) b r n D (fun z => left z && !z.sameKey (.string x.data.toList)) cnt' → cnt' < cnt →
      w.grownBy w' (some r) → w'.heap.size = w.heap.size → (Instr.entry (.pointer (some ⟨r, 0, none⟩))).run P w' = .ok (.tuple #[.string x, .string c]) w' → wpList P ops Q rest (a.put o.dst (.tuple #[.bool true, .string x, .string c])) w') :
    wpList P ops Q (o :: rest) a w := by
  have inv : ∀ key kl, keyOf P k key = some kl → ∃ x : ByteArray, key = .string x ∧ kl = .string x.data.toList ∧ x.size ≤ maxLen := by
    intro key kl hkey
    cases key <;> simp [keyOf, hk, mapKey] at hkey
    obtain ⟨h1, h2⟩ := hkey
    exact ⟨_, rfl, h2.symm, by simpa [Lit.wf] using h1⟩
  exact wpList_next_ranges w hg it hop k K (plainElem P e) Value.string Value.string (fun key kl hkey => by obtain ⟨x, rfl, _⟩ := inv key kl hkey; exact ⟨x, rfl⟩) (fun v y hv => by obtain ⟨c, rfl, _⟩ := plainElem_string_inv he hv; exact ⟨c, rfl⟩)
    b r n D left cnt hit h hDone (fun x c kl y w' cnt' hkey hlk hv hat hrg hlt hgr hsz hen => by
      obtain ⟨x', ex, rfl, hwx⟩ := inv _ _ hkey
      cases ex
      obtain ⟨c', ec, rfl, hwc⟩ := plainElem_string_inv he hv
      cases ec
      exact hMore x c w' cnt' hwx hwc hlk hat hrg hlt hgr hsz hen)

end Go.Proofs.Qxb6628369a
