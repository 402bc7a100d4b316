import Derived.Test.Qxb6628369aCols
namespace Go.Proofs.Qxb6628369a
open Go.RowKit Go.Maps

/-- WHAT THE CALLS NEED OF THE MAP THAT CAME IN, a nil one too: its length, its look-up, what NewColumns makes of it; in whatever world that has grown out of w. -/
structure MapIn {H : Type} (D : DataW H) (m : Option Nat) (w : World) : Prop where
  canon : Canon D
  len : ∀ (W : World) ty, Below w.heap.size w W → (Builtin.len_ #[22] ty #[.map m]).run Try.prog W = .ok (.int .i64 (Maps.size D)) W
  look : ∀ (W : World) (s : ByteArray), Below w.heap.size w W → s.size ≤ maxLen → ∃ t : ByteArray, (Instr.lookup 22 (.map m) (.string s) true).run Try.prog W = .ok (.tuple #[.string t, .bool (Maps.has D (.string s.data.toList))]) W ∧
    (Maps.has D (.string s.data.toList) = true → ∀ z, D.atKey (.string s.data.toList) z = .lit (.string t.data.toList))
  cols : ∀ W : World, Below w.heap.size w W → Maps.size D ≤ 65536 → Calls Try.prog 5 #[.map m] W fun e w' => ∃ (bi g cap : Nat) (Dix : DataW H) (ts : List ByteArray), e = .returned (.agg #[.map (some bi), .slice (some ⟨g, 0, none⟩) ts.length cap]) ∧
      w'.ownsMap Try.prog 9 (plainElem Try.prog 3) bi 65536 Dix ∧ w'.ownsRow W.heap.size 9 1 (.slice (some ⟨g, 0, none⟩) ts.length cap) ts.length (ts.map Value.string) ∧ ColRel D Dix (fun _ => false) ts ∧ Below W.heap.size W w'

theorem ownsMap_below {H : Type} {P : Program} {k : TypeId} {R : Value → Option (DataW H × List MemPlace)} {w W : World} {b n : Nat} {D : DataW H} (h : w.ownsMap P k R b n D) {B : Nat} (hb : b < B) (hbel : Below B w W) : W.ownsMap P k R b n D := by
  obtain ⟨es, clock, h1, h2⟩ := h
  exact ⟨es, clock, by rw [hbel.block b hb]; exact h1, h2⟩
theorem ownsRow_below {w W : World} {base : Nat} {e : TypeId} {g n cap : Nat} {xs : List Value} (h : w.ownsRow base e 1 (.slice (some ⟨g, 0, none⟩) n cap) n xs) (hbel : Below w.heap.size w W) : W.ownsRow base e 1 (.slice (some ⟨g, 0, none⟩) n cap) n xs := by
  refine ⟨h.1, ?_⟩
  rcases h.2 with ⟨h1, _⟩ | ⟨g', cap', cur, h1, h2, h3, h4⟩
  · simp at h1
  · simp at h1
    obtain ⟨rfl, rfl⟩ := h1
    exact .inr ⟨g, cap, cur, rfl, h2, by rw [hbel.block g (lt_of_block h3)]; exact h3, h4⟩

theorem atKey_any {H : Type} {D : DataW H} {k : Lit} (h : Maps.has D k = true) (z z' : DataW H) : D.atKey k z = D.atKey k z' := by
  cases D <;> try cases h
  rename_i es
  rw [has_eq, List.any_eq_true] at h
  obtain ⟨p, hp, h1⟩ := h
  cases hf : es.find? (fun p => p.1.sameKey k) with
  | none => exact absurd h1 (by simpa using List.find?_eq_none.1 hf p hp)
  | some q => simp [DataW.atKey, hf]

theorem mapIn_some {H : Type} {bm n : Nat} {D : DataW H} {w : World} (h : w.ownsMap Try.prog 9 (plainElem Try.prog 9) bm n D) : MapIn D (some bm) w where
  canon := h.canon law9
  len := fun W ty hb => (ownsMap_below h h.lt hb).len Try.underlying22 ty
  look := fun W s hb hs => by
    obtain ⟨v, ps, h1, h2⟩ := (ownsMap_below h h.lt hb).look_ok law9 Try.underlying22 (z := .string ByteArray.empty) (by kernel_rfl) (zd := .lit (.string [])) (zp := []) (plainElem_string Try.underlying9 (by decide)) (Go.WideMaps.keyOf_string_mk Try.underlying9 hs)
    obtain ⟨t, rfl, h3, h4⟩ := plainElem_string_inv Try.underlying9 h2
    refine ⟨t, h1, fun hh z => ?_⟩
    have e1 : D.atKey (.string s.data.toList) (.lit (.string [])) = .lit (.string t.data.toList) := congrArg Prod.fst h3
    rw [← e1]
    exact atKey_any hh _ _
  cols := fun W hb hs => f5_any bm n D W (ownsMap_below h h.lt hb) hs

theorem mapIn_nil {H : Type} (w : World) : MapIn (.map [] : DataW H) none w where
  canon := canon_empty
  len := fun W ty _ => Maps.len_nil Try.underlying22 ty
  look := fun W s _ hs => ⟨ByteArray.empty, by
    have := Maps.look_nil (w := W) true law9 Try.underlying22 (z := .string ByteArray.empty) (by kernel_rfl) (Go.WideMaps.keyOf_string_mk Try.underlying9 hs)
    exact this, fun h => by cases h⟩
  cols := fun W _ _ => f5_nil W

/-- 'want, has := texts[p]'. -/
theorem wpList_look22 {H : Type} {D : DataW H} {m : Option Nat} {w0 : World} (M : MapIn D m w0) (w : World) {ops : Array Oper} {rest : List Oper} {o : Oper} {a : Act} {Q : Exit → Act → World → Prop}
    (hg : o.guard = none) (mo x : Operand) (hop : o.op = Op.lookup 22 mo x true) (hm : a.eval mo = .map m) (s : ByteArray) (hx : a.eval x = .string s) (hbel : Below w0.heap.size w0 w) (hs : s.size ≤ maxLen) (b : Bool) (hb : Maps.has D (.string s.data.toList) = b)
    (hK : ∀ t : ByteArray, (b = true → ∀ z, D.atKey (.string s.data.toList) z = .lit (.string t.data.toList)) → wpList Try.prog ops Q rest (a.put o.dst (.tuple #[.string t, .bool b])) w) :
    wpList Try.prog ops Q (o :: rest) a w := by
  refine wpList_plain hg fun K' hK' => ?_
  subst hb
  obtain ⟨t, hrun, hv⟩ := M.look w s hbel hs
  unfold Oper.wp
  simp [execOp, hop, hm, hx, hrun, Result.andThen]
  exact hK' _ _ (hK t hv)

/-- 'at, in := index[p]' AT A KEY THAT IS THERE: the place, below the number of texts, and the text that lies there. -/
theorem wpList_look24 {H : Type} {D Dix : DataW H} {ts : List ByteArray} (R : ColRel D Dix (fun _ => false) ts) (w : World) {bi n : Nat} (hown : w.ownsMap Try.prog 9 (plainElem Try.prog 3) bi n Dix) {ops : Array Oper} {rest : List Oper} {o : Oper} {a : Act} {Q : Exit → Act → World → Prop}
    (hg : o.guard = none) (mo x : Operand) (hop : o.op = Op.lookup 24 mo x true) (hm : a.eval mo = .map (some bi)) (s : ByteArray) (hx : a.eval x = .string s) (hs : s.size ≤ maxLen) (hb : Maps.has D (.string s.data.toList) = true)
    (hK : ∀ (i : Nat) (h : i < ts.length), (∀ z, Dix.atKey (.string s.data.toList) z = .lit (.int .i64 (i : Int))) → (∀ z, D.atKey (.string s.data.toList) z = .lit (.string (ts[i]).data.toList)) → wpList Try.prog ops Q rest (a.put o.dst (.tuple #[.int .i64 (i : Int), .bool true])) w) :
    wpList Try.prog ops Q (o :: rest) a w := by
  have hix : Maps.has Dix (.string s.data.toList) = true := by rw [R.keys, hb]; rfl
  obtain ⟨i, hi, h1, h2⟩ := R.found _ hix
  refine wpList_lookup_own_ok_int w hg mo x 24 hop 9 3 .i64 law9 Try.underlying24 Try.underlying3 (by kernel_rfl) bi n Dix hm hown _ _ hx (Go.WideMaps.keyOf_string_mk Try.underlying9 hs) ?_
  intro c hc _
  have e : c = (i : Int) := by
    have := hc.symm.trans (h1 _)
    simpa using this
  subst e
  rw [hix]
  exact hK i hi h1 h2

/-- .. AT A KEY THAT IS NOT. -/
theorem wpList_look24_no {H : Type} {D Dix : DataW H} {ts : List ByteArray} (R : ColRel D Dix (fun _ => false) ts) (w : World) {bi n : Nat} (hown : w.ownsMap Try.prog 9 (plainElem Try.prog 3) bi n Dix) {ops : Array Oper} {rest : List Oper} {o : Oper} {a : Act} {Q : Exit → Act → World → Prop}
    (hg : o.guard = none) (mo x : Operand) (hop : o.op = Op.lookup 24 mo x true) (hm : a.eval mo = .map (some bi)) (s : ByteArray) (hx : a.eval x = .string s) (hs : s.size ≤ maxLen) (hb : Maps.has D (.string s.data.toList) = false)
    (hK : ∀ c : Int, wpList Try.prog ops Q rest (a.put o.dst (.tuple #[.int .i64 c, .bool false])) w) :
    wpList Try.prog ops Q (o :: rest) a w := by
  have hix : Maps.has Dix (.string s.data.toList) = false := by rw [R.keys, hb]; rfl
  refine wpList_lookup_own_ok_int w hg mo x 24 hop 9 3 .i64 law9 Try.underlying24 Try.underlying3 (by kernel_rfl) bi n Dix hm hown _ _ hx (Go.WideMaps.keyOf_string_mk Try.underlying9 hs) ?_
  intro c _ _
  rw [hix]
  exact hK c

set_option maxRecDepth 100000 in
theorem f6_any (x y : Value) (w : World) : Calls Try.prog 6 #[.agg #[x, y]] w fun e w' => e = .returned x ∧ Below w.heap.size w w' := by
  go_enter Try.func6, Try.ntmps6
  go_wp2
  go_ret
  exact ⟨rfl, (Below.refl _ _).alloc (Nat.le_refl _) _⟩
set_option maxRecDepth 100000 in
theorem f7_any (x y : Value) (w : World) : Calls Try.prog 7 #[.agg #[x, y]] w fun e w' => e = .returned y ∧ Below w.heap.size w w' := by
  go_enter Try.func7, Try.ntmps7
  go_wp2
  go_ret
  exact ⟨rfl, (Below.refl _ _).alloc (Nat.le_refl _) _⟩
end Go.Proofs.Qxb6628369a
