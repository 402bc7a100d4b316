/-
  Seat b6629007a: THE ROW of FnCutterAddCutsAndMeasuresWindows, proved: every three numbers, every slice of packets (nil, empty, of any length).
-/
import Derived.Test.Qxb6629007aCuts
import Derived.Deep.SlicePairs
import Derived.Deep.Matrix
import Derived.OpenShut
namespace Go.Proofs.Qxb6629007a
open Go.ChangeShapes Go.WideShapes Go.ChangeAt Go.RowKit

theorem own : ownKnob Try.prog.godebug = none := by kernel_rfl
theorem laidOut : laidOutB Try.prog = true := by kernel_rfl
theorem cellsOf39 : Try.prog.cellsOf 39 = 2 := by kernel_rfl
theorem cellsOf2 : Try.prog.cellsOf 2 = 1 := by kernel_rfl
theorem cellsOf3 : Try.prog.cellsOf 3 = 1 := by kernel_rfl

theorem add_none (b off j : Nat) : (⟨b, off, none⟩ : Addr).add j = ⟨b, off + j, none⟩ := by unfold Addr.add; split <;> simp_all

theorem spot_none {w : World} {a : Addr} {v : Value} (h : w.cell? (a.add 0) = some v) : a.spot = none := by
  have e : a.add 0 = a := by unfold Addr.add; simp
  rw [e] at h
  cases hs : a.spot with
  | none => rfl
  | some s =>
    simp only [World.cell?, hs] at h
    split at h <;> simp at h

/-- A slice of packets that came in. -/
theorem open_pkts {H : Type} {enc : TypeId × Value → H} {W : World} {ao : Option Addr} {n cap fuel : Nat} {x : DataW H × List MemPlace} (h : DataW.trod enc Try.prog W 0 (fun _ => true) true fuel 22 [.slice ao n cap] = some x) :
    ∃ ps : List Pkt, Pks W ao n cap ps ∧ PkAt W ao n cap ps := by
  rcases Go.Deep.open_slice_pairs Try.underlying22 Try.underlying39 cellsOf39 rfl rfl cellsOf2 cellsOf3 h with ⟨hcs, _⟩ | ⟨a, len, c, m, k, V0, V1, D0, D1, P0, P1, hcs, _, hl, hm, hmm, _, hr⟩
  · simp at hcs
    obtain ⟨rfl, rfl, rfl⟩ := hcs
    exact ⟨[], ⟨rfl, ⟨0, 0, by omega, fun k hk => by simp at hk⟩, fun q hq => by cases hq⟩, ⟨Nat.le_refl _, fun h => absurd h (by omega)⟩⟩
  · simp at hcs
    obtain ⟨rfl, rfl, rfl⟩ := hcs
    simp only [if_true] at hmm
    have hex : ∀ i : Nat, ∃ q : Pkt, i < n → (W.cell? (a.add (i * 2)) = some (.int .i64 q.1) ∧ W.cell? (a.add (i * 2 + 1)) = some (.int .i64 q.2)) ∧ ((-9223372036854775808 ≤ q.1 ∧ q.1 < 9223372036854775808) ∧ (-9223372036854775808 ≤ q.2 ∧ q.2 < 9223372036854775808)) := by
      intro i
      by_cases hi : i < n
      · obtain ⟨c0, c1, t0, t1⟩ := hr i (by omega)
        obtain ⟨x0, e0, _, w0⟩ := DataW.trod_int Try.underlying2 t0
        obtain ⟨x1, e1, _, w1⟩ := DataW.trod_int Try.underlying3 t1
        have b0 := bounds_i64 w0
        have b1 := bounds_i64 w1
        simp at e0 e1
        exact ⟨(x0, x1), fun _ => ⟨⟨by rw [c0, e0], by rw [c1, e1]⟩, ⟨by omega, by omega⟩, by omega, by omega⟩⟩
      · exact ⟨(0, 0), fun h => absurd h hi⟩
    obtain ⟨f, hf⟩ := Classical.axiomOfChoice hex
    refine ⟨(List.range n).map f, ⟨by simp, ?_, fun q hq => ?_⟩, ⟨hl, fun hn => ?_⟩⟩
    · by_cases hn : n = 0
      · subst hn
        exact ⟨0, 0, by omega, fun k hk => by simp at hk⟩
      · have hsp := spot_none (hf 0 (by omega)).1.1
        obtain ⟨b, off, sp⟩ := a
        simp only at hsp
        subst hsp
        have hlt : b < W.heap.size := World.block_lt_of_cell? W _ (hf 0 (by omega)).1.1
        refine ⟨b, off, by omega, fun k hk => ?_⟩
        have hk' : k < n := by simpa using hk
        have h1 := (hf k hk').1
        rw [add_none, add_none, ← Nat.add_assoc] at h1
        refine ⟨fun W2 => ?_, by simpa using h1.1, by simpa using h1.2, hlt⟩
        simp [Instr.indexAt, run_underlying Try.underlying22, asIntOf, hk', add_none]
    · obtain ⟨i, hi, rfl⟩ := List.mem_map.1 hq
      exact (hf i (by simpa using hi)).2
    · have hsp := spot_none (hf 0 hn).1.1
      obtain ⟨b, off, sp⟩ := a
      simp only at hsp
      subst hsp
      refine ⟨b, off, rfl, World.block_lt_of_cell? W _ (hf 0 hn).1.1, fun k hk => ?_⟩
      have hk' : k < n := by simpa using hk
      have h1 := (hf k hk').1
      rw [add_none, add_none, ← Nat.add_assoc] at h1
      exact ⟨by simpa using h1.1, by simpa using h1.2⟩

set_option maxRecDepth 100000 in
theorem cuts_lifted (os : Os) (started : os.Started) (H : Type) (enc : TypeId × Value → H) :
    ReturnsInHanded {} Try.checked os 3 .any (Rows.fnCutterAddCutsAndMeasuresWindowsSpec.pre6 enc Try.prog Try.f3 Rows.fnCutterAddCutsAndMeasuresWindowsRow.domain false) (Rows.fnCutterAddCutsAndMeasuresWindowsSpec.post enc Try.prog Try.f3 false true false false) := by
  refine returnsInHanded_of_change (C := Try.checked) own started (by kernel_rfl) Try.func3
    (ChangeSpec.witness6 (enc := enc) (C := Try.checked) false ⟨#[], #[.int .i64 0, .int .i64 0, .int .i64 0, .slice none 0 0], []⟩ 8 (by kernel_rfl) (by kernel_rfl) (by kernel_rfl) (by kernel_rfl)) ?_
  intro W base args ds gs before hval0 hW _ _
  have hval : ∀ (j : Nat) t v, Try.f3.params[j]? = some t → args[j]? = some v → Value.okWide Try.prog W .any base t v := hval0
  have hW' := hW
  obtain ⟨p, q, hA0, hV, rfl, _, _⟩ := hW
  have hA : DataW.TrodAll enc Try.prog W 0 (fun _ => true) true Try.f3.params.toList args.toList ds p := hA0
  rw [Try.params3] at hA hval
  obtain ⟨v0, vs0, d0, ds0, p0, q0, hargs, rfl, rfl, h0, r0⟩ := trodAll_cons hA
  obtain ⟨v1, vs1, d1, ds1, p1, q1, rfl, rfl, rfl, h1, r1⟩ := trodAll_cons r0
  obtain ⟨v2, vs2, d2, ds2, p2, q2, rfl, rfl, rfl, h2, r2⟩ := trodAll_cons r1
  obtain ⟨v3, vs3, d3, ds3, p3, q3, rfl, rfl, rfl, h3, r3⟩ := trodAll_cons r2
  obtain ⟨rfl, rfl, rfl⟩ := trodAll_nil r3
  obtain rfl : args = #[v0, v1, v2, v3] := by cases args; simp_all
  obtain ⟨rfl, rfl⟩ := trodVars_none hV
  have h3k := h3
  obtain ⟨x0, rfl, rfl, rfl, w0⟩ := open_int Try.underlying3 (hval 0 3 v0 rfl rfl) h0
  obtain ⟨x1, rfl, rfl, rfl, w1⟩ := open_int Try.underlying3 (hval 1 3 v1 rfl rfl) h1
  obtain ⟨x2, rfl, rfl, rfl, w2⟩ := open_int Try.underlying2 (hval 2 2 v2 rfl rfl) h2
  obtain ⟨a3, n3, c3, rfl⟩ := okWide_slice Try.underlying22 (hval 3 22 v3 rfl rfl)
  clear hA0 hval0
  simp only [List.append_nil, List.nil_append] at hW'
  have hlt3 : ∀ x ∈ p3, x.block < W.heap.size := fun x hx => by simpa using hW'.lt x (by simp [hx])
  obtain ⟨f3, hf3⟩ := h3
  obtain ⟨ps, hp, ha⟩ := open_pkts hf3
  refine (f3_any x0 x1 x2 a3 n3 c3 ps W hp ha).mono fun e W' ⟨he, hn⟩ => ?_
  subst he
  exact ⟨_, rfl, [.lit (.int .i64 x0), .lit (.int .i64 x1), .lit (.int .i64 x2), d3], [], _, [], [] ++ ([] ++ ([] ++ (p3 ++ []))), [], by simpa using hW', trodAll_mk1 (shut_bool Try.underlying4 _),
    trodAll_cons_mk (shut_int Try.underlying3 w0) (trodAll_cons_mk (shut_int Try.underlying3 w1) (trodAll_cons_mk (shut_int Try.underlying2 w2) (trodAll_cons_mk (Below.trod laidOut (by kernel_rfl) (of_decide_eq_true (by kernel_rfl)) h3k hn hlt3) trodAll_mk0))), rfl, hn.frame _, fun h => by cases h⟩

theorem cuts_holds : Rows.FnCutterAddCutsAndMeasuresWindowsSaid :=
  OpenClaim.holds_of_wide 3 Try.f3 rfl rfl rfl rfl rfl rfl rfl ⟨rfl, rfl, rfl, rfl, rfl⟩ rfl rfl rfl rfl rfl (by kernel_rfl) Try.func3 (by kernel_rfl)
    (of_decide_eq_true (by kernel_rfl)) (by unfold Func.isWrapper; first | (rw [if_pos (by decide +kernel)]; kernel_rfl) | (rw [if_neg (by decide +kernel)]; exact ⟨rfl, rfl⟩))
    (fun os started H enc _ => cuts_lifted os started H enc)
#print axioms cuts_holds
end Go.Proofs.Qxb6629007a
