/-
  Seat b6629007a: a region that draws its order, whose last operation writes a cell that an earlier one reads: loads taken first.
-/
import Derived.Test.Qxb6629007aEnd0
import Derived.OrdersHeld
namespace Go.Proofs.Qxb6629007a
open Go.RowKit

section
variable {P : Program} {ops : Array Oper} {Q : Exit → Act → World → Prop} {md : Region.Mode} {S : World → Prop}

/-- Whatever order is picked from here on, and S holds behind every operation but number n. -/
def AnyBut (P : Program) (md : Region.Mode) (ops : Array Oper) (Q : Exit → Act → World → Prop) (S : World → Prop) (n : Nat) : Nat → Array Bool → Act → World → Prop
  | 0, listed, a, w => Region.ready md ops listed = [] ∧ Q .normal a w
  | fuel + 1, listed, a, w =>
    (Region.ready md ops listed = [] → Q .normal a w) ∧
    ∀ i ∈ Region.ready md ops listed, wpOp P ops Q i (fun b u => (i ≠ n → S u) ∧ AnyBut P md ops Q S n fuel (listed.setIfInBounds i true) b u) a w

theorem any_of_but {n : Nat} (fuel : Nat) : ∀ (listed : Array Bool) (a : Act) (w : World), AnyBut P md ops Q S n fuel listed a w → wpAny P md ops Q fuel listed a w := by
  induction fuel with
  | zero => intro _ _ _ h; exact h
  | succ k ih => intro _ _ _ h; exact ⟨h.1, fun i hi => wpOp_mono (fun b u hb => ih _ b u hb.2) (h.2 i hi)⟩

/-- What number n waits for has not come up: n does not come up either. -/
theorem not_last {n i j : Nat} {listed : Array Bool} {on : Oper} (hn : ops[n]? = some on) (hw : on.after.any (fun e => Region.binds md e && e.on == i) = true) (hi : listed.getD i true = false) (hj : j ∈ Region.ready md ops listed) : j ≠ n := by
  rintro rfl
  obtain ⟨_, o, ho, hall⟩ := mem_ready.1 hj
  obtain rfl : on = o := by rw [hn] at ho; exact Option.some.inj ho
  obtain ⟨e, he, hb⟩ := Array.any_eq_true'.1 hw
  simp only [Bool.and_eq_true, beq_iff_eq] at hb
  have h1 := hall e he hb.1
  rw [hb.2] at h1
  by_cases hs : i < listed.size
  · simp [hs] at hi h1
    rw [hi] at h1
    cases h1
  · simp [hs] at h1

/-- An operation for which number n waits, which yields its value in every world that meets S, may be taken first. -/
theorem but_first {n i : Nat} {oi on : Oper} {v : Value} (hi : ops[i]? = some oi) (hn : ops[n]? = some on) (hw : on.after.any (fun e => Region.binds md e && e.on == i) = true)
    (hsel : ∀ (j : Nat) (o : Oper) cs b, ops[j]? = some o → o.op ≠ .select cs b) (hQ : ∀ c a w, Q (.panic c) (a.put oi.dst v) w → Q (.panic c) a w) (fuel : Nat) :
    ∀ (listed : Array Bool) (a : Act) (w : World),
      (∀ j oj, ops[j]? = some oj → j ≠ i → listed.getD j true = false → (∀ e ∈ oj.after, Region.binds md e = true → e.on ≠ i) → oi.apart ops oj = true) →
      i ∈ Region.ready md ops listed → YieldsIf P ops S oi v a → S w →
      AnyBut P md ops Q S n fuel (listed.setIfInBounds i true) (a.put oi.dst v) w → AnyBut P md ops Q S n (fuel + 1) listed a w := by
  induction fuel with
  | zero =>
    intro listed a w _ hr hy hS H
    refine ⟨fun h0 => absurd hr (by rw [h0]; exact List.not_mem_nil), fun j hj => ?_⟩
    by_cases e : j = i
    · rw [e]; exact hy.wpOp hi hS ⟨fun _ => hS, H⟩
    · exact absurd (ready_mono hj e) (by rw [H.1]; exact List.not_mem_nil)
  | succ k ih =>
    intro listed a w hfree hr hy hS H
    refine ⟨fun h0 => absurd hr (by rw [h0]; exact List.not_mem_nil), fun j hj => ?_⟩
    by_cases e : j = i
    · rw [e]; exact hy.wpOp hi hS ⟨fun _ => hS, H⟩
    · have hin := (mem_ready.1 hr).1
      obtain ⟨hjun, oj, hoj, hall⟩ := mem_ready.1 hj
      have hno : ∀ x ∈ oj.after, Region.binds md x = true → x.on ≠ i := fun x hx hb he => by
        have h1 := hall x hx hb
        rw [he] at h1
        by_cases hs : i < listed.size
        · simp [hs] at hin h1
          rw [hin] at h1
          cases h1
        · simp [hs] at h1
      have hjn := not_last hn hw hin hj
      refine wpOp_mono (fun b u h3 => ?_) (wpOp_putIf hoj (hfree j oj hoj e hjun hno) (fun cs b => hsel i oi cs b hi) (fun cs b => hsel j oj cs b hoj) hQ hy (H.2 j (ready_mono hj e)))
      refine ⟨h3.2.1, ih (listed.setIfInBounds j true) b u (fun l ol hl hli hun hn2 => hfree l ol hl hli ?_ hn2) (ready_mono hr (Ne.symm e)) h3.1 (h3.2.1 hjn) ?_⟩
      · by_cases hjl : j = l
        · rw [← hjl]; exact hjun
        · rwa [getD_set_ne true hjl] at hun
      · rw [Array.setIfInBounds_comm _ _ e]; exact h3.2.2

theorem but_take {n i : Nat} {oi on : Oper} {v : Value} {fuel : Nat} {listed : Array Bool} {a : Act} {w : World} (hi : ops[i]? = some oi) (hn : ops[n]? = some on)
    (hb : (on.after.any (fun e => Region.binds md e && e.on == i) && (Region.noSelect ops && (Region.free md ops listed i && (Region.ready md ops listed).contains i))) = true)
    (hQ : ∀ c a w, Q (.panic c) (a.put oi.dst v) w → Q (.panic c) a w) (hS : S w) (hg : oi.guard = none) (hy : ∀ w, S w → (execOp a.eval oi).run P w = .ok (.value v) w)
    (h : AnyBut P md ops Q S n fuel (listed.setIfInBounds i true) (a.put oi.dst v) w) : AnyBut P md ops Q S n (fuel + 1) listed a w := by
  simp only [Bool.and_eq_true] at hb
  obtain ⟨h1, h2, h3, h4⟩ := hb
  exact but_first hi hn h1 (Region.noSelect_spec h2) hQ fuel listed a w (Region.free_spec hi h3) (by simpa using h4) (.inl ⟨by simp [Region.wanted, hg], hy⟩) hS h

/-- One operation alone may come up. -/
theorem but_step {n i : Nat} {oi : Oper} {fuel : Nat} {listed : Array Bool} {a : Act} {w : World} (hr : Region.ready md ops listed = [i]) (hi : ops[i]? = some oi) 
    (h : wpList P ops (Exit.then (fun b u => (i ≠ n → S u) ∧ AnyBut P md ops Q S n fuel (listed.setIfInBounds i true) b u) Q) [oi] a w) (hg : oi.guard = none) : AnyBut P md ops Q S n (fuel + 1) listed a w := by
  refine ⟨fun h0 => absurd h0 (by rw [hr]; simp), fun j hj => ?_⟩
  obtain rfl : j = i := by rw [hr] at hj; simpa using hj
  unfold wpOp
  have hw : Region.wanted oi (yielded ops a.tmps) = true := by simp [Region.wanted, hg]
  simp only [hi, hw, if_true]
  rw [wpList] at h
  simp only [hw, if_true] at h
  rcases h with h | ⟨h1, h2⟩
  · refine .inl ?_
    unfold Oper.wp at *
    generalize (execOp a.eval oi).run P w = r at *
    cases r with
    | ok m w2 =>
      cases m <;> simp only [Oper.upon] at h ⊢ <;> first | exact h | exact Calls.mono h (fun e w3 he => by cases e <;> exact he) | exact Rows.mono h (fun _ _ he => he)
    | halt x w2 => cases x <;> simp only [Oper.upon] at h ⊢ <;> exact h
  · exact .inr ⟨h1, h2⟩

theorem but_done {n : Nat} {listed : Array Bool} {a : Act} {w : World} (hr : Region.ready md ops listed = []) (h : Q .normal a w) (fuel : Nat) : AnyBut P md ops Q S n fuel listed a w := by
  cases fuel with
  | zero => exact ⟨hr, h⟩
  | succ k => exact ⟨fun _ => h, by rw [hr]; simp⟩

theorem region_but {n id : Nat} {a : Act} {w : World} (hm : P.follows .mixedOrders = true) (h : AnyBut P .any ops Q S n ops.size (Array.replicate ops.size false) a w.drew) : (Code.region id ops true).wp P Q a w :=
  wp_region_any hm (any_of_but _ _ _ _ h)
end
end Go.Proofs.Qxb6629007a
