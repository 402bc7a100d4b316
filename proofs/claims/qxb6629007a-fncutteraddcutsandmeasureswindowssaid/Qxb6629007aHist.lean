/-
  Seat b6629007a: window.histogram, walked: the non-empty buckets, in a row of the call's own.
-/
import Derived.Test.Qxb6629007aTime
namespace Go.Proofs.Qxb6629007a
open Go.RowKit

/-- The non-empty buckets among counts, the first counting lo's. -/
def hist (lo : Int) : List Int → List (Int × Int)
  | [] => []
  | c :: cs => if 0 < c then (lo, c) :: hist (lo + 1) cs else hist (lo + 1) cs

theorem hist_snoc (lo : Int) (cs : List Int) (c : Int) : hist lo (cs ++ [c]) = hist lo cs ++ (if 0 < c then [(lo + cs.length, c)] else []) := by
  induction cs generalizing lo with
  | nil => simp [hist]
  | cons a l ih =>
    rw [List.cons_append, hist, hist, ih]
    have e : lo + 1 + (l.length : Int) = lo + ((a :: l).length : Int) := by simp; omega
    rw [e]
    split <;> simp

theorem hist_take (lo : Int) (cs : List Int) (k : Nat) (hk : k < cs.length) :
    hist lo (cs.take (k + 1)) = hist lo (cs.take k) ++ (if 0 < cs[k] then [(lo + k, cs[k])] else []) := by
  rw [List.take_succ_eq_append_getElem hk, hist_snoc]
  have : (cs.take k).length = k := by simp; omega
  rw [this]

theorem hist_length (lo : Int) (cs : List Int) : (hist lo cs).length ≤ cs.length := by
  induction cs generalizing lo with
  | nil => simp [hist]
  | cons a l ih =>
    rw [hist]
    have := ih (lo + 1)
    split <;> simp <;> omega

def bucketCells (h : List (Int × Int)) : List Value := h.flatMap fun p => [.int .i64 p.1, .int .i64 p.2]
theorem bucketCells_append (h k : List (Int × Int)) : bucketCells (h ++ k) = bucketCells h ++ bucketCells k := by simp [bucketCells]
theorem bucketCells_length (h : List (Int × Int)) : (bucketCells h).length = h.length * 2 := by
  induction h with
  | nil => rfl
  | cons a l ih => simp [bucketCells] at ih ⊢; omega

theorem info71 : (Try.prog.info? 71).map (fun i => (i.zero, i.size, i.bytes)) = some (some (.agg #[.int .i64 0, .int .i64 0]), 2, 16) := by kernel_rfl

/-- From off on block b holds the numbers cs. -/
def Row (w : World) (b off : Nat) (k : IntKind) (cs : List Int) : Prop := ∀ j (h : j < cs.length), w.cell? ⟨b, off + j, none⟩ = some (.int k cs[j])
theorem Row.later {w w' : World} {b off : Nat} {k : IntKind} {cs : List Int} (h : Row w b off k cs) (hb : Below w.heap.size w w') (hlt : b < w.heap.size) : Row w' b off k cs := fun j hj => by
  rw [hb.cell (by exact hlt)]; exact h j hj

set_option maxRecDepth 100000 in
set_option maxHeartbeats 1000000 in
theorem f41_any (b off cap : Nat) (cs : List Int) (lo : Int) (w : World) (hc : Row w b off .i64 cs) (hb : b < w.heap.size) (hlen : cs.length ≤ 1000) (hlo : 0 ≤ lo ∧ lo ≤ 1000) :
    Calls Try.prog 41 #[.slice (some ⟨b, off, none⟩) cs.length cap, .int .i64 lo] w fun e w' => ∃ v, e = .returned v ∧ w'.ownsRow w.heap.size 71 2 v (hist lo cs).length (bucketCells (hist lo cs)) ∧ Below w.heap.size w w' := by
  obtain ⟨i0, hi, hz0, hz1, hz2⟩ := info_parts info71
  obtain ⟨L, hL⟩ : ∃ L, L = cs.length := ⟨_, rfl⟩
  rw [← hL] at hlen ⊢
  have HL : Hid (L = cs.length) := hL
  clear hL
  obtain ⟨hl1, hl2⟩ := hlo
  go_enter Try.func41, Try.ntmps41
  go_wp2
  go_loopw [5, 10] (fun v i wr => ∃ k : Nat, k ≤ L ∧ i = .int .i64 k ∧ wr.ownsRow w.heap.size 71 2 v (hist lo (cs.take k)).length (bucketCells (hist lo (cs.take k))) ∧ Below w.heap.size w wr)
    (fun _ i _ => L - (intOf i).toNat)
  case atStart => exact ⟨0, Nat.zero_le _, rfl, World.ownsRow_nil _ _ _ _, Below.refl _ _⟩
  case round =>
    obtain ⟨k, hk, rfl, hown, hbel⟩ := hrel
    by_cases hkl : k < L
    · have hcx : wr.cell? ⟨b, off + k, none⟩ = some (.int .i64 (cs[k]'(by rw [← HL.out]; exact hkl))) := (hbel.cell (by exact hb)).trans (hc k _)
      obtain ⟨c, hce⟩ : ∃ c, c = cs[k]'(by rw [← HL.out]; exact hkl) := ⟨_, rfl⟩
      have HC : Hid (c = cs[k]'(by rw [← HL.out]; exact hkl)) := hce
      rw [← hce] at hcx
      clear hce
      by_cases hp : 0 < c
      · go_wp2_with (first
          | (at_builtin; refine wpList_append_own _ rfl _ _ 34 rfl w.heap.size 71 i0 _ 2 16 Try.underlying34 hi hz0 hz1 hz2 rfl (by decide) _ _ _ rfl (hown.alloc _) ⟨wr.heap.size, 0, none⟩ 1 1 [.int .i64 (lo + k), .int .i64 c] rfl rfl ?c1 ?c2 ?c3 ?c4 ?c5 ?_)
          | go_in)
        case c1 =>
          intro j u hj
          match j, hj with
          | 0, hj => simp at hj; subst hj; simp [Addr.add]
          | 1, hj => simp at hj; subst hj; simp [Addr.add]
          | j + 2, hj => simp at hj
        case c2 => intro u hu; simp at hu; rcases hu with rfl | rfl <;> rfl
        case c3 => have := hist_length lo (cs.take k); simp only [List.length_take] at this; unfold maxLen; omega
        case c4 => have := hist_length lo (cs.take k); simp only [List.length_take] at this; omega
        case c5 => rw [World.size_alloc]; have := hbel.size; omega
        · intro v' w1 hown' hgrow _
          have hne : ∀ j, u5.ownBlock = some j → w.heap.size ≤ j := fun j hj => (hown.lt j hj).1
          have hb1 : Below w.heap.size w w1 := (hbel.alloc hbel.size _).grown hgrow (by rw [World.size_alloc]; have := hbel.size; omega) hne
          have hkc : k < cs.length := by rw [← HL.out]; exact hkl
          have e1 : hist lo (cs.take (k + 1)) = hist lo (cs.take k) ++ [(lo + k, c)] := by
            have := hist_take lo cs k hkc
            rw [if_pos (by rw [← HC.out]; exact hp)] at this
            rw [this, HC.out]
          have hown2 : w1.ownsRow w.heap.size 71 2 v' (hist lo (cs.take (k + 1))).length (bucketCells (hist lo (cs.take (k + 1)))) := by
            rw [e1, bucketCells_append, List.length_append]
            exact hown'
          clear hown' hgrow hown hcx e1 hne hkc
          go_wp2
          exact ⟨⟨k + 1, by omega, by go_num, hown2, hb1⟩, by simp [intOf]; omega⟩
      · have hp' : decide (0 < c) = false := decide_eq_false hp
        have hkc : k < cs.length := by rw [← HL.out]; exact hkl
        have e1 : hist lo (cs.take (k + 1)) = hist lo (cs.take k) := by
          have := hist_take lo cs k hkc
          rw [if_neg (by rw [← HC.out]; exact hp), List.append_nil] at this
          exact this
        rw [← e1] at hown
        clear e1 hkc
        go_wp2
        exact ⟨⟨k + 1, by omega, by go_num, hown, hbel⟩, by simp [intOf]; omega⟩
    · have hkl' : decide ((k : Int) < (L : Int)) = false := decide_eq_false (by omega)
      have hkk : cs.take k = cs := List.take_of_length_le (by rw [← HL.out]; omega)
      rw [hkk] at hown
      clear hkk
      go_wp2
      go_ret
      exact ⟨_, rfl, hown, hbel⟩
end Go.Proofs.Qxb6629007a
