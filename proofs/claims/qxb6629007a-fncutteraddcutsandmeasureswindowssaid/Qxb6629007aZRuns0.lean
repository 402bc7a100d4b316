/-
  Seat b6629007a: plain: a histogram's buckets are the runs of the sorted list.
-/
import Derived.Test.Qxb6629007aZStarts
import Derived.Test.Qxb6629007aShift
namespace Go.Proofs.Qxb6629007a
open Go.RowKit

/-- H holds, in increasing X, one bucket for each number of ys within lo .. hi, with how often it stands there. -/
structure Bks (H : List (Int × Int)) (ys : List Int) (lo hi : Int) : Prop where
  inc : ∀ s t (hs : s < H.length) (ht : t < H.length), s < t → H[s].1 < H[t].1
  has : ∀ x ∈ ys, lo ≤ x → x ≤ hi → (x, ((ys.count x : Nat) : Int)) ∈ H
  from_ : ∀ q ∈ H, q.1 ∈ ys ∧ lo ≤ q.1 ∧ q.1 ≤ hi

theorem hist_lo (lo : Int) (cs : List Int) : ∀ q ∈ hist lo cs, lo ≤ q.1 ∧ q.1 < lo + cs.length ∧ ∃ k, ∃ hk : k < cs.length, q = (lo + (k : Int), cs[k]) ∧ 0 < cs[k] := by
  induction cs generalizing lo with
  | nil => intro q hq; simp [hist] at hq
  | cons c cs ih =>
    intro q hq
    rw [hist] at hq
    have key : q ∈ hist (lo + 1) cs → lo ≤ q.1 ∧ q.1 < lo + ((c :: cs).length : Int) ∧ ∃ k, ∃ hk : k < (c :: cs).length, q = (lo + (k : Int), (c :: cs)[k]) ∧ 0 < (c :: cs)[k] := fun h => by
      obtain ⟨h1, h2, k, hk, h3, h4⟩ := ih (lo + 1) q h
      refine ⟨by omega, by simp; omega, k + 1, by simpa using hk, ?_, by simpa using h4⟩
      rw [h3]
      simp
      omega
    split at hq
    · rename_i hc
      rcases List.mem_cons.1 hq with rfl | hq
      · exact ⟨by simp, by simp; omega, 0, by simp, by simp, by simpa using hc⟩
      · exact key hq
    · exact key hq

theorem hist_has (lo : Int) (cs : List Int) : ∀ k (hk : k < cs.length), 0 < cs[k] → (lo + (k : Int), cs[k]) ∈ hist lo cs := by
  induction cs generalizing lo with
  | nil => intro k hk; simp at hk
  | cons c cs ih =>
    intro k hk h
    rw [hist]
    match k, hk, h with
    | 0, hk, h =>
      have h' : 0 < c := h
      rw [if_pos h']
      simp
    | k + 1, hk, h =>
      have := ih (lo + 1) k (by simpa using hk) (by simpa using h)
      have e : lo + ((k + 1 : Nat) : Int) = lo + 1 + (k : Int) := by omega
      rw [e]
      split
      · exact List.mem_cons_of_mem _ this
      · exact this

theorem hist_inc (lo : Int) (cs : List Int) : (hist lo cs).Pairwise (fun a b => a.1 < b.1) := by
  induction cs generalizing lo with
  | nil => simp [hist]
  | cons c cs ih =>
    rw [hist]
    split
    · rw [List.pairwise_cons]
      refine ⟨fun q hq => ?_, ih _⟩
      have := (hist_lo (lo + 1) cs q hq).1
      simp
      omega
    · exact ih _

theorem hist_bks (lo : Int) (cs ys : List Int) (hcs : ∀ k (hk : k < cs.length), cs[k] = ((ys.count (lo + (k : Int)) : Nat) : Int)) : Bks (hist lo cs) ys lo (lo + cs.length - 1) := by
  refine ⟨fun s t hs ht h => List.pairwise_iff_getElem.1 (hist_inc lo cs) s t hs ht h, fun x hx h1 h2 => ?_, fun q hq => ?_⟩
  · have hk : (x - lo).toNat < cs.length := by omega
    have e : lo + ((x - lo).toNat : Int) = x := by omega
    have hc := hcs (x - lo).toNat hk
    rw [e] at hc
    have hpos : 0 < ys.count x := List.count_pos_iff.2 hx
    have := hist_has lo cs _ hk (by rw [hc]; omega)
    rw [e, hc] at this
    exact this
  · obtain ⟨h1, h2, k, hk, rfl, h4⟩ := hist_lo lo cs q hq
    rw [hcs k hk] at h4
    exact ⟨(List.count_pos_iff (a := lo + (k : Int)) (l := ys)).1 (by omega), h1, by simp only; omega⟩

/-- Behind i numbers: a run ends there; j buckets have been met. -/
structure Cutp (H : List (Int × Int)) (ys : List Int) (i j : Nat) : Prop where
  edge : ∀ a ∈ ys.take i, ∀ b ∈ ys.drop i, a < b
  met : ∀ t (ht : t < H.length), t < j ↔ H[t].1 ∈ ys.take i
  le : j ≤ H.length

theorem cutp_start (H : List (Int × Int)) (ys : List Int) : Cutp H ys 0 0 := ⟨fun a ha => by simp at ha, fun t ht => by simp, by omega⟩

theorem cutp_end {H : List (Int × Int)} {ys : List Int} {lo hi : Int} (hB : Bks H ys lo hi) {j : Nat} (h : Cutp H ys ys.length j) : j = H.length := by
  by_cases e : j = H.length
  · exact e
  · have hj : j < H.length := by have := h.le; omega
    have := (h.met j hj).2 (by rw [List.take_of_length_le (Nat.le_refl _)]; exact (hB.from_ _ (List.getElem_mem hj)).1)
    omega

theorem mem_take {ys : List Int} {i : Nat} {a : Int} : a ∈ ys.take i ↔ ∃ k, k < i ∧ k < ys.length ∧ ys.getD k 0 = a := by
  constructor
  · intro h
    obtain ⟨k, hk, rfl⟩ := List.mem_iff_getElem.1 h
    have : k < i ∧ k < ys.length := by simp at hk; omega
    refine ⟨k, this.1, this.2, ?_⟩
    rw [List.getElem_take, List.getD_eq_getElem?_getD, List.getElem?_eq_getElem this.2]; rfl
  · rintro ⟨k, h1, h2, rfl⟩
    rw [List.getD_eq_getElem?_getD, List.getElem?_eq_getElem h2]
    exact List.mem_iff_getElem.2 ⟨k, by simp; omega, by simp⟩
theorem mem_drop {ys : List Int} {i : Nat} {a : Int} : a ∈ ys.drop i ↔ ∃ k, i ≤ k ∧ k < ys.length ∧ ys.getD k 0 = a := by
  constructor
  · intro h
    obtain ⟨k, hk, rfl⟩ := List.mem_iff_getElem.1 h
    have : i + k < ys.length := by simp at hk; omega
    refine ⟨i + k, by omega, this, ?_⟩
    rw [List.getElem_drop, List.getD_eq_getElem?_getD, List.getElem?_eq_getElem this]; rfl
  · rintro ⟨k, h1, h2, rfl⟩
    rw [List.getD_eq_getElem?_getD, List.getElem?_eq_getElem h2]
    refine List.mem_iff_getElem.2 ⟨k - i, by simp; omega, ?_⟩
    simp only [List.getElem_drop, Option.getD_some]
    congr 1
    omega

theorem sorted_getD {ys : List Int} (hS : ys.Pairwise (· ≤ ·)) {i j : Nat} (hij : i ≤ j) (hj : j < ys.length) : ys.getD i 0 ≤ ys.getD j 0 := by
  rw [List.getD_eq_getElem?_getD, List.getD_eq_getElem?_getD, List.getElem?_eq_getElem hj, List.getElem?_eq_getElem (by omega)]
  exact sorted_get hS hij hj

/-- One run on. -/
theorem cutp_run {H : List (Int × Int)} {ys : List Int} (hS : ys.Pairwise (· ≤ ·)) {i j m : Nat} (h : Cutp H ys i j) (hm : 1 ≤ m) (him : i + m ≤ ys.length) (heq : ∀ t, i ≤ t → t < i + m → ys.getD t 0 = ys.getD i 0) (hend : i + m = ys.length ∨ ys.getD (i + m) 0 ≠ ys.getD i 0) :
    (∀ a ∈ ys.take (i + m), ∀ b ∈ ys.drop (i + m), a < b) ∧ ys.count (ys.getD i 0) = m ∧ (∀ x, x ∈ ys.take (i + m) ↔ x ∈ ys.take i ∨ x = ys.getD i 0) ∧ ys.getD i 0 ∈ ys ∧ ys.getD i 0 ∉ ys.take i := by
  have hedge := h.edge
  have hvd : ys.getD i 0 ∈ ys.drop i := mem_drop.2 ⟨i, Nat.le_refl _, by omega, rfl⟩
  have hlow : ∀ a ∈ ys.take i, a < ys.getD i 0 := fun a ha => hedge a ha _ hvd
  have hhigh : ∀ b ∈ ys.drop (i + m), ys.getD i 0 < b := fun b hb => by
    obtain ⟨k, h1, h2, rfl⟩ := mem_drop.1 hb
    have a1 := sorted_getD hS (i := i) (j := i + m) (by omega) (by omega)
    have a2 := sorted_getD hS h1 h2
    rcases hend with e | e
    · omega
    · omega
  have htk : ∀ x, x ∈ ys.take (i + m) ↔ x ∈ ys.take i ∨ x = ys.getD i 0 := fun x => by
    constructor
    · intro hx
      obtain ⟨k, h1, h2, rfl⟩ := mem_take.1 hx
      by_cases hk : k < i
      · exact .inl (mem_take.2 ⟨k, hk, h2, rfl⟩)
      · exact .inr (heq k (by omega) h1)
    · rintro (hx | rfl)
      · obtain ⟨k, h1, h2, rfl⟩ := mem_take.1 hx
        exact mem_take.2 ⟨k, by omega, h2, rfl⟩
      · exact mem_take.2 ⟨i, by omega, by omega, rfl⟩
  refine ⟨fun a ha b hb => ?_, ?_, htk, List.mem_of_mem_drop hvd, fun hx => ?_⟩
  · have := hhigh b hb
    rcases (htk a).1 ha with ha | rfl
    · have := hlow a ha; omega
    · exact this
  · have e : ys = ys.take i ++ ((ys.drop i).take m ++ ys.drop (i + m)) := by
      rw [← List.drop_drop, List.take_append_drop, List.take_append_drop]
    have hmid : (ys.drop i).take m = List.replicate m (ys.getD i 0) := by
      rw [List.eq_replicate_iff]
      refine ⟨by simp; omega, fun b hb => ?_⟩
      obtain ⟨k, hk, rfl⟩ := List.mem_iff_getElem.1 hb
      have hk' : k < m := by simp at hk; omega
      rw [List.getElem_take, List.getElem_drop, ← heq (i + k) (by omega) (by omega), List.getD_eq_getElem?_getD, List.getElem?_eq_getElem (by omega)]; rfl
    generalize ys.getD i 0 = v at *
    rw [e, List.count_append, List.count_append, hmid, List.count_replicate_self, List.count_eq_zero.2 (fun hx => by have := hlow v hx; omega), List.count_eq_zero.2 (fun hx => by have := hhigh v hx; omega)]
    omega
  · have := hlow _ hx; omega

theorem cutp_skip {H : List (Int × Int)} {ys : List Int} {lo hi : Int} (hB : Bks H ys lo hi) (hS : ys.Pairwise (· ≤ ·)) {i j m : Nat} (h : Cutp H ys i j) (hm : 1 ≤ m) (him : i + m ≤ ys.length) (heq : ∀ t, i ≤ t → t < i + m → ys.getD t 0 = ys.getD i 0) (hend : i + m = ys.length ∨ ys.getD (i + m) 0 ≠ ys.getD i 0)
    (hout : ys.getD i 0 < lo ∨ hi < ys.getD i 0) : Cutp H ys (i + m) j := by
  obtain ⟨h1, h2, h3, h4, h5⟩ := cutp_run hS h hm him heq hend
  refine ⟨h1, fun t ht => ?_, h.le⟩
  rw [h.met t ht, h3]
  constructor
  · exact .inl
  · rintro (e | e)
    · exact e
    · have := hB.from_ _ (List.getElem_mem ht)
      omega

theorem cutp_meet {H : List (Int × Int)} {ys : List Int} {lo hi : Int} (hB : Bks H ys lo hi) (hS : ys.Pairwise (· ≤ ·)) {i j m : Nat} (h : Cutp H ys i j) (hm : 1 ≤ m) (him : i + m ≤ ys.length) (heq : ∀ t, i ≤ t → t < i + m → ys.getD t 0 = ys.getD i 0) (hend : i + m = ys.length ∨ ys.getD (i + m) 0 ≠ ys.getD i 0)
    (h1 : lo ≤ ys.getD i 0) (h2 : ys.getD i 0 ≤ hi) : ∃ hj : j < H.length, H[j] = (ys.getD i 0, (m : Int)) ∧ Cutp H ys (i + m) (j + 1) := by
  obtain ⟨g1, g2, g3, g4, g5⟩ := cutp_run hS h hm him heq hend
  have hmem := hB.has _ g4 h1 h2
  rw [g2] at hmem
  obtain ⟨t, ht, hte⟩ := List.mem_iff_getElem.1 hmem
  have htj : ¬ t < j := fun hlt => by
    have := (h.met t ht).1 hlt
    rw [hte] at this
    exact g5 this
  have hjt : t = j := by
    by_cases e : t = j
    · exact e
    · exfalso
      have hj : j < H.length := by omega
      have hlt := hB.inc j t hj ht (by omega)
      rw [hte] at hlt
      have hjm : H[j].1 ∈ ys.take i := by
        have hy := (hB.from_ _ (List.getElem_mem hj)).1
        rw [← List.take_append_drop i ys] at hy
        rcases List.mem_append.1 hy with hy | hy
        · exact hy
        · obtain ⟨k, k1, k2, k3⟩ := mem_drop.1 hy
          have := sorted_getD hS k1 k2
          rw [k3] at this
          simp only at hlt
          omega
      have := (h.met j hj).2 hjm
      omega
  subst hjt
  refine ⟨ht, hte, g1, fun s hs => ?_, ht⟩
  rw [g3, ← h.met s hs]
  constructor
  · intro hlt
    by_cases e : s = t
    · subst e; rw [hte]; exact .inr rfl
    · exact .inl (by omega)
  · rintro (e | e)
    · omega
    · by_cases hst : t < s
      · have := hB.inc t s ht hs hst
        rw [hte] at this
        simp only at this
        omega
      · omega
end Go.Proofs.Qxb6629007a
