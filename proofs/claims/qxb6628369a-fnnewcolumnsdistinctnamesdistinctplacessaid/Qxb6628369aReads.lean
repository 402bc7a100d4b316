import Derived.Test.Qxb6628369aMaps
namespace Go.Proofs.Qxb6628369a
open Go.RowKit Go.Maps

theorem str_le {ss : List ByteArray} (h : ∀ s ∈ ss, s.size ≤ maxLen) (k : Nat) : (ss.getD k ByteArray.empty).size ≤ maxLen := by
  rw [List.getD_eq_getElem?_getD]
  rcases hk : ss[k]? with _ | s
  · simp [maxLen]
  · exact h s (List.mem_of_getElem? hk)

theorem field_cell {H : Type} {D : DataW H} {w : World} {base g n cap : Nat} {ts : List ByteArray} {kl : Lit} {t : ByteArray} (h : w.ownsRow base 9 1 (.slice (some ⟨g, 0, none⟩) n cap) n (ts.map Value.string)) {i : Nat} (hi : i < ts.length)
    (h1 : ∀ z, D.atKey kl z = .lit (.string t.data.toList)) (h2 : ∀ z, D.atKey kl z = .lit (.string (ts[i]).data.toList)) : w.cell? ⟨g, i, none⟩ = some (.string t) := by
  have e : t = ts[i] := by
    have := (h1 (.lit (.bool true))).symm.trans (h2 _)
    simp at this
    exact ByteArray.ext (Array.ext' (by simpa using this))
  have hl := h.1
  simp at hl
  rw [h.cellAt i (by omega), e]
  simp [hi]

set_option maxRecDepth 100000 in
set_option maxHeartbeats 400000 in
theorem f3_any {H : Type} {D : DataW H} {m : Option Nat} {w : World} (M : MapIn D m w) (b off cap len : Nat) (ss : List ByteArray) (hc : ∀ i, i < len → w.cell? ⟨b, off + i, none⟩ = some (.string (ss.getD i ByteArray.empty))) (hss : ∀ s ∈ ss, s.size ≤ maxLen) (hbw : 0 < len → b < w.heap.size) (hlm : len ≤ maxLen) :
    Calls Try.prog 3 #[.map m, .slice (some ⟨b, off, none⟩) len cap] w fun e w' => e = .returned (.bool true) ∧ Below w.heap.size w w' := by
  unfold maxLen at hlm
  have hlen : ∀ ty, (Builtin.len_ #[22] ty #[.map m]).run Try.prog w = .ok (.int .i64 (Maps.size D)) w := fun ty => M.len w ty (Below.refl _ _)
  generalize hN : Maps.size D = N at hlen
  have HN : Hid (Maps.size D = N) := hN
  clear hN
  by_cases h1 : 65536 < (N : Int)
  · go_enter Try.func3, Try.ntmps3
    go_wp2
    go_ret
    exact ⟨rfl, Below.refl _ _⟩
  by_cases h2 : 4096 < (len : Int)
  · go_enter Try.func3, Try.ntmps3
    go_wp2
    go_ret
    exact ⟨rfl, Below.refl _ _⟩
  go_enter Try.func3, Try.ntmps3
  go_wp2
  go_loop [5, 6] (fun t i => ∃ (k : Nat) (T : Int), k ≤ len ∧ i = .int .i64 k ∧ t = .int .i64 T) (fun _ i => len - (intOf i).toNat)
  case atStart => exact ⟨0, 0, Nat.zero_le _, rfl, rfl⟩
  case round =>
    obtain ⟨k, T, hk, rfl, rfl⟩ := hrel
    by_cases hlt : k < len
    · obtain ⟨s, hs⟩ : ∃ s, s = ss.getD k ByteArray.empty := ⟨_, rfl⟩
      have hcell : w.cell? ⟨b, off + k, none⟩ = some (.string s) := by rw [hs]; exact hc k hlt
      clear hs hc
      go_wp2
      · go_ret
        exact ⟨rfl, Below.refl _ _⟩
      · go_round
        case rel => exact ⟨k + 1, _, by omega, by go_num, rfl⟩
        case measure => simp [intOf]; omega
    · have hkl : k = len := by omega
      go_wp2_with fail
      refine (M.cols w (Below.refl _ _) (by rw [HN.out]; omega)).mono ?_
      rintro e w1 ⟨bi, g, cap', Dix, ts, rfl, hix, hrow, R, hb1⟩
      go_wp2_with fail
      refine (f6_any _ _ _).mono ?_
      rintro e w2 ⟨rfl, hb2⟩
      have hbox2 : w2.heap[w1.heap.size]? = some (.cells #[.map (some bi), .slice (some ⟨g, 0, none⟩) ts.length cap'] 26 (0, 0)) := by
        rw [hb2.block _ (by simp), heap_alloc_get, if_pos rfl]
      obtain ⟨x1, x2, _, _⟩ := two_cells hbox2
      have hw2 : Below w.heap.size w w2 := hb1.trans (((Below.refl _ _).alloc (by have := hb1.size; omega) _).trans (hb2.mono (by have := hb1.size; simp; omega)))
      have hix2 := ownsMap_below (hix.alloc _) (by have := hix.lt; simp; omega) hb2
      have hrow2 := ownsRow_below (hrow.alloc _) hb2
      clear hix hrow hb1
      go_wp2_with fail
      refine (f7_any _ _ _).mono ?_
      rintro e w3 ⟨rfl, hb3⟩
      have hw3 : Below w.heap.size w w3 := hw2.trans (hb3.mono (by have := hw2.size; omega))
      have hix3 := ownsMap_below hix2 hix2.lt hb3
      have hrow3 := ownsRow_below hrow2 hb3
      obtain ⟨cur, _, hgb⟩ := row_block hrow3
      have hts : ts.length = N := by rw [← HN.out, ← R.size]; exact size_of_keys (hix3.canon law9) M.canon (fun k => by rw [R.keys]; simp)
      have hsix : Maps.size Dix = N := by rw [R.size, hts]
      have hlix : ∀ ty, (Builtin.len_ #[24] ty #[.map (some bi)]).run Try.prog w3 = .ok (.int .i64 N) w3 := fun ty => by rw [hix3.len Try.underlying24 ty, hsix]
      clear hbox2 hb2 hb3 hix2 hrow2 hsix x1 x2
      go_wp2
      go_loop [11] (fun i => ∃ k : Nat, k ≤ len ∧ i = .int .i64 k) (fun i => len - (intOf i).toNat)
      case atStart => exact ⟨0, Nat.zero_le _, rfl⟩
      case round =>
        clear hkl hlt hk
        obtain ⟨k, hk, rfl⟩ := hrel
        by_cases hlt : k < len
        · obtain ⟨s, hs⟩ : ∃ s, s = ss.getD k ByteArray.empty := ⟨_, rfl⟩
          have hcell : w3.cell? ⟨b, off + k, none⟩ = some (.string s) := by rw [hs, hw3.cell (by exact hbw (by omega))]; exact hc k hlt
          have hsz : s.size ≤ maxLen := by rw [hs]; exact str_le hss k
          clear hs hc hlix hlen
          cases hb : Maps.has D (.string s.data.toList)
          · go_wp2_with (first
              | (at_lookup; refine wpList_look22 M _ rfl _ _ rfl rfl s rfl hw3 hsz false hb ?_; intro t ht)
              | (at_lookup; refine wpList_look24_no R _ hix3 rfl _ _ rfl rfl s rfl hsz hb ?_; intro c)
              | go_in)
            go_round
            case rel => exact ⟨k + 1, by omega, by go_num⟩
            case measure => simp [intOf]; omega
          · go_wp2_with (first
              | (at_lookup; refine wpList_look22 M _ rfl _ _ rfl rfl s rfl hw3 hsz true hb ?_; intro t ht)
              | (at_lookup; refine wpList_look24 R _ hix3 rfl _ _ rfl rfl s rfl hsz hb ?_; intro i hi hi1 hi2; have hcf := field_cell hrow3 hi (ht rfl) hi2; have hiN : (i : Int) < (N : Int) := (by omega); clear hi1 hi2 ht)
              | go_in)
            go_round
            case rel => exact ⟨k + 1, by omega, by go_num⟩
            case measure => simp [intOf]; omega
        · go_wp2
          go_ret
          exact ⟨rfl, hw3⟩

set_option maxRecDepth 100000 in
set_option maxHeartbeats 400000 in
theorem f3_none {H : Type} {D : DataW H} {m : Option Nat} {w : World} (M : MapIn D m w) (ao : Option Addr) (cap : Nat) :
    Calls Try.prog 3 #[.map m, .slice ao 0 cap] w fun e w' => e = .returned (.bool true) ∧ Below w.heap.size w w' := by
  have hlen : ∀ ty, (Builtin.len_ #[22] ty #[.map m]).run Try.prog w = .ok (.int .i64 (Maps.size D)) w := fun ty => M.len w ty (Below.refl _ _)
  generalize hN : Maps.size D = N at hlen
  have HN : Hid (Maps.size D = N) := hN
  clear hN
  by_cases h1 : 65536 < (N : Int)
  · go_enter Try.func3, Try.ntmps3
    go_wp2
    go_ret
    exact ⟨rfl, Below.refl _ _⟩
  go_enter Try.func3, Try.ntmps3
  go_wp2
  refine wp_loop_rounds 1 ?_
  rw [rounds_succ]
  go_wp2_with fail
  refine (M.cols w (Below.refl _ _) (by rw [HN.out]; omega)).mono ?_
  rintro e w1 ⟨bi, g, cap', Dix, ts, rfl, hix, hrow, R, hb1⟩
  go_wp2_with fail
  refine (f6_any _ _ _).mono ?_
  rintro e w2 ⟨rfl, hb2⟩
  have hbox2 : w2.heap[w1.heap.size]? = some (.cells #[.map (some bi), .slice (some ⟨g, 0, none⟩) ts.length cap'] 26 (0, 0)) := by
    rw [hb2.block _ (by simp), heap_alloc_get, if_pos rfl]
  obtain ⟨x1, x2, _, _⟩ := two_cells hbox2
  have hw2 : Below w.heap.size w w2 := hb1.trans (((Below.refl _ _).alloc (by have := hb1.size; omega) _).trans (hb2.mono (by have := hb1.size; simp; omega)))
  have hix2 := ownsMap_below (hix.alloc _) (by have := hix.lt; simp; omega) hb2
  have hrow2 := ownsRow_below (hrow.alloc _) hb2
  clear hix hrow hb1
  go_wp2_with fail
  refine (f7_any _ _ _).mono ?_
  rintro e w3 ⟨rfl, hb3⟩
  have hw3 : Below w.heap.size w w3 := hw2.trans (hb3.mono (by have := hw2.size; omega))
  have hix3 := ownsMap_below hix2 hix2.lt hb3
  have hts : ts.length = N := by rw [← HN.out, ← R.size]; exact size_of_keys (hix3.canon law9) M.canon (fun k => by rw [R.keys]; simp)
  have hsix : Maps.size Dix = N := by rw [R.size, hts]
  have hlix : ∀ ty, (Builtin.len_ #[24] ty #[.map (some bi)]).run Try.prog w3 = .ok (.int .i64 N) w3 := fun ty => by rw [hix3.len Try.underlying24 ty, hsix]
  clear hbox2 hb2 hb3 hix2 hrow2 hsix x1 x2
  go_wp2
  refine wp_loop_rounds 1 ?_
  rw [rounds_succ]
  go_wp2
  go_ret
  exact ⟨rfl, hw3⟩
end Go.Proofs.Qxb6628369a
