/-
  Seat b6628369a: function 4 (FnNewColumnsDistinctNamesDistinctPlaces), walked: a loop in a loop; two different names of the map sit at different places.
-/
import Derived.Test.Qxb6628369aReads
namespace Go.Proofs.Qxb6628369a
open Go.RowKit Go.Maps

theorem places_apart {H : Type} {D Dix : DataW H} {ts : List ByteArray} (R : ColRel D Dix (fun _ => false) ts) {s s' : ByteArray} (hb : Maps.has D (.string s.data.toList) = true) (hb' : Maps.has D (.string s'.data.toList) = true) {i i' : Nat}
    (h : ∀ z, Dix.atKey (.string s.data.toList) z = .lit (.int .i64 (i : Int))) (h' : ∀ z, Dix.atKey (.string s'.data.toList) z = .lit (.int .i64 (i' : Int))) (hne : ¬ s' = s) : ((i' : Int) == (i : Int)) = false := by
  rw [beq_eq_false_iff_ne]
  intro e
  rw [e] at h'
  have e2 := R.apart _ _ (i : Int) (by rw [R.keys, hb]; rfl) (by rw [R.keys, hb']; rfl) h h'
  simp at e2
  exact hne (ByteArray.ext (Array.ext' (by simpa using e2.symm)))

set_option maxRecDepth 100000 in
set_option maxHeartbeats 400000 in
theorem f4_any {H : Type} {D : DataW H} {m : Option Nat} {w : World} (M : MapIn D m w) (b off cap len : Nat) (ss : List ByteArray) (hc : ∀ i, i < len → w.cell? ⟨b, off + i, none⟩ = some (.string (ss.getD i ByteArray.empty))) (hss : ∀ s ∈ ss, s.size ≤ maxLen) (hbw : 0 < len → b < w.heap.size) (hlm : len ≤ maxLen) :
    Calls Try.prog 4 #[.map m, .slice (some ⟨b, off, none⟩) len cap] w fun e w' => e = .returned (.bool true) ∧ Below w.heap.size w w' := by
  unfold maxLen at hlm
  have hlen : ∀ ty, (Builtin.len_ #[22] ty #[.map m]).run Try.prog w = .ok (.int .i64 (Maps.size D)) w := fun ty => M.len w ty (Below.refl _ _)
  generalize hN : Maps.size D = N at hlen
  have HN : Hid (Maps.size D = N) := hN
  clear hN
  by_cases h1 : 65536 < (N : Int)
  · go_enter Try.func4, Try.ntmps4
    go_wp2
    go_ret
    exact ⟨rfl, Below.refl _ _⟩
  by_cases h2 : 256 < (len : Int)
  · go_enter Try.func4, Try.ntmps4
    go_wp2
    go_ret
    exact ⟨rfl, Below.refl _ _⟩
  go_enter Try.func4, Try.ntmps4
  go_wp2
  go_loop [5, 6] (fun t i => ∃ (k : Nat) (T : Int), k ≤ len ∧ i = .int .i64 k ∧ t = .int .i64 T) (fun _ i => len - (intOf i).toNat)
  case atStart => exact ⟨0, 0, Nat.zero_le _, rfl, rfl⟩
  case round =>
    obtain ⟨k, T, hk, rfl, rfl⟩ := hrel
    by_cases hlt : k < len
    · obtain ⟨s, hs⟩ : ∃ s, s = ss.getD k ByteArray.empty := ⟨_, rfl⟩
      have hcell : w.cell? ⟨b, off + k, none⟩ = some (.string s) := by rw [hs]; exact hc k hlt
      clear hs hc
      go_wp2
      · go_ret
        exact ⟨rfl, Below.refl _ _⟩
      · go_round
        case rel => exact ⟨k + 1, _, by omega, by go_num, rfl⟩
        case measure => simp [intOf]; omega
    · have hkl : k = len := by omega
      go_wp2_with fail
      refine (M.cols w (Below.refl _ _) (by rw [HN.out]; omega)).mono ?_
      rintro e w1 ⟨bi, g, cap', Dix, ts, rfl, hix, hrow, R, hb1⟩
      go_wp2_with fail
      refine (f6_any _ _ _).mono ?_
      rintro e w2 ⟨rfl, hb2⟩
      have hbox2 : w2.heap[w1.heap.size]? = some (.cells #[.map (some bi), .slice (some ⟨g, 0, none⟩) ts.length cap'] 26 (0, 0)) := by
        rw [hb2.block _ (by simp), heap_alloc_get, if_pos rfl]
      obtain ⟨x1, x2, _, _⟩ := two_cells hbox2
      have hw2 : Below w.heap.size w w2 := hb1.trans (((Below.refl _ _).alloc (by have := hb1.size; omega) _).trans (hb2.mono (by have := hb1.size; simp; omega)))
      have hix2 := ownsMap_below (hix.alloc _) (by have := hix.lt; simp; omega) hb2
      have hrow2 := ownsRow_below (hrow.alloc _) hb2
      clear hix hrow hb1
      go_wp2_with fail
      refine (f7_any _ _ _).mono ?_
      rintro e w3 ⟨rfl, hb3⟩
      have hw3 : Below w.heap.size w w3 := hw2.trans (hb3.mono (by have := hw2.size; omega))
      have hix3 := ownsMap_below hix2 hix2.lt hb3
      have hrow3 := ownsRow_below hrow2 hb3
      obtain ⟨cur, _, hgb⟩ := row_block hrow3
      clear hbox2 hb2 hb3 hix2 hrow2 x1 x2
      go_wp2
      go_loop [10] (fun i => ∃ k : Nat, k ≤ len ∧ i = .int .i64 k) (fun i => len - (intOf i).toNat)
      case atStart => exact ⟨0, Nat.zero_le _, rfl⟩
      case round =>
        clear hkl hlt hk
        obtain ⟨k, hk, rfl⟩ := hrel
        by_cases hlt : k < len
        · obtain ⟨s, hs⟩ : ∃ s, s = ss.getD k ByteArray.empty := ⟨_, rfl⟩
          have hcell : w3.cell? ⟨b, off + k, none⟩ = some (.string s) := by rw [hs, hw3.cell (by exact hbw (by omega))]; exact hc k hlt
          have hsz : s.size ≤ maxLen := by rw [hs]; exact str_le hss k
          have hc3 : ∀ i, i < len → w3.cell? ⟨b, off + i, none⟩ = some (.string (ss.getD i ByteArray.empty)) := fun i hi => by rw [hw3.cell (by exact hbw (by omega))]; exact hc i hi
          have HC : Hid (∀ i, i < len → w3.cell? ⟨b, off + i, none⟩ = some (.string (ss.getD i ByteArray.empty))) := hc3
          clear hs hc hlen hc3
          cases hb : Maps.has D (.string s.data.toList)
          · go_wp2_with (first
              | (at_lookup; refine wpList_look22 M _ rfl _ _ rfl rfl s rfl hw3 hsz false hb ?_; intro t ht)
              | go_in)
            go_round
            case rel => exact ⟨k + 1, by omega, by go_num⟩
            case measure => simp [intOf]; omega
          · go_wp2_with (first
              | (at_lookup; refine wpList_look22 M _ rfl _ _ rfl rfl s rfl hw3 hsz true hb ?_; intro t ht)
              | (at_lookup; refine wpList_look24 R _ hix3 rfl _ _ rfl rfl s rfl hsz hb ?_; intro i hi hi1 hi2; have hcf := field_cell hrow3 hi (ht rfl) hi2; have hiN : (i : Int) < (ts.length : Int) := (by omega); have hi0 : decide ((i : Int) < 0) = false := decide_eq_false (by omega); have hi9 : decide ((ts.length : Int) ≤ (i : Int)) = false := decide_eq_false (by omega); clear hi2 ht)
              | go_in)
            have HI : Hid (∀ z, Dix.atKey (.string s.data.toList) z = .lit (.int .i64 (i : Int))) := hi1
            clear hi1
            go_loop [16] (fun j => ∃ jj : Nat, jj ≤ len ∧ j = .int .i64 jj) (fun j => len - (intOf j).toNat)
            case atStart => exact ⟨k + 1, by omega, by go_num⟩
            case round =>
              obtain ⟨jj, hjj, rfl⟩ := hrel
              by_cases hjl : jj < len
              · obtain ⟨s', hs'⟩ : ∃ s', s' = ss.getD jj ByteArray.empty := ⟨_, rfl⟩
                have hcell' : w3.cell? ⟨b, off + jj, none⟩ = some (.string s') := by rw [hs']; exact HC.out jj hjl
                have hsz' : s'.size ≤ maxLen := by rw [hs']; exact str_le hss jj
                clear hs'
                by_cases hq : s' = s
                · subst hq
                  go_wp2
                  all_goals
                    go_round
                    case rel => exact ⟨jj + 1, by omega, by go_num⟩
                    case measure => simp [intOf]; omega
                · cases hb' : Maps.has D (.string s'.data.toList)
                  · go_wp2_with (first
                      | (at_lookup; refine wpList_look22 M _ rfl _ _ rfl rfl s' rfl hw3 hsz' false hb' ?_; intro t' ht')
                      | go_in)
                    all_goals
                      go_round
                      case rel => exact ⟨jj + 1, by omega, by go_num⟩
                      case measure => simp [intOf]; omega
                  · go_wp2_with (first
                      | (at_lookup; refine wpList_look22 M _ rfl _ _ rfl rfl s' rfl hw3 hsz' true hb' ?_; intro t' ht')
                      | (at_lookup; refine wpList_look24 R _ hix3 rfl _ _ rfl rfl s' rfl hsz' hb' ?_; intro i' hi' hj1 hj2; have hne := places_apart R hb hb' HI.out hj1 hq; clear hj1 hj2 ht')
                      | go_in)
                    all_goals
                      go_round
                      case rel => exact ⟨jj + 1, by omega, by go_num⟩
                      case measure => simp [intOf]; omega
              · go_wp2
                all_goals
                  go_round
                  case rel => exact ⟨k + 1, by omega, by go_num⟩
                  case measure => simp [intOf]; omega
        · go_wp2
          go_ret
          exact ⟨rfl, hw3⟩

set_option maxRecDepth 100000 in
set_option maxHeartbeats 400000 in
theorem f4_none {H : Type} {D : DataW H} {m : Option Nat} {w : World} (M : MapIn D m w) (ao : Option Addr) (cap : Nat) :
    Calls Try.prog 4 #[.map m, .slice ao 0 cap] w fun e w' => e = .returned (.bool true) ∧ Below w.heap.size w w' := by
  have hlen : ∀ ty, (Builtin.len_ #[22] ty #[.map m]).run Try.prog w = .ok (.int .i64 (Maps.size D)) w := fun ty => M.len w ty (Below.refl _ _)
  generalize hN : Maps.size D = N at hlen
  have HN : Hid (Maps.size D = N) := hN
  clear hN
  by_cases h1 : 65536 < (N : Int)
  · go_enter Try.func4, Try.ntmps4
    go_wp2
    go_ret
    exact ⟨rfl, Below.refl _ _⟩
  go_enter Try.func4, Try.ntmps4
  go_wp2
  refine wp_loop_rounds 1 ?_
  rw [rounds_succ]
  go_wp2_with fail
  refine (M.cols w (Below.refl _ _) (by rw [HN.out]; omega)).mono ?_
  rintro e w1 ⟨bi, g, cap', Dix, ts, rfl, hix, hrow, R, hb1⟩
  go_wp2_with fail
  refine (f6_any _ _ _).mono ?_
  rintro e w2 ⟨rfl, hb2⟩
  have hbox2 : w2.heap[w1.heap.size]? = some (.cells #[.map (some bi), .slice (some ⟨g, 0, none⟩) ts.length cap'] 26 (0, 0)) := by
    rw [hb2.block _ (by simp), heap_alloc_get, if_pos rfl]
  obtain ⟨x1, x2, _, _⟩ := two_cells hbox2
  have hw2 : Below w.heap.size w w2 := hb1.trans (((Below.refl _ _).alloc (by have := hb1.size; omega) _).trans (hb2.mono (by have := hb1.size; simp; omega)))
  have hix2 := ownsMap_below (hix.alloc _) (by have := hix.lt; simp; omega) hb2
  have hrow2 := ownsRow_below (hrow.alloc _) hb2
  clear hix hrow hb1
  go_wp2_with fail
  refine (f7_any _ _ _).mono ?_
  rintro e w3 ⟨rfl, hb3⟩
  have hw3 : Below w.heap.size w w3 := hw2.trans (hb3.mono (by have := hw2.size; omega))
  clear hbox2 hb2 hb3 hix2 hrow2 x1 x2
  go_wp2
  refine wp_loop_rounds 1 ?_
  rw [rounds_succ]
  go_wp2
  go_ret
  exact ⟨rfl, hw3⟩
end Go.Proofs.Qxb6628369a
