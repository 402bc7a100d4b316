/-
  Seat b6628445a: zzsmsBytesEq (function 10) and zzsmsParseConcat (function 11), walked.
-/
import Derived.Test.Qxb6628445aShortB
import Derived.Deep.QuietTactic
import Derived.BigQuiet
import Derived.WalkSmall
namespace Go.Proofs.Qxb6628445a
open Go.RowKit

set_option maxRecDepth 100000 in
set_option maxHeartbeats 400000 in
theorem f10_any (x y : Sl) (xs : List Int) (w : World) (hx : Bts w x xs) (hy : Bts w y xs) (hle : xs.length ≤ 4194304) :
    Calls Try.prog 10 #[.slice x.ao x.n x.cap, .slice y.ao y.n y.cap] w fun e w' => e = .returned (.bool true) ∧ ∃ q, w' = w.drewN q := by
  obtain ⟨L, hL⟩ : ∃ L, L = xs.length := ⟨_, rfl⟩
  have h1 : x.n = L := hx.len.trans hL.symm
  have h2 : y.n = L := hy.len.trans hL.symm
  rw [← hL] at hle
  have HL : Hid (L = xs.length) := hL
  clear hL
  go_enter Try.func10, Try.ntmps10
  go_wp2
  go_loopw [5] (fun i wr => ∃ k q : Nat, k ≤ L ∧ i = .int .i64 k ∧ wr = w.drewN q) (fun i _ => L - (intOf i).toNat)
  case atStart => exact ⟨0, 0, Nat.zero_le _, rfl, rfl⟩
  case round =>
    obtain ⟨k, q, hk, rfl, rfl⟩ := hrel
    by_cases hlt : k < L
    · obtain ⟨p, hp1, hp2⟩ := hx.at (k := k) (by rw [← HL.out]; exact hlt)
      obtain ⟨p', hp1', hp2'⟩ := hy.at (k := k) (by rw [← HL.out]; exact hlt)
      rw [h1] at hp1
      rw [h2] at hp1'
      go_wp2
      go_quiet (fail)
      go_wp2
      exact ⟨⟨k + 1, q + nq, by omega, by go_num, rfl⟩, by simp [intOf]; omega⟩
    · go_wp2
      go_ret
      exact ⟨rfl, q, rfl⟩

theorem byte_at {w : World} {s : Sl} {xs : List Int} (h : Bts w s xs) (k : Nat) (x : Int) (hx : xs[k]? = some x) :
    ∃ p : Addr, (∀ W : World, (Instr.indexAt 23 (.slice s.ao s.n s.cap) (.int .i64 (k : Int))).run Try.prog W = .ok (.pointer (some p)) W) ∧ w.cell? p = some (.int .u8 x) := by
  have hk := (List.getElem?_eq_some_iff.1 hx).1
  obtain ⟨p, h1, h2⟩ := h.at hk
  rw [List.getElem?_eq_getElem hk] at hx
  rw [Option.some.inj hx] at h2
  exact ⟨p, h1, h2⟩

theorem add_pos (a : Addr) (k : Nat) (h : k ≠ 0) : a.add k = ⟨a.block, a.off + k, none⟩ := by
  unfold Addr.add
  rw [if_neg h]

/-- What stands behind the six bytes. -/
theorem drop_hdr {w : World} {a : Addr} {ref : Int} {m k : Nat} {row : List Int} (h : Rd w (some a) (byteVals (hdr ref m k ++ row))) : True ∧ ∀ ao, ao = some ⟨a.block, a.off + 6, none⟩ → Rd w ao (byteVals row) := by
  refine ⟨trivial, fun ao hao => ⟨fun e => ?_, fun a' ha j hj => ?_⟩⟩
  · rw [hao] at e; cases e
  · rw [hao] at ha
    cases ha
    have hj' : j < row.length := by simpa [byteVals] using hj
    have h1 := h.2 a rfl (6 + j) (by simp [byteVals, hdr]; omega)
    rw [add_pos a (6 + j) (by omega)] at h1
    rw [Addr.add_lit, show a.off + 6 + j = a.off + (6 + j) from by omega, h1]
    simp [byteVals, hdr, Nat.add_comm 6 j]

set_option maxRecDepth 100000 in
set_option maxHeartbeats 400000 in
theorem f11_any (a : Addr) (n cap : Nat) (ref : Int) (m k : Nat) (row : List Int) (w : World) (hs : Bts w ⟨some a, n, cap⟩ (hdr ref m k ++ row)) (hle : row.length ≤ 1048576) :
    Calls Try.prog 11 #[.slice (some a) n cap] w fun e w' => ∃ (r : Sl) (q : Nat), e = .returned (.tuple #[.int .u8 ref, .int .u8 ((m : Int) % 256), .int .u8 (((k : Int) + 1) % 256), .slice r.ao r.n r.cap, .bool true]) ∧ w' = w.drewN q ∧ Bts w r row := by
  obtain ⟨L, hL⟩ : ∃ L, L = row.length := ⟨_, rfl⟩
  have hn : n = L + 6 := by have : n = (hdr ref m k ++ row).length := hs.len; simp [hdr] at this; omega
  have hcap : n ≤ cap := hs.room
  obtain ⟨p0, a0, b0⟩ := byte_at hs 0 5 rfl
  obtain ⟨p1, a1, b1⟩ := byte_at hs 1 0 rfl
  obtain ⟨p2, a2, b2⟩ := byte_at hs 2 3 rfl
  obtain ⟨p3, a3, b3⟩ := byte_at hs 3 ref rfl
  obtain ⟨p4, a4, b4⟩ := byte_at hs 4 _ rfl
  obtain ⟨p5, a5, b5⟩ := byte_at hs 5 _ rfl
  simp only at a0 a1 a2 a3 a4 a5
  have HS : Hid (Bts w ⟨some a, n, cap⟩ (hdr ref m k ++ row)) := hs
  rw [← hL] at hle
  have HL : Hid (L = row.length) := hL
  clear hs hL
  have hL0 : (0 : Int) ≤ (L : Int) := by omega
  subst hn
  generalize hc : cap - 6 = c6 at *
  simp only [show ((0 : Nat) : Int) = 0 from rfl, show ((1 : Nat) : Int) = 1 from rfl, show ((2 : Nat) : Int) = 2 from rfl, show ((3 : Nat) : Int) = 3 from rfl, show ((4 : Nat) : Int) = 4 from rfl, show ((5 : Nat) : Int) = 5 from rfl] at a0 a1 a2 a3 a4 a5
  go_enter Try.func11, Try.ntmps11
  go_wp2
  refine wp_loop_rounds 2 ?_
  rw [rounds_succ]
  go_wp2
  rw [rounds_succ]
  go_wp2
  go_quiet (fail)
  go_wp2
  · refine bodyPost_ret (v := .tuple #[.int .u8 ref, .int .u8 ((m : Int) % 256), .int .u8 (((k : Int) + 1) % 256), .slice (some a) L c6, .bool true]) (by simp [results, Try.results11, go_sem]) rfl ⟨⟨some a, L, c6⟩, rfl, ⟨nq, rfl⟩, ?_⟩
    have hL0 : L = 0 := by omega
    have hr0 : row = [] := List.eq_nil_of_length_eq_zero (by rw [← HL.out]; exact hL0)
    subst hr0
    exact ⟨hL0, by show L ≤ c6; omega, (fun e => by cases e), Rd.nil _ _⟩
  · refine bodyPost_ret (v := .tuple #[.int .u8 ref, .int .u8 ((m : Int) % 256), .int .u8 (((k : Int) + 1) % 256), .slice (some ⟨a.block, a.off + 6, none⟩) L c6, .bool true]) (by simp [results, Try.results11, go_sem]) rfl ⟨⟨some ⟨a.block, a.off + 6, none⟩, L, c6⟩, rfl, ⟨nq, rfl⟩, ?_⟩
    exact ⟨HL.out, by show L ≤ c6; omega, (fun e => by cases e), (drop_hdr HS.out.rd).2 _ rfl⟩
end Go.Proofs.Qxb6628445a
