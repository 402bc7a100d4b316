/-
  Seat b6629007a: time.Time as the walks speak of it: 'tm t', the time t nanoseconds behind the zero time (no monotonic part, no location); sec, nsec, addSec, Add, Equal, zzAt, walked.
-/
import Derived.Test.Qxb6629007aRows
import Derived.WalkKit
import Derived.ProofKit
import Derived.WalkSpells
namespace Go.Proofs.Qxb6629007a
open Go.RowKit

theorem heap_alloc_get (w : World) (o : Obj) (i : Nat) : (w.alloc o).heap[i]? = if i = w.heap.size then some o else w.heap[i]? := by
  show (w.heap.push o)[i]? = _
  rw [Array.getElem?_push]

/-- The block behind a store into it. -/
theorem heap_setCell_row {w : World} {b k : Nat} {cur : Array Value} {e : TypeId} {v : Value} (h : w.heap[b]? = some (.cells cur e (0, 0))) : (w.setCell ⟨b, k, none⟩ v).heap[b]? = some (.cells (cur.setIfInBounds k v) e (0, 0)) := by
  have hlt := lt_of_block h
  have h' : w.heap[b] = .cells cur e (0, 0) := by simpa [Array.getElem?_eq_getElem hlt] using h
  show (w.heap.modify b _)[b]? = _
  rw [Array.getElem?_eq_getElem (by simpa using hlt), Array.getElem_modify_self, h']
  rfl

/-- A cell of a row, and that it may be written. -/
theorem row_cell {w : World} {b k : Nat} {cur : Array Value} {e : TypeId} (h : w.heap[b]? = some (.cells cur e (0, 0))) : w.cell? ⟨b, k, none⟩ = cur[k]? ∧ w.frozen? ⟨b, k, none⟩ = false := by
  simp [World.cell?, World.frozen?, h]

/-- What a value that owns a row of its own reads as. -/

theorem below_then {w a b : World} (h : Below w.heap.size w a) (h2 : Below a.heap.size a b) : Below w.heap.size w b := h.trans (h2.mono h.size)
theorem alloc2_row (w : World) (c : Array Value) (e : TypeId) (o : Obj) : ((w.alloc (.cells c e)).alloc o).heap[w.heap.size]? = some (.cells c e (0, 0)) := by
  rw [heap_alloc_get, heap_alloc_get, if_neg (by rw [World.size_alloc]; omega), if_pos rfl]

theorem ofInt_nat (n : Nat) : BitVec.ofInt 64 (n : Int) = BitVec.ofNat 64 n := by
  apply BitVec.eq_of_toNat_eq
  simp

theorem and_u64 {n m : Nat} (hn : n < 18446744073709551616) (hm : m < 18446744073709551616) : bits .and .u64 (n : Int) (m : Int) = ((n &&& m : Nat) : Int) := by
  have h2 : n &&& m ≤ n := Nat.and_le_left
  show IntKind.u64.wrap (((BitVec.ofInt 64 (n : Int)) &&& (BitVec.ofInt 64 (m : Int))).toNat : Int) = _
  rw [ofInt_nat, ofInt_nat, BitVec.toNat_and, BitVec.toNat_ofNat, BitVec.toNat_ofNat, Nat.mod_eq_of_lt (by simpa using hn), Nat.mod_eq_of_lt (by simpa using hm), IntKind.wrap_u64]
  omega

theorem or_u64 {n m : Nat} (hn : n < 9223372036854775808) (hm : m < 9223372036854775808) : bits .or .u64 (n : Int) (m : Int) = ((n ||| m : Nat) : Int) := by
  have h2 : n ||| m < 2 ^ 63 := Nat.or_lt_two_pow (by omega) (by omega)
  show IntKind.u64.wrap (((BitVec.ofInt 64 (n : Int)) ||| (BitVec.ofInt 64 (m : Int))).toNat : Int) = _
  rw [ofInt_nat, ofInt_nat, BitVec.toNat_or, BitVec.toNat_ofNat, BitVec.toNat_ofNat, Nat.mod_eq_of_lt (by omega), Nat.mod_eq_of_lt (by omega), IntKind.wrap_u64]
  omega

theorem land_high {n : Nat} (hn : n < 1073741824) : n &&& 9223372036854775808 = 0 := by
  have e : (9223372036854775808 : Nat) = 2 ^ 63 := by decide
  rw [e]
  apply Nat.eq_of_testBit_eq
  intro i
  rw [Nat.testBit_and, Nat.testBit_two_pow, Nat.zero_testBit]
  by_cases h : 63 = i
  · subst h
    rw [Nat.testBit_lt_two_pow (by omega)]
    rfl
  · simp [h]

theorem high_u64 {n : Nat} (hn : n < 1000000000) : bits .and .u64 (n : Int) 9223372036854775808 = 0 := by
  have := and_u64 (n := n) (m := 9223372036854775808) (by omega) (by omega)
  rw [land_high (by omega)] at this
  exact this

theorem mask_u64 {n : Nat} (hn : n < 1000000000) : bits .and .u64 (n : Int) 1073741823 = (n : Int) := by
  have := and_u64 (n := n) (m := 1073741823) (by omega) (by omega)
  rw [show (1073741823 : Nat) = 2 ^ 30 - 1 from by decide, Nat.and_two_pow_sub_one_eq_mod, Nat.mod_eq_of_lt (by omega)] at this
  exact this

theorem both_u64 {n m : Nat} (hn : n < 1000000000) (hm : m < 1000000000) : bits .and .u64 (bits .and .u64 (n : Int) (m : Int)) 9223372036854775808 = 0 := by
  have h2 : n &&& m ≤ n := Nat.and_le_left
  rw [and_u64 (by omega) (by omega)]
  exact high_u64 (by omega)

theorem bare_u64 {n : Nat} (hn : n < 1000000000) : bits .andNot .u64 (n : Int) 1073741823 = 0 := by
  show IntKind.u64.wrap (((BitVec.ofInt 64 (n : Int)) &&& ~~~(BitVec.ofInt 64 ((1073741823 : Nat) : Int))).toNat : Int) = _
  rw [ofInt_nat, ofInt_nat]
  have : (BitVec.ofNat 64 n &&& ~~~BitVec.ofNat 64 1073741823).toNat = 0 := by
    apply Nat.eq_of_testBit_eq
    intro i
    rw [BitVec.toNat_and, Nat.testBit_and, Nat.zero_testBit]
    by_cases h : i < 30
    · have : (~~~BitVec.ofNat 64 1073741823).toNat.testBit i = false := by
        rw [BitVec.testBit_toNat]
        rw [BitVec.getLsbD_not, BitVec.getLsbD_ofNat]
        have : (1073741823 : Nat).testBit i = true := by
          rw [show (1073741823 : Nat) = 2 ^ 30 - 1 from by decide, Nat.testBit_two_pow_sub_one]
          simpa using h
        rw [this]
        have h64 : i < 64 := by omega
        simp [h64]
      rw [this, Bool.and_false]
    · have : (BitVec.ofNat 64 n).toNat.testBit i = false := by
        rw [BitVec.toNat_ofNat, Nat.mod_eq_of_lt (by omega)]
        apply Nat.testBit_lt_two_pow
        calc n < 2 ^ 30 := by omega
          _ ≤ 2 ^ i := Nat.pow_le_pow_right (by decide) (by omega)
      rw [this, Bool.false_and]
  rw [this]
  rfl

theorem zor_u64 {n : Nat} (hn : n < 1000000000) : bits .or .u64 0 (n : Int) = (n : Int) := by
  have := or_u64 (n := 0) (m := n) (by omega) (by omega)
  rw [Nat.zero_or] at this
  exact this


theorem zhigh {n : Int} (h0 : 0 ≤ n) (hn : n < 1000000000) : bits .and .u64 n 9223372036854775808 = 0 := by
  obtain ⟨m, rfl⟩ := Int.eq_ofNat_of_zero_le h0; exact high_u64 (by omega)
theorem zmask {n : Int} (h0 : 0 ≤ n) (hn : n < 1000000000) : bits .and .u64 n 1073741823 = n := by
  obtain ⟨m, rfl⟩ := Int.eq_ofNat_of_zero_le h0; exact mask_u64 (by omega)
theorem zbare {n : Int} (h0 : 0 ≤ n) (hn : n < 1000000000) : bits .andNot .u64 n 1073741823 = 0 := by
  obtain ⟨m, rfl⟩ := Int.eq_ofNat_of_zero_le h0; exact bare_u64 (by omega)
theorem zor {n : Int} (h0 : 0 ≤ n) (hn : n < 1000000000) : bits .or .u64 0 n = n := by
  obtain ⟨m, rfl⟩ := Int.eq_ofNat_of_zero_le h0; exact zor_u64 (by omega)
theorem zboth {n m : Int} (h0 : 0 ≤ n) (hn : n < 1000000000) (h1 : 0 ≤ m) (hm : m < 1000000000) : bits .and .u64 (bits .and .u64 n m) 9223372036854775808 = 0 := by
  obtain ⟨n, rfl⟩ := Int.eq_ofNat_of_zero_le h0; obtain ⟨m, rfl⟩ := Int.eq_ofNat_of_zero_le h1; exact both_u64 (by omega) (by omega)

set_option maxRecDepth 100000 in
theorem f33_any (b : Nat) (n : Int) (w : World) (hn0 : 0 ≤ n) (hn : n < 1000000000) (h0 : w.cell? ⟨b, 0, none⟩ = some (.int .u64 n)) :
    Calls Try.prog 33 #[.pointer (some ⟨b, 0, none⟩)] w fun e w' => e = .returned (.int .i32 n) ∧ w' = w := by
  have hm := zmask hn0 hn
  go_enter Try.func33, Try.ntmps33
  go_wp2
  go_ret
  exact ⟨rfl, rfl⟩

set_option maxRecDepth 100000 in
theorem f32_any (b : Nat) (n : Int) (x : Int) (w : World) (hn0 : 0 ≤ n) (hn : n < 1000000000) (h0 : w.cell? ⟨b, 0, none⟩ = some (.int .u64 n)) (h1 : w.cell? ⟨b, 1, none⟩ = some (.int .i64 x)) :
    Calls Try.prog 32 #[.pointer (some ⟨b, 0, none⟩)] w fun e w' => e = .returned (.int .i64 x) ∧ w' = w := by
  have hm := zhigh hn0 hn
  go_enter Try.func32, Try.ntmps32
  go_wp2
  go_ret
  exact ⟨rfl, rfl⟩

set_option maxRecDepth 100000 in
theorem f37_any (b : Nat) (n x d : Int) (w : World) (hn0 : 0 ≤ n) (hn : n < 1000000000) (h0 : w.cell? ⟨b, 0, none⟩ = some (.int .u64 n)) (h1 : w.cell? ⟨b, 1, none⟩ = some (.int .i64 x))
    (hf : w.frozen? ⟨b, 1, none⟩ = false)
    (hx : -4611686018427387904 ≤ x ∧ x ≤ 4611686018427387904) (hd : -4611686018427387904 ≤ d ∧ d < 4611686018427387904) :
    Calls Try.prog 37 #[.pointer (some ⟨b, 0, none⟩), .int .i64 d] w fun e w' => e = .returned (.tuple #[]) ∧ w' = w.setCell ⟨b, 1, none⟩ (.int .i64 (x + d)) := by
  have hm := zhigh hn0 hn
  obtain ⟨hx1, hx2⟩ := hx
  obtain ⟨hd1, hd2⟩ := hd
  by_cases h : 0 < d
  · have h2 : x < x + d := by omega
    go_enter Try.func37, Try.ntmps37
    go_wp2
    go_end0
    exact ⟨rfl, rfl⟩
  · have h2 : decide (x < x + d) = false := decide_eq_false (by omega)
    have h3 : decide (0 < d) = false := decide_eq_false h
    go_enter Try.func37, Try.ntmps37
    go_wp2
    go_end0
    exact ⟨rfl, rfl⟩

theorem td_facts (d : Int) : d = 1000000000 * d.tdiv 1000000000 + d.tmod 1000000000 ∧ -1000000000 < d.tmod 1000000000 ∧ d.tmod 1000000000 < 1000000000 :=
  ⟨(Int.mul_tdiv_add_tmod d 1000000000).symm, Int.lt_tmod_of_pos d (by decide), Int.tmod_lt_of_pos d (by decide)⟩

theorem below_two (w : World) (o o' : Obj) : Below w.heap.size w ((w.alloc o).alloc o') := ((Below.refl _ _).alloc (Nat.le_refl _) _).alloc (by rw [World.size_alloc]; omega) _

/-- A time of n nanoseconds behind x seconds. -/
def tmv (n x : Int) : Value := .agg #[.int .u64 n, .int .i64 x, .pointer none]

def nn (t : Int) : Int := t % 1000000000
def ss (t : Int) : Int := t / 1000000000
theorem nn_lo (t : Int) : 0 ≤ nn t := by unfold nn; omega
theorem nn_hi (t : Int) : nn t < 1000000000 := by unfold nn; omega
theorem tm_val (t : Int) : 1000000000 * ss t + nn t = t := by unfold nn ss; omega

/-- The time t nanoseconds behind the zero time. -/
def tm (t : Int) : Value := tmv (nn t) (ss t)
theorem tm_eq (t : Int) : tm t = .agg #[.int .u64 (nn t), .int .i64 (ss t), .pointer none] := rfl
theorem tm_zero : tm 0 = .agg #[Value.int IntKind.u64 0, Value.int IntKind.i64 0, Value.pointer none] := rfl

set_option maxRecDepth 100000 in
set_option maxHeartbeats 1000000 in
theorem f29_raw (n x d : Int) (w : World) (hn0 : 0 ≤ n) (hn : n < 1000000000)
    (hx : -4611686018427387904 ≤ x ∧ x ≤ 4611686018427387904) (hd : -9223372036854775808 ≤ d ∧ d < 9223372036854775808) :
    Calls Try.prog 29 #[tmv n x, .int .i64 d] w fun e w' => e = .returned (tmv ((n + d) % 1000000000) (x + (n + d) / 1000000000)) ∧ Below w.heap.size w w' := by
  have hm2 := zbare hn0 hn
  rw [tmv]
  have hdm := td_facts d
  have k33 := f33_any w.heap.size n _ hn0 hn (row_cell (k := 0) (alloc2_row w #[.int .u64 n, .int .i64 x, .pointer none] 33 (.cells #[Value.int IntKind.u64 0, Value.int IntKind.i64 0, Value.pointer none] 33))).1
  obtain ⟨hdm, hdm1, hdm2⟩ := hdm
  by_cases hs : 1000000000 ≤ n + d.tmod 1000000000
  · skip
    have hz := zor (n := n + d.tmod 1000000000 - 1000000000) (by omega) (by omega)
    have hr1 := alloc2_row w #[.int .u64 (n + d.tmod 1000000000 - 1000000000), .int .i64 x, .pointer none] 33 (.cells #[Value.int IntKind.u64 0, Value.int IntKind.i64 0, Value.pointer none] 33)
    have k37 := f37_any w.heap.size (n + d.tmod 1000000000 - 1000000000) x (d.tdiv 1000000000 + 1) _ (by omega) (by omega) (row_cell (k := 0) hr1).1 (row_cell (k := 1) hr1).1 (row_cell (k := 1) hr1).2 hx (by omega)
    have hh := zhigh (n := n + d.tmod 1000000000 - 1000000000) (by omega) (by omega)
    have e1 : (n + d) % 1000000000 = n + d.tmod 1000000000 - 1000000000 := by omega
    have e2 : (n + d) / 1000000000 = d.tdiv 1000000000 + 1 := by omega
    rw [e1, e2]
    have hq1 : -4611686018427387904 ≤ d.tdiv 1000000000 := by omega
    have hq2 : d.tdiv 1000000000 < 4611686018427387904 := by omega
    clear e1 e2 hr1 hdm
    go_enter Try.func29, Try.ntmps29
    go_wp2_with fail
    refine k33.mono ?_
    rintro e w1 ⟨rfl, rfl⟩
    clear k33
    go_wp2_with fail
    refine k37.mono ?_
    rintro e w1 ⟨rfl, rfl⟩
    clear k37
    go_wp2
    refine bodyPost_ret (v := tmv (n + d.tmod 1000000000 - 1000000000) (x + (d.tdiv 1000000000 + 1))) ?_ rfl ⟨rfl, below_two _ _ _⟩
    simp [results, Try.results29, go_sem]
    rfl
  · by_cases hs2 : n + d.tmod 1000000000 < 0
    · skip
      have hs' : decide (1000000000 ≤ n + d.tmod 1000000000) = false := decide_eq_false hs
      have hz := zor (n := n + d.tmod 1000000000 + 1000000000) (by omega) (by omega)
      have hr1 := alloc2_row w #[.int .u64 (n + d.tmod 1000000000 + 1000000000), .int .i64 x, .pointer none] 33 (.cells #[Value.int IntKind.u64 0, Value.int IntKind.i64 0, Value.pointer none] 33)
      have k37 := f37_any w.heap.size (n + d.tmod 1000000000 + 1000000000) x (d.tdiv 1000000000 - 1) _ (by omega) (by omega) (row_cell (k := 0) hr1).1 (row_cell (k := 1) hr1).1 (row_cell (k := 1) hr1).2 hx (by omega)
      have hh := zhigh (n := n + d.tmod 1000000000 + 1000000000) (by omega) (by omega)
      have e1 : (n + d) % 1000000000 = n + d.tmod 1000000000 + 1000000000 := by omega
      have e2 : (n + d) / 1000000000 = d.tdiv 1000000000 - 1 := by omega
      rw [e1, e2]
      have hq1 : -4611686018427387904 ≤ d.tdiv 1000000000 := by omega
      have hq2 : d.tdiv 1000000000 < 4611686018427387904 := by omega
      clear e1 e2 hr1 hdm
      go_enter Try.func29, Try.ntmps29
      go_wp2_with fail
      refine k33.mono ?_
      rintro e w1 ⟨rfl, rfl⟩
      clear k33
      go_wp2_with fail
      refine k37.mono ?_
      rintro e w1 ⟨rfl, rfl⟩
      clear k37
      go_wp2
      refine bodyPost_ret (v := tmv (n + d.tmod 1000000000 + 1000000000) (x + (d.tdiv 1000000000 - 1))) ?_ rfl ⟨rfl, below_two _ _ _⟩
      simp [results, Try.results29, go_sem]
      rfl
    · skip
      have hs' : decide (1000000000 ≤ n + d.tmod 1000000000) = false := decide_eq_false hs
      have hs3 : decide (n + d.tmod 1000000000 < 0) = false := decide_eq_false hs2
      have hz := zor (n := n + d.tmod 1000000000) (by omega) (by omega)
      have hr1 := alloc2_row w #[.int .u64 (n + d.tmod 1000000000), .int .i64 x, .pointer none] 33 (.cells #[Value.int IntKind.u64 0, Value.int IntKind.i64 0, Value.pointer none] 33)
      have k37 := f37_any w.heap.size (n + d.tmod 1000000000) x (d.tdiv 1000000000) _ (by omega) (by omega) (row_cell (k := 0) hr1).1 (row_cell (k := 1) hr1).1 (row_cell (k := 1) hr1).2 hx (by omega)
      have hh := zhigh (n := n + d.tmod 1000000000) (by omega) (by omega)
      have e1 : (n + d) % 1000000000 = n + d.tmod 1000000000 := by omega
      have e2 : (n + d) / 1000000000 = d.tdiv 1000000000 := by omega
      rw [e1, e2]
      have hq1 : -4611686018427387904 ≤ d.tdiv 1000000000 := by omega
      have hq2 : d.tdiv 1000000000 < 4611686018427387904 := by omega
      clear e1 e2 hr1 hdm
      go_enter Try.func29, Try.ntmps29
      go_wp2_with fail
      refine k33.mono ?_
      rintro e w1 ⟨rfl, rfl⟩
      clear k33
      go_wp2_with fail
      refine k37.mono ?_
      rintro e w1 ⟨rfl, rfl⟩
      clear k37
      go_wp2
      refine bodyPost_ret (v := tmv (n + d.tmod 1000000000) (x + (d.tdiv 1000000000))) ?_ rfl ⟨rfl, below_two _ _ _⟩
      simp [results, Try.results29, go_sem]
      rfl

theorem f29_any (t d : Int) (w : World) (ht : -36893488147419103232 ≤ t ∧ t ≤ 36893488147419103232) (hd : -9223372036854775808 ≤ d ∧ d < 9223372036854775808) :
    Calls Try.prog 29 #[tm t, .int .i64 d] w fun e w' => e = .returned (tm (t + d)) ∧ Below w.heap.size w w' := by
  have h := f29_raw (t % 1000000000) (t / 1000000000) d w (by omega) (by omega) (by omega) hd
  have e1 : (t % 1000000000 + d) % 1000000000 = (t + d) % 1000000000 := by omega
  have e2 : t / 1000000000 + (t % 1000000000 + d) / 1000000000 = (t + d) / 1000000000 := by omega
  rw [e1, e2] at h
  exact h


attribute [local go_sem] tm_eq

theorem cells3 {w : World} {b : Nat} {x y z : Value} {e : TypeId} (h : w.heap[b]? = some (.cells #[x, y, z] e (0, 0))) :
    (w.cell? ⟨b, 0, none⟩ = some x ∧ w.cell? ⟨b, 1, none⟩ = some y ∧ w.cell? ⟨b, 2, none⟩ = some z) ∧ w.frozen? ⟨b, 0, none⟩ = false ∧ w.frozen? ⟨b, 1, none⟩ = false ∧ w.frozen? ⟨b, 2, none⟩ = false :=
  ⟨⟨(row_cell h).1, (row_cell h).1, (row_cell h).1⟩, (row_cell (k := 0) h).2, (row_cell (k := 1) h).2, (row_cell (k := 2) h).2⟩

theorem alloc1_row (w : World) (c : Array Value) (e : TypeId) : (w.alloc (.cells c e)).heap[w.heap.size]? = some (.cells c e (0, 0)) := by
  rw [heap_alloc_get, if_pos rfl]

theorem below_row {B : Nat} {w w' : World} (h : Below B w w') {b : Nat} (hb : b < B) {o : Obj} (hr : w.heap[b]? = some o) : w'.heap[b]? = some o := by rw [h.block b hb, hr]

set_option maxRecDepth 100000 in
theorem f14_any (t : Int) (w : World) (ht : -9223372036854775808 ≤ t ∧ t < 9223372036854775808) :
    Calls Try.prog 14 #[.int .i64 t] w fun e w' => e = .returned (tm t) ∧ Below w.heap.size w w' := by
  have k := f29_any 0 t (w.alloc (Obj.cells #[Value.int IntKind.u64 0, Value.int IntKind.i64 0, Value.pointer none] 33)) (by omega) ht
  rw [Int.zero_add, tm_zero] at k
  go_enter Try.func14, Try.ntmps14
  go_wp2_with fail
  refine k.mono ?_
  rintro e w1 ⟨rfl, hb⟩
  clear k
  obtain ⟨⟨c0, c1, c2⟩, z0, z1, z2⟩ := cells3 (below_row hb (by rw [World.size_alloc]; omega) (alloc1_row _ _ _))
  have hb1 : Below w.heap.size w w1 := below_then ((Below.refl _ _).alloc (Nat.le_refl _) _) hb
  go_wp2_with fail
  refine bodyPost_ret (v := tm t) ?_ rfl ⟨rfl, ((hb1.setCell (Nat.le_refl _) _).setCell (Nat.le_refl _) _).setCell (Nat.le_refl _) _⟩
  simp [results, Try.results14, go_sem, c0, c1, c2]

set_option maxRecDepth 100000 in
set_option maxHeartbeats 1000000 in
theorem f34_any (t u : Int) (w : World) :
    Calls Try.prog 34 #[tm t, tm u] w fun e w' => e = .returned (.bool (decide (t = u))) ∧ Below w.heap.size w w' := by
  have hm := zboth (nn_lo t) (nn_hi t) (nn_lo u) (nn_hi u)
  have hr2 : ((w.alloc (Obj.cells #[.int .u64 (nn t), .int .i64 (ss t), .pointer none] 33)).alloc (Obj.cells #[.int .u64 (nn u), .int .i64 (ss u), .pointer none] 33)).heap[w.heap.size + 1]? = some (.cells #[.int .u64 (nn u), .int .i64 (ss u), .pointer none] 33 (0, 0)) := by
    have := alloc1_row (w.alloc (Obj.cells #[.int .u64 (nn t), .int .i64 (ss t), .pointer none] 33)) #[.int .u64 (nn u), .int .i64 (ss u), .pointer none] 33
    rwa [World.size_alloc] at this
  have hr1 := alloc2_row w #[.int .u64 (nn t), .int .i64 (ss t), .pointer none] 33 (Obj.cells #[.int .u64 (nn u), .int .i64 (ss u), .pointer none] 33)
  have a32 := f32_any w.heap.size (nn t) (ss t) _ (nn_lo t) (nn_hi t) (row_cell (k := 0) hr1).1 (row_cell (k := 1) hr1).1
  have b32 := f32_any (w.heap.size + 1) (nn u) (ss u) _ (nn_lo u) (nn_hi u) (row_cell (k := 0) hr2).1 (row_cell (k := 1) hr2).1
  have a33 := f33_any w.heap.size (nn t) _ (nn_lo t) (nn_hi t) (row_cell (k := 0) hr1).1
  have b33 := f33_any (w.heap.size + 1) (nn u) _ (nn_lo u) (nn_hi u) (row_cell (k := 0) hr2).1
  clear hr1 hr2
  have HE : Hid (decide (t = u) = (if ss t = ss u then (nn t == nn u) else false)) := by
    rw [Hid]
    have e1 := tm_val t
    have e2 := tm_val u
    by_cases h : t = u
    · subst h; simp
    · rw [decide_eq_false h]
      by_cases h2 : ss t = ss u
      · rw [if_pos h2]
        exact (beq_eq_false_iff_ne.2 (by omega)).symm
      · rw [if_neg h2]
  by_cases hs : (ss t == ss u) = true
  · rw [HE.out, if_pos (by simpa using hs)]
    go_enter Try.func34, Try.ntmps34
    go_wp2_with fail
    refine a32.mono ?_
    rintro e w1 ⟨rfl, rfl⟩
    go_wp2_with fail
    refine b32.mono ?_
    rintro e w1 ⟨rfl, rfl⟩
    go_wp2_with fail
    refine a33.mono ?_
    rintro e w1 ⟨rfl, rfl⟩
    go_wp2_with fail
    refine b33.mono ?_
    rintro e w1 ⟨rfl, rfl⟩
    go_wp2
    go_ret
    exact ⟨rfl, below_two _ _ _⟩
  · have hs' : (ss t == ss u) = false := by simpa using hs
    rw [HE.out, if_neg (by simpa using hs)]
    go_enter Try.func34, Try.ntmps34
    go_wp2_with fail
    refine a32.mono ?_
    rintro e w1 ⟨rfl, rfl⟩
    go_wp2_with fail
    refine b32.mono ?_
    rintro e w1 ⟨rfl, rfl⟩
    go_wp2
    go_ret
    exact ⟨rfl, below_two _ _ _⟩
end Go.Proofs.Qxb6629007a
