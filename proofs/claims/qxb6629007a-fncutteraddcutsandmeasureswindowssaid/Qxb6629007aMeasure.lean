/-
  Seat b6629007a: window.measure, walked.
-/
import Derived.Test.Qxb6629007aMeas1
namespace Go.Proofs.Qxb6629007a
open Go.RowKit

theorem info3 : (Try.prog.info? 3).map (fun i => (i.zero, i.size, i.bytes)) = some (some (.int .i64 0), 1, 8) := by kernel_rfl

theorem loop1_start (w : World) (num t1 t2 : Int) (L : Nat) (o1 o2 o3 o4 o5 : Obj) (h3 : o3 = .cells zeroWin 36) (h4 : o4 = .cells (winArr num t1 t2 L 0 0 0 0 0 (.slice none 0 0) (.slice none 0 0)) 36) (h5 : o5 = .cells Try.zeroCells80 80) :
    Loop1 w num t1 t2 L [] (.slice none 0 0) (((((w.alloc o1).alloc o2).alloc o3).alloc o4).alloc o5) := by
  have r3 : (((((w.alloc o1).alloc o2).alloc o3).alloc o4).alloc o5).heap[w.heap.size + 1 + 1]? = some o3 := by
    simp only [heap_alloc_get, World.size_alloc]
    rw [if_neg (by omega), if_neg (by omega), if_pos trivial]
  have r4 : (((((w.alloc o1).alloc o2).alloc o3).alloc o4).alloc o5).heap[w.heap.size + 1 + 1 + 1]? = some o4 := by
    simp only [heap_alloc_get, World.size_alloc]
    rw [if_neg (by omega), if_pos trivial]
  have r5 : (((((w.alloc o1).alloc o2).alloc o3).alloc o4).alloc o5).heap[w.heap.size + 1 + 1 + 1 + 1]? = some o5 := by
    simp only [heap_alloc_get, World.size_alloc]
    rw [if_pos trivial]
  subst h3 h4 h5
  exact ⟨⟨r3, r4, (((below_two _ _ _).alloc (by simp only [World.size_alloc]; omega) _).alloc (by simp only [World.size_alloc]; omega) _).alloc (by simp only [World.size_alloc]; omega) _⟩, counted_start zero80 r5, World.ownsRow_nil _ _ _ _⟩

theorem cell_new1 {w : World} {n : Nat} {x : Value} {e : TypeId} (h : w.heap.size = n) : ∀ (j : Nat) (u : Value), [x][j]? = some u → (w.alloc (Obj.cells #[x] e)).cell? ((⟨n, 0, none⟩ : Addr).add j) = some u := by
  subst h
  intro j u hj
  match j, hj with
  | 0, hj =>
    simp at hj
    subst hj
    rw [show (⟨w.heap.size, 0, none⟩ : Addr).add 0 = ⟨w.heap.size, 0, none⟩ from by unfold Addr.add; split <;> simp_all]
    exact (row_cell (alloc1_row w #[x] e)).1
  | j + 1, hj => simp at hj

/-- A row's three words, and where its element k lies: a row of gaps. -/
theorem u16_at {w : World} {base : Nat} {v : Value} {xs : List Int} (h : w.ownsRow base 67 1 v xs.length (xs.map (Value.int .u16))) : ∃ ao cap, v = .slice ao xs.length cap ∧
    ∀ k (hk : k < xs.length), ∃ p : Addr, (∀ W : World, (Instr.indexAt 64 (.slice ao xs.length cap) (.int .i64 (k : Int))).run Try.prog W = .ok (.pointer (some p)) W) ∧ w.cell? p = some (.int .u16 xs[k]) ∧ p.block < w.heap.size := by
  rcases h.2 with ⟨h1, h2⟩ | ⟨g, cap, cur, h1, h2, h3, h4, h5, h6, h7⟩
  · exact ⟨none, 0, by rw [h1, h2], fun k hk => absurd hk (by omega)⟩
  · subst h1
    refine ⟨_, cap, rfl, fun k hk => ⟨(⟨g, 0, none⟩ : Addr).add k, fun W => ?_, ?_, ?_⟩⟩
    · simp [Instr.indexAt, run_underlying Try.underlying64, asIntOf, hk]
    · exact h.cells (g := g) rfl k (.int .u16 xs[k]) (by rw [List.getElem?_map, List.getElem?_eq_getElem hk]; rfl)
    · rw [show (⟨g, 0, none⟩ : Addr).add k = ⟨g, k, none⟩ from by unfold Addr.add; split <;> simp_all]
      exact (h.lt g rfl).2

/-- The state of the second loop. -/
structure Loop2 (w0 : World) (num t1 t2 n sum p5 p50 p95 ov : Int) (lh : Value) (hl : List (Int × Int)) (G : Nat) (xs : List Int) (wr : World) : Prop where
  meas : Meas w0 num t1 t2 n sum p5 p50 p95 ov lh (.slice none 0 0) wr
  cnt : Counted wr G 85 1000 xs
  lh : wr.ownsRow w0.heap.size 71 2 lh hl.length (bucketCells hl)

theorem Loop2.step {w0 : World} {num t1 t2 n sum p5 p50 p95 ov : Int} {lh : Value} {hl : List (Int × Int)} {G : Nat} {xs : List Int} {wr : World} (h : Loop2 w0 num t1 t2 n sum p5 p50 p95 ov lh hl G xs wr)
    (hG : w0.heap.size + 5 ≤ G) {x : Int} (h0 : 0 ≤ x) (hx : x < 1000) {c : Int} (hc : c = ((xs.count x : Nat) : Int)) :
    Loop2 w0 num t1 t2 n sum p5 p50 p95 ov lh hl G (xs ++ [x]) (wr.setCell ⟨G, x.toNat, none⟩ (.int .i64 (c + 1))) := by
  subst hc
  obtain ⟨cur, h1, _⟩ := h.cnt
  refine ⟨h.meas.low ((Below.refl _ _).setCell (by show _ ≤ G; omega) _), h.cnt.add h0 (by omega), ownsRow_setCell_other h.lh (owns_ne h.lh h1 (by decide)) _⟩

theorem loop2_start {w0 : World} {num t1 t2 n sum p5 p50 p95 ov : Int} {lh : Value} {hl : List (Int × Int)} {xs : List Int} {v : Value} {wr : World} (h : Done w0 num t1 t2 n sum p5 p50 p95 ov lh (.slice none 0 0) xs v wr)
    (hlh : wr.ownsRow w0.heap.size 71 2 lh hl.length (bucketCells hl)) : Loop2 w0 num t1 t2 n sum p5 p50 p95 ov lh hl wr.heap.size [] (wr.alloc (.cells Try.zeroCells85 85)) :=
  ⟨(h.later ((Below.refl _ _).alloc (Nat.le_refl _) _)).meas, counted_start zero85 (alloc1_row _ _ _), hlh.alloc _⟩

theorem Meas.all {w0 : World} {num t1 t2 n sum p5 p50 p95 ov : Int} {lh gh : Value} {wr : World} (h : Meas w0 num t1 t2 n sum p5 p50 p95 ov lh gh wr) :
    wr.cell? ⟨w0.heap.size + 1 + 1 + 1, 0, none⟩ = some (.int .i64 num) ∧
    wr.cell? ⟨w0.heap.size + 1 + 1 + 1, 1, none⟩ = some (.int .u64 (nn t1)) ∧
    wr.cell? ⟨w0.heap.size + 1 + 1 + 1, 2, none⟩ = some (.int .i64 (ss t1)) ∧
    wr.cell? ⟨w0.heap.size + 1 + 1 + 1, 3, none⟩ = some (.pointer none) ∧
    wr.cell? ⟨w0.heap.size + 1 + 1 + 1, 4, none⟩ = some (.int .u64 (nn t2)) ∧
    wr.cell? ⟨w0.heap.size + 1 + 1 + 1, 5, none⟩ = some (.int .i64 (ss t2)) ∧
    wr.cell? ⟨w0.heap.size + 1 + 1 + 1, 6, none⟩ = some (.pointer none) ∧
    wr.cell? ⟨w0.heap.size + 1 + 1 + 1, 7, none⟩ = some (.int .i64 n) ∧
    wr.cell? ⟨w0.heap.size + 1 + 1 + 1, 8, none⟩ = some (.int .i64 sum) ∧
    wr.cell? ⟨w0.heap.size + 1 + 1 + 1, 9, none⟩ = some (.int .i64 p5) ∧
    wr.cell? ⟨w0.heap.size + 1 + 1 + 1, 10, none⟩ = some (.int .i64 p50) ∧
    wr.cell? ⟨w0.heap.size + 1 + 1 + 1, 11, none⟩ = some (.int .i64 p95) ∧
    wr.cell? ⟨w0.heap.size + 1 + 1 + 1, 12, none⟩ = some (.int .i64 ov) ∧
    wr.cell? ⟨w0.heap.size + 1 + 1 + 1, 13, none⟩ = some (lh) ∧
    wr.cell? ⟨w0.heap.size + 1 + 1 + 1, 14, none⟩ = some (gh) :=
  ⟨(row_cell h.win).1, (row_cell h.win).1, (row_cell h.win).1, (row_cell h.win).1, (row_cell h.win).1, (row_cell h.win).1, (row_cell h.win).1, (row_cell h.win).1, (row_cell h.win).1, (row_cell h.win).1, (row_cell h.win).1, (row_cell h.win).1, (row_cell h.win).1, (row_cell h.win).1, (row_cell h.win).1⟩

theorem Meas.nothing {w0 : World} {num t1 t2 n sum p5 p50 p95 ov : Int} {lh gh : Value} {wr : World} (h : Meas w0 num t1 t2 n sum p5 p50 p95 ov lh gh wr) :
    (wr.cell? ⟨w0.heap.size + 1 + 1, 0, none⟩ = some (.int .i64 0) ∧ wr.frozen? ⟨w0.heap.size + 1 + 1, 0, none⟩ = false) ∧
    (wr.cell? ⟨w0.heap.size + 1 + 1, 1, none⟩ = some (.int .u64 0) ∧ wr.frozen? ⟨w0.heap.size + 1 + 1, 1, none⟩ = false) ∧
    (wr.cell? ⟨w0.heap.size + 1 + 1, 2, none⟩ = some (.int .i64 0) ∧ wr.frozen? ⟨w0.heap.size + 1 + 1, 2, none⟩ = false) ∧
    (wr.cell? ⟨w0.heap.size + 1 + 1, 3, none⟩ = some (.pointer none) ∧ wr.frozen? ⟨w0.heap.size + 1 + 1, 3, none⟩ = false) ∧
    (wr.cell? ⟨w0.heap.size + 1 + 1, 4, none⟩ = some (.int .u64 0) ∧ wr.frozen? ⟨w0.heap.size + 1 + 1, 4, none⟩ = false) ∧
    (wr.cell? ⟨w0.heap.size + 1 + 1, 5, none⟩ = some (.int .i64 0) ∧ wr.frozen? ⟨w0.heap.size + 1 + 1, 5, none⟩ = false) ∧
    (wr.cell? ⟨w0.heap.size + 1 + 1, 6, none⟩ = some (.pointer none) ∧ wr.frozen? ⟨w0.heap.size + 1 + 1, 6, none⟩ = false) ∧
    (wr.cell? ⟨w0.heap.size + 1 + 1, 7, none⟩ = some (.int .i64 0) ∧ wr.frozen? ⟨w0.heap.size + 1 + 1, 7, none⟩ = false) ∧
    (wr.cell? ⟨w0.heap.size + 1 + 1, 8, none⟩ = some (.int .i64 0) ∧ wr.frozen? ⟨w0.heap.size + 1 + 1, 8, none⟩ = false) ∧
    (wr.cell? ⟨w0.heap.size + 1 + 1, 9, none⟩ = some (.int .i64 0) ∧ wr.frozen? ⟨w0.heap.size + 1 + 1, 9, none⟩ = false) ∧
    (wr.cell? ⟨w0.heap.size + 1 + 1, 10, none⟩ = some (.int .i64 0) ∧ wr.frozen? ⟨w0.heap.size + 1 + 1, 10, none⟩ = false) ∧
    (wr.cell? ⟨w0.heap.size + 1 + 1, 11, none⟩ = some (.int .i64 0) ∧ wr.frozen? ⟨w0.heap.size + 1 + 1, 11, none⟩ = false) ∧
    (wr.cell? ⟨w0.heap.size + 1 + 1, 12, none⟩ = some (.int .i64 0) ∧ wr.frozen? ⟨w0.heap.size + 1 + 1, 12, none⟩ = false) ∧
    (wr.cell? ⟨w0.heap.size + 1 + 1, 13, none⟩ = some (.slice none 0 0) ∧ wr.frozen? ⟨w0.heap.size + 1 + 1, 13, none⟩ = false) ∧
    (wr.cell? ⟨w0.heap.size + 1 + 1, 14, none⟩ = some (.slice none 0 0) ∧ wr.frozen? ⟨w0.heap.size + 1 + 1, 14, none⟩ = false) :=
  ⟨⟨(row_cell h.res).1, (row_cell h.res).2⟩, ⟨(row_cell h.res).1, (row_cell h.res).2⟩, ⟨(row_cell h.res).1, (row_cell h.res).2⟩, ⟨(row_cell h.res).1, (row_cell h.res).2⟩, ⟨(row_cell h.res).1, (row_cell h.res).2⟩, ⟨(row_cell h.res).1, (row_cell h.res).2⟩, ⟨(row_cell h.res).1, (row_cell h.res).2⟩, ⟨(row_cell h.res).1, (row_cell h.res).2⟩, ⟨(row_cell h.res).1, (row_cell h.res).2⟩, ⟨(row_cell h.res).1, (row_cell h.res).2⟩, ⟨(row_cell h.res).1, (row_cell h.res).2⟩, ⟨(row_cell h.res).1, (row_cell h.res).2⟩, ⟨(row_cell h.res).1, (row_cell h.res).2⟩, ⟨(row_cell h.res).1, (row_cell h.res).2⟩, ⟨(row_cell h.res).1, (row_cell h.res).2⟩⟩

theorem sum_bound {xs : List Int} (h : ∀ x ∈ xs, 0 ≤ x ∧ x < 4294967296) : 0 ≤ xs.sum ∧ xs.sum ≤ 4294967296 * xs.length := by
  induction xs with
  | nil => simp
  | cons a l ih =>
    have h1 := h a (by simp)
    have h2 := ih (fun y hy => h y (by simp [hy]))
    rw [List.sum_cons, List.length_cons]
    omega

set_option maxRecDepth 100000 in
set_option maxHeartbeats 1000000 in
theorem f36_any (base : Nat) (num t1 t2 : Int) (g cap : Nat) (gv : Value) (lens gaps : List Int) (w : World) (hl : w.ownsRow base 68 1 (.slice (some ⟨g, 0, none⟩) lens.length cap) lens.length (lens.map (Value.int .u32)))
    (hg : w.ownsRow base 67 1 gv gaps.length (gaps.map (Value.int .u16))) (hne : lens ≠ []) (hlen : lens.length ≤ 4096) (hgl : gaps.length ≤ 4096) (hx : ∀ x ∈ lens, 0 ≤ x ∧ x < 4294967296) (hgx : ∀ x ∈ gaps, 0 ≤ x ∧ x < 1000) :
    Calls Try.prog 36 #[.int .i64 num, tm t1, tm t2, .slice (some ⟨g, 0, none⟩) lens.length cap, gv] w fun e w' => ∃ lh gh, e = .returned (.agg (winArr num t1 t2 lens.length lens.sum (rk lens 5) (rk lens 50) (rk lens 95) (overs lens).length lh gh)) ∧
      w'.ownsRow w.heap.size 71 2 lh (hist 1 (counts 801 lens).tail).length (bucketCells (hist 1 (counts 801 lens).tail)) ∧ w'.ownsRow w.heap.size 71 2 gh (hist 0 (counts 1000 gaps)).length (bucketCells (hist 0 (counts 1000 gaps))) ∧ Below w.heap.size w w' := by
  obtain ⟨i0, hi, hz0, hz1, hz2⟩ := info_parts info3
  obtain ⟨L, hL⟩ : ∃ L, L = lens.length := ⟨_, rfl⟩
  have HL : Hid (L = lens.length) := hL
  have HC : Hid (∀ k (h : k < lens.length), w.cell? ⟨g, k, none⟩ = some (.int .u32 lens[k]) ∧ g < w.heap.size) := fun k h => u32_cell hl h
  rw [← hL] at hlen hl ⊢
  have HO : Hid (w.ownsRow base 68 1 (.slice (some ⟨g, 0, none⟩) L cap) L (lens.map (Value.int .u32))) := hl
  have HX : Hid (∀ x ∈ lens, 0 ≤ x ∧ x < 4294967296) := hx
  have HGX : Hid (∀ x ∈ gaps, 0 ≤ x ∧ x < 1000) := hgx
  obtain ⟨gao, gcap, rfl, hgr⟩ := u16_at hg
  obtain ⟨M, hM⟩ : ∃ M, M = gaps.length := ⟨_, rfl⟩
  have HM : Hid (M = gaps.length) := hM
  have HGR : Hid (∀ k (hk : k < gaps.length), ∃ p : Addr, (∀ W : World, (Instr.indexAt 64 (.slice gao M gcap) (.int .i64 (k : Int))).run Try.prog W = .ok (.pointer (some p)) W) ∧ w.cell? p = some (.int .u16 gaps[k]) ∧ p.block < w.heap.size) := fun k hk => by rw [hM]; exact hgr k hk
  rw [← hM] at hgl ⊢
  clear hL hl hx hgx hgr hM hg
  have hst := fun o1 o2 => loop1_start w num t1 t2 L o1 o2 _ _ _ rfl rfl rfl
  rw [tm_eq, tm_eq]
  go_enter Try.func36, Try.ntmps36
  go_wp2_with fail
  go_loopw [13, 27] (fun v i wr => ∃ k : Nat, k ≤ L ∧ i = .int .i64 k ∧ Loop1 w num t1 t2 L (lens.take k) v wr)
    (fun _ i _ => L - (intOf i).toNat)
  case atStart => exact ⟨0, Nat.zero_le _, rfl, hst _ _⟩
  case round =>
    clear hst
    obtain ⟨k, hk, rfl, hR⟩ := hrel
    by_cases hkl : k < L
    · have hkc : k < lens.length := by rw [← HL.out]; exact hkl
      obtain ⟨hc1, hc2⟩ := HC.out k hkc
      have hcx := (hR.meas.bel.cell (p := ⟨g, k, none⟩) hc2).trans hc1
      have hbx := HX.out _ (List.getElem_mem hkc)
      obtain ⟨x, he⟩ : ∃ x, x = lens[k] := ⟨_, rfl⟩
      have hT : lens.take (k + 1) = lens.take k ++ [x] := by rw [he, List.take_succ_eq_append_getElem hkc]
      rw [← he] at hcx hbx
      have HT : Hid (lens.take (k + 1) = lens.take k ++ [x]) := hT
      clear hT hc1 hc2 he hkc
      obtain ⟨hx0, hx1⟩ := hbx
      obtain ⟨c8, f8⟩ := hR.cells
      have hsb := sum_bound (xs := lens.take k) (fun y hy => HX.out y (List.mem_of_mem_take hy))
      have hsl : (lens.take k).length ≤ 4096 := by rw [List.length_take]; omega
      obtain ⟨S, hS⟩ : ∃ S, S = (lens.take k).sum := ⟨_, rfl⟩
      have HS : Hid (S = (lens.take k).sum) := hS
      have hsb1 : 0 ≤ S := by rw [hS]; exact hsb.1
      have hsb2 : S ≤ 17592186044416 := by rw [hS]; omega
      rw [← hS] at c8
      clear hS hsb hsl
      have hsize := hR.size
      by_cases hp : 800 < x
      · have holen : (overs (lens.take k)).length ≤ 4096 := by
          have := List.length_filter_le (fun x => decide (800 < x)) (lens.take k)
          rw [List.length_take] at this
          show (List.filter _ _).length ≤ _
          omega
        have hown := hR.own
        go_wp2_with (first
          | (at_builtin; refine wpList_append_own _ rfl _ _ 27 rfl (w.heap.size + 5) 3 i0 _ 1 8 Try.underlying27 hi hz0 hz1 hz2 rfl (by decide) _ _ _ rfl ((ownsRow_setCell_below hown (by show w.heap.size + 1 + 1 + 1 < _; omega) _).alloc _) ⟨wr.heap.size, 0, none⟩ 1 1 [.int .i64 x] rfl rfl ?c1 ?c2 ?c3 ?c4 ?c5 ?_)
          | go_in)
        case c1 =>
          exact cell_new1 (by simp)
        case c2 => intro u hu; simp at hu; subst hu; rfl
        case c3 => unfold maxLen; omega
        case c4 => omega
        case c5 => simp only [World.size_alloc, World.size_setCell]; omega
        · intro v' w1 hown' hgrow _
          have hR' := hR.high hp (s := S + x) (by rw [HS.out]) hown' hgrow
          rw [← HT.out] at hR'
          clear hown' hgrow hown hcx hR
          go_wp2
          exact ⟨⟨k + 1, by omega, by go_num, hR'⟩, by simp [intOf]; omega⟩
      · have hp' : decide (800 < x) = false := decide_eq_false hp
        obtain ⟨cc, fc⟩ := hR.cnt.cell hx0 (by omega)
        have hcl := List.count_le_length (a := x) (l := lens.take k)
        rw [List.length_take] at hcl
        obtain ⟨C, hC⟩ : ∃ C : Int, C = (((lens.take k).count x : Nat) : Int) := ⟨_, rfl⟩
        have hC0 : 0 ≤ C := by omega
        have hC1 : C ≤ 4096 := by omega
        rw [← hC] at cc
        have hR' := hR.low hx0 (by omega) (s := S + x) (by rw [HS.out]) hC
        rw [← HT.out] at hR'
        clear hC hcl hR
        go_wp2
        exact ⟨⟨k + 1, by omega, by go_num, hR'⟩, by simp [intOf]; omega⟩
    · have hkl' : decide ((k : Int) < (L : Int)) = false := decide_eq_false (by omega)
      have hkk : lens.take k = lens := List.take_of_length_le (by rw [← HL.out]; omega)
      rw [hkk] at hR
      clear hkk
      have holen : (overs lens).length ≤ 4096 := by
        have := List.length_filter_le (fun x => decide (800 < x)) lens
        show (List.filter _ _).length ≤ _
        have := HL.out
        omega
      have k39 := f39_any (w.heap.size + 5) u13 (overs lens) wr hR.own holen
      go_wp2_with fail
      refine k39.mono ?_
      rintro e w1 ⟨rfl, hown1, hg1⟩
      have D := hR.sorted hown1 hg1
      clear k39 hown1 hg1 hR
      obtain ⟨ao, on, ocap, hu13, hon⟩ : ∃ ao n cap, u13 = .slice ao n cap ∧ n = (overs lens).length := by
        rcases D.own.2 with ⟨h1, h2⟩ | ⟨g1, cap1, _, h1, _⟩
        · exact ⟨_, _, _, h1, h2.symm⟩
        · exact ⟨_, _, _, h1, rfl⟩
      subst hu13
      rw [← hon] at holen
      have HON : Hid (on = (overs lens).length) := hon
      clear hon
      obtain ⟨c1, f1⟩ := D.cell 12 rfl
      have D1 := D.set 12 (.int .i64 (on : Int)) setOv
      have k40 := rank_call D1 5 (by omega) hne (by rw [← HL.out]; exact hlen) (fun x hx => (HX.out x hx).1)
      rw [← HL.out] at k40
      go_wp2_with fail
      refine k40.mono ?_
      rintro e w2 ⟨rfl, q, hq⟩
      have D2 := D1.later (below_q q)
      rw [← hq] at D2
      clear k40 D1 D c1 f1 hq q
      obtain ⟨c1, f1⟩ := D2.cell 9 rfl
      have D1 := D2.set 9 (.int .i64 (rk lens 5)) setP5
      have k40 := rank_call D1 50 (by omega) hne (by rw [← HL.out]; exact hlen) (fun x hx => (HX.out x hx).1)
      rw [← HL.out] at k40
      go_wp2_with fail
      refine k40.mono ?_
      rintro e w3 ⟨rfl, q, hq⟩
      have D3 := D1.later (below_q q)
      rw [← hq] at D3
      clear k40 D1 D2 c1 f1 hq q
      obtain ⟨c1, f1⟩ := D3.cell 10 rfl
      have D1 := D3.set 10 (.int .i64 (rk lens 50)) setP50
      have k40 := rank_call D1 95 (by omega) hne (by rw [← HL.out]; exact hlen) (fun x hx => (HX.out x hx).1)
      rw [← HL.out] at k40
      go_wp2_with fail
      refine k40.mono ?_
      rintro e w4 ⟨rfl, q, hq⟩
      have D4 := D1.later (below_q q)
      rw [← hq] at D4
      clear k40 D1 D3 c1 f1 hq q
      obtain ⟨c1, f1⟩ := D4.cell 11 rfl
      have D1 := D4.set 11 (.int .i64 (rk lens 95)) setP95
      have htl : (counts 801 lens).tail.length = 800 := by rw [List.length_tail, counts_length]
      have k41 := f41_any (w.heap.size + 1 + 1 + 1 + 1) 1 800 (counts 801 lens).tail 1 _ D1.cnt.tail D1.cnt.size (by rw [htl]; omega) (by omega)
      rw [htl] at k41
      clear htl
      go_wp2_with fail
      refine k41.mono ?_
      rintro e w5 ⟨lh, rfl, hlh, hb5⟩
      have D5 := D1.later hb5
      have hlb := owns_mono hlh (base' := w.heap.size) (Nat.le_trans D1.meas.bel.size (Nat.le_refl _))
      clear k41 D1 D4 c1 f1 hb5 hlh
      obtain ⟨lao, ln, lcap, hlv⟩ : ∃ ao n cap, lh = .slice ao n cap := by
        rcases hlb.2 with ⟨h1, h2⟩ | ⟨g1, cap1, _, h1, _⟩
        · exact ⟨_, _, _, h1⟩
        · exact ⟨_, _, _, h1⟩
      subst hlv
      obtain ⟨c1, f1⟩ := D5.cell 13 rfl
      have D6 := D5.set 13 (.slice lao ln lcap) setLh
      have hlb6 := ownsRow_setCell_other hlb (a := ⟨w.heap.size + 1 + 1 + 1, 13, none⟩) (owns_ne hlb D5.meas.win (by decide)) (.slice lao ln lcap)
      have L2 := loop2_start D6 hlb6
      have hG : w.heap.size + 5 ≤ w5.heap.size := by have := D5.cnt.size; omega
      clear hlb6 D6 hlb
      go_wp2_with fail
      go_loopw [75] (fun i wr => ∃ k : Nat, k ≤ M ∧ i = .int .i64 k ∧ Loop2 w num t1 t2 L lens.sum (rk lens 5) (rk lens 50) (rk lens 95) on (.slice lao ln lcap) (hist 1 (counts 801 lens).tail) w5.heap.size (gaps.take k) wr)
        (fun i _ => M - (intOf i).toNat)
      case atStart => exact ⟨0, Nat.zero_le _, rfl, by simpa using L2⟩
      case round =>
        clear L2 D5 c1 f1
        obtain ⟨k, hk, rfl, hR⟩ := hrel
        by_cases hkl : k < M
        · have hkc : k < gaps.length := by rw [← HM.out]; exact hkl
          obtain ⟨p, hp1, hp2, hp3⟩ := HGR.out k hkc
          have hcx := (hR.meas.bel.cell hp3).trans hp2
          have hbx := HGX.out _ (List.getElem_mem hkc)
          obtain ⟨x, he⟩ : ∃ x, x = gaps[k] := ⟨_, rfl⟩
          have hT : gaps.take (k + 1) = gaps.take k ++ [x] := by rw [he, List.take_succ_eq_append_getElem hkc]
          rw [← he] at hcx hbx
          have HT : Hid (gaps.take (k + 1) = gaps.take k ++ [x]) := hT
          clear hT he hkc hp2 hp3
          obtain ⟨hx0, hx1⟩ := hbx
          obtain ⟨cc, fc⟩ := hR.cnt.cell hx0 (by omega)
          have hcl := List.count_le_length (a := x) (l := gaps.take k)
          rw [List.length_take] at hcl
          obtain ⟨C, hC⟩ : ∃ C : Int, C = (((gaps.take k).count x : Nat) : Int) := ⟨_, rfl⟩
          have hC0 : 0 ≤ C := by omega
          have hC1 : C ≤ 4096 := by omega
          rw [← hC] at cc
          have hR' := hR.step hG hx0 hx1 hC
          rw [← HT.out] at hR'
          clear hC hcl hR
          go_wp2
          exact ⟨⟨k + 1, by omega, by go_num, hR'⟩, by simp [intOf]; omega⟩
        · have hkl' : decide ((k : Int) < (M : Int)) = false := decide_eq_false (by omega)
          have hkk : gaps.take k = gaps := List.take_of_length_le (by rw [← HM.out]; omega)
          rw [hkk] at hR
          clear hkk
          have htl : (counts 1000 gaps).length = 1000 := counts_length _ _
          have k41 := f41_any w5.heap.size 0 1000 (counts 1000 gaps) 0 wr hR.cnt.row hR.cnt.size (by rw [htl]; omega) (by omega)
          rw [htl] at k41
          clear htl
          go_wp2_with fail
          refine k41.mono ?_
          rintro e w6 ⟨gh, rfl, hgh, hb6⟩
          have M6 := hR.meas.low (hb6.mono (by have := hR.cnt.size; omega))
          have hlb := owns_later hR.lh hb6
          have hgb := owns_mono hgh (base' := w.heap.size) hR.meas.bel.size
          clear k41 hR hb6 hgh
          obtain ⟨ga, gn, gc, hgv⟩ : ∃ ao n cap, gh = .slice ao n cap := by
            rcases hgb.2 with ⟨h1, h2⟩ | ⟨g1, cap1, _, h1, _⟩
            · exact ⟨_, _, _, h1⟩
            · exact ⟨_, _, _, h1⟩
          subst hgv
          obtain ⟨c1, f1⟩ : w6.cell? ⟨w.heap.size + 1 + 1 + 1, 14, none⟩ = some (.slice none 0 0) ∧ w6.frozen? ⟨w.heap.size + 1 + 1 + 1, 14, none⟩ = false := ⟨(row_cell M6.win).1, (row_cell M6.win).2⟩
          have M7 := M6.set 14 (.slice ga gn gc) setGh
          have hlb7 := ownsRow_setCell_other hlb (a := ⟨w.heap.size + 1 + 1 + 1, 14, none⟩) (owns_ne hlb M6.win (by decide)) (.slice ga gn gc)
          have hgb7 := ownsRow_setCell_other hgb (a := ⟨w.heap.size + 1 + 1 + 1, 14, none⟩) (owns_ne hgb M6.win (by decide)) (.slice ga gn gc)
          have HM7 : Hid (Meas w num t1 t2 L lens.sum (rk lens 5) (rk lens 50) (rk lens 95) on (.slice lao ln lcap) (.slice ga gn gc) (w6.setCell ⟨w.heap.size + 1 + 1 + 1, 14, none⟩ (.slice ga gn gc))) := M7
          generalize hw7 : w6.setCell ⟨w.heap.size + 1 + 1 + 1, 14, none⟩ (.slice ga gn gc) = w7 at *
          obtain ⟨a0, a1, a2, a3, a4, a5, a6, a7, a8, a9, a10, a11, a12, a13, a14⟩ := M7.all
          obtain ⟨⟨b0, z0⟩, ⟨b1, z1⟩, ⟨b2, z2⟩, ⟨b3, z3⟩, ⟨b4, z4⟩, ⟨b5, z5⟩, ⟨b6, z6⟩, ⟨b7, z7⟩, ⟨b8, z8⟩, ⟨b9, z9⟩, ⟨b10, z10⟩, ⟨b11, z11⟩, ⟨b12, z12⟩, ⟨b13, z13⟩, ⟨b14, z14⟩⟩ := M7.nothing
          have hn1 : Value.ownBlock (.slice lao ln lcap) ≠ some (w.heap.size + 1 + 1) := owns_ne hlb7 M7.res (by decide)
          have hn2 : Value.ownBlock (.slice ga gn gc) ≠ some (w.heap.size + 1 + 1) := owns_ne hgb7 M7.res (by decide)
          have hB : Below w.heap.size w w7 := M7.bel
          clear M7 HM7 M6 hlb hgb
          go_wp2_with fail
          refine bodyPost_ret (v := .agg (winArr num t1 t2 L lens.sum (rk lens 5) (rk lens 50) (rk lens 95) on (.slice lao ln lcap) (.slice ga gn gc))) ?_ rfl ?_
          · simp [results, Try.results36, go_sem, b0, b1, b2, b3, b4, b5, b6, b7, b8, b9, b10, b11, b12, b13, b14]
            rfl
          · rw [HON.out, HL.out]
            refine ⟨_, _, rfl, ?_, ?_, ?_⟩
            · iterate 15 refine ownsRow_setCell_other ?_ hn1 _
              exact hlb7
            · iterate 15 refine ownsRow_setCell_other ?_ hn2 _
              exact hgb7
            · iterate 15 refine Below.setCell ?_ (by show _ ≤ w.heap.size + 1 + 1; omega) _
              exact hB
end Go.Proofs.Qxb6629007a
