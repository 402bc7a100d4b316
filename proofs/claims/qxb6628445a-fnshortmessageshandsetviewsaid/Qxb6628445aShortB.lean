/-
  Seat b6628445a: ShortMessages (function 9) with many parts, walked; and its whole answer as a plain function of lists.
-/
import Derived.Test.Qxb6628445aShortA
namespace Go.Proofs.Qxb6628445a
open Go.RowKit

/-- What stands ahead of part k of n. -/
def hdr (ref : Int) (n k : Nat) : List Int := [5, 0, 3, ref, (n : Int) % 256, ((k : Int) + 1) % 256]

theorem wpList_append_full {w : World} {ops : Array Oper} {rest : List Oper} {o : Oper} {a : Act} {Q : Exit → Act → World → Prop} (hgd : o.guard = none) (so xo : Operand)
    (ho : o.op = .call { callee := .builtin .append, args := #[so, xo], argTypes := #[23, 23] }) (s p : Sl) (hs : a.eval so = .slice s.ao s.n s.cap) (hx : a.eval xo = .slice p.ao p.n p.cap) (hfull : s.cap = s.n) {xs ys : List Int} (hbs : Bts w s xs) (hbp : Bts w p ys) (hlen : xs.length + ys.length ≤ 4194304)
    (h : ∀ (r : Sl) (w' : World), Bts w' r (xs ++ ys) → Below w.heap.size w w' → wpList Try.prog ops Q rest (a.put o.dst (.slice r.ao r.n r.cap)) w') : wpList Try.prog ops Q (o :: rest) a w := by
  refine wpList_plain hgd fun K hK => ?_
  obtain ⟨r, w', hrun, h1, h2⟩ := run_append_full hbs hfull hbp hlen o.type
  unfold Oper.wp execOp
  simp only [ho, resolve, invoke, builtin, Sem.run_bind, Sem.run_pure, Result.andThen_ok, List.map_toArray, List.map_cons, List.map_nil, hs, hx, hrun]
  exact hK _ _ (h r w' h1 h2)

theorem hdr_bts (w : World) (ref : Int) (n k : Nat) : Bts (w.alloc (.cells #[.int .u8 5, .int .u8 0, .int .u8 3, .int .u8 ref, .int .u8 ((n : Int) % 256), .int .u8 (((k : Int) + 1) % 256)] 5)) ⟨some ⟨w.heap.size, 0, none⟩, 6, 6⟩ (hdr ref n k) := by
  refine ⟨rfl, Nat.le_refl _, (fun e => by cases e), Rd.ofBlock (e := 5) (by rw [heap_alloc_get, if_pos rfl]) (fun j hj => ?_)⟩
  have : j < 6 := hj
  match j, this with
  | 0, _ => rfl
  | 1, _ => rfl
  | 2, _ => rfl
  | 3, _ => rfl
  | 4, _ => rfl
  | 5, _ => rfl

set_option maxRecDepth 100000 in
set_option maxHeartbeats 400000 in
theorem f9_many (eb : Nat) (ref : Int) (ao : Option Addr) (rs : List Sl) (n cap : Nat) (rows : List (List Int)) (w : World) (hm : Mat w ao rs rows) (hn : n = rs.length) (hn1 : ((n : Int) == 1) = false)
    (c2 : w.cell? ⟨eb, 2, none⟩ = some (.slice ao n cap)) (c3 : w.cell? ⟨eb, 3, none⟩ = some (.slice none 0 0)) (hle : n ≤ 1048576) (hrow : ∀ x ∈ rows, x.length ≤ 1048576) :
    Calls Try.prog 9 #[.pointer (some ⟨eb, 0, none⟩), .int .u8 ref] w fun e w' => ∃ (ra : Option Addr) (rs' : List Sl) (rc : Nat), e = .returned (.slice ra rs'.length rc) ∧ Mat w' ra rs' (rows.mapIdx fun k p => hdr ref n k ++ p) ∧ Below w.heap.size w w' := by
  have hne : ∀ W : World, (binOp .neq 23 (.slice none 0 0) (.slice none 0 0)).run Try.prog W = .ok (.bool false) W := fun W => by
    have := run_neq_slice_nil_any (P := Try.prog) W 23 5 none 0 0 0 0 Try.underlying23
    simpa using this
  obtain ⟨i0, hi, hz0, hz1, hz2⟩ := info_parts info23
  have HL : Hid (n = rs.length) := hn
  have HR : Hid (n = rows.length) := hn.trans hm.len
  clear hn
  go_enter Try.func9, Try.ntmps9
  go_wp2_with (first
    | (at_make; refine wpList_make_full _ rfl _ _ 22 rfl w.heap.size 23 i0 (.slice none 0 0) 1 Try.underlying22 hi hz0 hz1 .i64 .i64 _ _ n rfl rfl rfl rfl (by rw [hz2]; omega) (by unfold maxLen; omega) (Nat.le_refl _) ?_; intro w0 hown0 hg0; have hb0 : Below w.heap.size w w0 := (Below.refl _ _).grown hg0 (Nat.le_refl _) (fun j hj => by cases hj); have d2 : w0.cell? ⟨eb, 2, none⟩ = some (.slice ao n cap) := (hb0.cell (World.block_lt_of_cell? w _ c2)).trans c2)
    | go_in)
  go_loopw [52] (fun i wr => ∃ (k : Nat) (rs' : List Sl), k ≤ n ∧ i = .int .i64 k ∧ rs'.length = k ∧ Laid wr w.heap.size n rs' (rows.mapIdx fun k p => hdr ref n k ++ p) ∧ Below w.heap.size w wr) (fun i _ => n - (intOf i).toNat)
  case atStart => exact ⟨0, [], Nat.zero_le _, rfl, rfl, laid_start hown0 (made23 n), hb0⟩
  case round =>
    obtain ⟨k, rs', hk, rfl, hkl, hf, hb⟩ := hrel
    have HK : Hid (rs'.length = k) := hkl
    clear hkl
    by_cases hlt : k < n
    · obtain ⟨p, hp1, hp2⟩ := (hm.later hb).at cap (k := k) (by rw [← HL.out]; exact hlt)
      rw [← HL.out] at hp1
      have hkr : k < rows.length := by rw [← HR.out]; exact hlt
      have hks : k < rs.length := by rw [← HL.out]; exact hlt
      have hbt := (hm.later hb).each k hks hkr
      have hle' := hrow _ (List.getElem_mem hkr)
      have c2' : wr.cell? ⟨eb, 2, none⟩ = some (.slice ao n cap) := (hb.cell (World.block_lt_of_cell? w _ c2)).trans c2
      generalize hq : rs[k] = q at *
      have hq' := hq
      clear hq
      go_wp2_with (first
        | (at_builtin; refine wpList_append_full rfl _ _ rfl ⟨some ⟨wr.heap.size, 0, none⟩, 6, 6⟩ q rfl rfl rfl (hdr_bts wr ref n k) (hbt.later ((Below.refl _ _).alloc (Nat.le_refl _) _)) (by simp [hdr]; omega) ?_; intro r w1 hr hb1; have hf1 := (hf.later ((Below.refl _ _).alloc (Nat.le_refl _) _)).later hb1; obtain ⟨e1, e2⟩ := hf1.at HK.out.symm hlt)
        | go_in)
      exact ⟨⟨k + 1, rs' ++ [r], by omega, by go_num, by simp [HK.out], hf1.step HK.out.symm hlt (fun hkr' => by simpa using hr), ((hb.alloc hb.size _).trans (hb1.mono (by have := hb.size; simp; omega))).setCell (by simp) _⟩, by simp [intOf]; omega⟩
    · go_wp2
      go_ret
      exact ⟨_, rs', n, by rw [show rs'.length = n from by have := HK.out; omega]; rfl, hf.done (by have := HK.out; omega) (by simp [← HR.out]), hb⟩

/-- WHAT ShortMessages ANSWERS, in plain lists: no Go in sight. -/
def msgs (nil : Bool) (hx : List Int) (rows : List (List Int)) (ref : Int) : List (List Int) :=
  if nil = false then [hx ++ rows.headD []] else if rows.length = 1 then [rows.headD []] else rows.mapIdx fun k p => hdr ref rows.length k ++ p

theorem f9_any (eb : Nat) (ref : Int) (h : Sl) (hx : List Int) (ao : Option Addr) (rs : List Sl) (cap : Nat) (rows : List (List Int)) (w : World) (hm : Mat w ao rs rows) (hh : Bts w h hx)
    (c2 : w.cell? ⟨eb, 2, none⟩ = some (.slice ao rs.length cap)) (c3 : w.cell? ⟨eb, 3, none⟩ = some (.slice h.ao h.n h.cap)) (hpos : h.ao.isNone = false → 0 < rs.length) (hS : Small rs rows hx) :
    Calls Try.prog 9 #[.pointer (some ⟨eb, 0, none⟩), .int .u8 ref] w fun e w' => ∃ (ra : Option Addr) (rs' : List Sl) (rc : Nat), e = .returned (.slice ra rs'.length rc) ∧ Mat w' ra rs' (msgs h.ao.isNone hx rows ref) ∧ Below w.heap.size w w' := by
  obtain ⟨ho, nh, hc⟩ := h
  cases ho with
  | some a => exact f9_header eb ref a nh hc hx ao rs rs.length cap rows w hm rfl hh c2 c3 (hpos rfl) hS
  | none =>
    have h1 : hc = 0 := hh.bare rfl
    have h2 : nh ≤ hc := hh.room
    obtain rfl : nh = 0 := by omega
    subst h1
    by_cases e1 : rs.length = 1
    · have e2 : rows.length = 1 := by rw [← hm.len]; exact e1
      rw [e1] at c2
      have := f9_one eb ref ao rs cap rows w hm e1.symm c2 c3
      simpa [msgs, e2] using this
    · have e2 : ¬ rows.length = 1 := by rw [← hm.len]; exact e1
      have := f9_many eb ref ao rs rs.length cap rows w hm rfl (beq_eq_false_iff_ne.2 (by omega)) c2 c3 hS.1 hS.2.2
      rw [hm.len] at this
      simpa [msgs, e2] using this
end Go.Proofs.Qxb6628445a
