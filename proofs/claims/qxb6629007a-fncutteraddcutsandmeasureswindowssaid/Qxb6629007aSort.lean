/-
  Seat b6629007a: slices.Sort[[]int,int], off the guide's shelf, laid at this seat's dump (the table of numbers as the shelf's own command reads it off the bodies; each body compared by the kernel); and at a nil slice, walked.
-/
import Derived.Test.Qxb6629007aTime
import Derived.Shelf.Sort.Plain
import Derived.Sort.OwnSortedInts
namespace Go.Proofs.Qxb6629007a
open Go.Shelf Go.RowKit

def lays_ren : Go.Shelf.Ren := ⟨fun | 189 => 39 | 125 => 43 | 257 => 42 | 128 => 53 | 129 => 54 | 294 => 44 | 295 => 45 | 296 => 46 | 297 => 47 | 298 => 48 | 299 => 49 | 216 => 50 | 300 => 51 | 301 => 52 | 328 => 55 | 329 => 56 | 330 => 57 | 331 => 58 | 332 => 59 | 215 => 60 | 343 => 61 | n => n, fun | 28 => 27 | 3 => 3 | 46 => 79 | 0 => 0 | 51 => 68 | 53 => 30 | 4 => 4 | 183 => 90 | 182 => 89 | 131 => 95 | 5 => 5 | 9 => 9 | 218 => 99 | 222 => 103 | 228 => 106 | 229 => 40 | n => n, fun | n => n⟩

theorem lays : Go.Proofs.Lays.n189 Try.prog lays_ren :=
  { mixed := by kernel_rfl,
    f125 := Try.func43.trans (congrArg some (by kernel_rfl)),
    f128 := Try.func53.trans (congrArg some (by kernel_rfl)),
    f129 := Try.func54.trans (congrArg some (by kernel_rfl)),
    f189 := Try.func39.trans (congrArg some (by kernel_rfl)),
    f215 := Try.func60.trans (congrArg some (by kernel_rfl)),
    f216 := Try.func50.trans (congrArg some (by kernel_rfl)),
    f257 := Try.func42.trans (congrArg some (by kernel_rfl)),
    f294 := Try.func44.trans (congrArg some (by kernel_rfl)),
    f295 := Try.func45.trans (congrArg some (by kernel_rfl)),
    f296 := Try.func46.trans (congrArg some (by kernel_rfl)),
    f297 := Try.func47.trans (congrArg some (by kernel_rfl)),
    f298 := Try.func48.trans (congrArg some (by kernel_rfl)),
    f299 := Try.func49.trans (congrArg some (by kernel_rfl)),
    f300 := Try.func51.trans (congrArg some (by kernel_rfl)),
    f301 := Try.func52.trans (congrArg some (by kernel_rfl)),
    f328 := Try.func55.trans (congrArg some (by kernel_rfl)),
    f329 := Try.func56.trans (congrArg some (by kernel_rfl)),
    f330 := Try.func57.trans (congrArg some (by kernel_rfl)),
    f331 := Try.func58.trans (congrArg some (by kernel_rfl)),
    f332 := Try.func59.trans (congrArg some (by kernel_rfl)),
    f343 := Try.func61.trans (congrArg some (by kernel_rfl)),
    t0 := Try.underlying0,
    a0 := Try.isAgg0,
    z0 := Try.sizeOf0,
    v0 := Try.zeroValue0,
    t3 := Try.underlying3,
    a3 := Try.isAgg3,
    z3 := Try.sizeOf3,
    v3 := Try.zeroValue3,
    t4 := Try.underlying4,
    a4 := Try.isAgg4,
    z4 := Try.sizeOf4,
    v4 := Try.zeroValue4,
    t5 := Try.underlying5,
    a5 := Try.isAgg5,
    z5 := Try.sizeOf5,
    v5 := Try.zeroValue5,
    t9 := Try.underlying9,
    a9 := Try.isAgg9,
    z9 := Try.sizeOf9,
    v9 := Try.zeroValue9,
    t28 := Try.underlying27,
    a28 := Try.isAgg27,
    z28 := Try.sizeOf27,
    v28 := Try.zeroValue27,
    t46 := Try.underlying79,
    a46 := Try.isAgg79,
    z46 := Try.sizeOf79,
    v46 := Try.zeroValue79,
    t51 := Try.underlying68,
    a51 := Try.isAgg68,
    z51 := Try.sizeOf68,
    v51 := Try.zeroValue68,
    t53 := Try.underlying30,
    a53 := Try.isAgg30,
    z53 := Try.sizeOf30,
    v53 := Try.zeroValue30,
    t131 := Try.underlying95,
    a131 := Try.isAgg95,
    z131 := Try.sizeOf95,
    v131 := Try.zeroValue95,
    t182 := Try.underlying89,
    a182 := Try.isAgg89,
    z182 := Try.sizeOf89,
    v182 := Try.zeroValue89,
    t183 := Try.underlying90,
    a183 := Try.isAgg90,
    z183 := Try.sizeOf90,
    v183 := Try.zeroValue90,
    t218 := Try.underlying99,
    a218 := Try.isAgg99,
    z218 := Try.sizeOf99,
    v218 := Try.zeroValue99,
    t222 := Try.underlying103,
    a222 := Try.isAgg103,
    z222 := Try.sizeOf103,
    v222 := Try.zeroValue103,
    t228 := Try.underlying106,
    a228 := Try.isAgg106,
    z228 := Try.sizeOf106,
    v228 := Try.zeroValue106,
    t229 := Try.underlying40,
    a229 := Try.isAgg40,
    z229 := Try.sizeOf40,
    v229 := Try.zeroValue40 }


set_option maxRecDepth 100000 in
theorem f54_zero (w : World) : Calls Try.prog 54 #[.int .u64 0] w fun e w' => e = .returned (.int .i64 0) ∧ w' = w := by
  have h8 : Lib.len8 0 = 0 := by decide +kernel
  go_enter Try.func54, Try.ntmps54
  go_wp2
  go_ret
  exact ⟨rfl, rfl⟩

set_option maxRecDepth 100000 in
theorem f43_zero (w : World) : Calls Try.prog 43 #[.int .u64 0] w fun e w' => e = .returned (.int .i64 0) ∧ w' = w := by
  go_enter Try.func43, Try.ntmps43
  go_wp2_with (first | (go_at_call 54; refine (f54_zero _).mono ?_; rintro e w' ⟨rfl, rfl⟩))
  go_ret
  exact ⟨rfl, rfl⟩

theorem f44_nil (p : Option Addr) (cap : Nat) (w : World) :
    Calls Try.prog 44 #[.slice p 0 cap, .int .i64 0, .int .i64 0] w fun e w' => e = .returned (.tuple #[]) ∧ w' = w := by
  go_enter Try.func44, Try.ntmps44
  go_wp2
  refine wp_loop_rounds 1 ?_
  rw [rounds_succ]
  go_wp2
  go_end0
  exact ⟨rfl, rfl⟩

set_option maxRecDepth 100000 in
theorem f42_nil (p : Option Addr) (cap : Nat) (w : World) :
    Calls Try.prog 42 #[.slice p 0 cap, .int .i64 0, .int .i64 0, .int .i64 0] w fun e w' => e = .returned (.tuple #[]) ∧ w' = w := by
  go_enter Try.func42, Try.ntmps42
  go_wp2
  refine wp_loop_rounds 1 ?_
  rw [rounds_succ]
  go_wp2_with (first | (go_at_call 44; refine (f44_nil p cap _).mono ?_; rintro e w' ⟨rfl, rfl⟩))
  refine bodyPost_ret (results_none rfl _ _ _) rfl ?_
  exact ⟨rfl, rfl⟩

set_option maxRecDepth 100000 in
theorem f39_nil (p : Option Addr) (cap : Nat) (w : World) :
    Calls Try.prog 39 #[.slice p 0 cap] w fun e w' => e = .returned (.tuple #[]) ∧ w' = w := by
  go_enter Try.func39, Try.ntmps39
  go_wp2_with (first
    | (go_at_call 43; refine (f43_zero _).mono ?_; rintro e w' ⟨rfl, rfl⟩)
    | (go_at_call 42; refine (f42_nil p cap _).mono ?_; rintro e w' ⟨rfl, rfl⟩))
  go_end0
  exact ⟨rfl, rfl⟩

/-- The list in ascending order. -/
def sortZ (zs : List Int) : List Int := zs.mergeSort fun x y => decide (x ≤ y)
theorem sortZ_length (zs : List Int) : (sortZ zs).length = zs.length := by simp [sortZ]

theorem grownBy_none {w : World} : w.grownBy w none := ⟨rfl, rfl, rfl, Nat.le_refl _, fun _ _ _ => rfl⟩

/-- slices.Sort of a row that the call owns: the row holds the sorted list; nothing else turns. -/
theorem f39_any (base : Nat) (v : Value) (zs : List Int) (w : World) (hown : w.ownsRow base 3 1 v zs.length (zs.map (Value.int .i64))) (hl : zs.length ≤ 4096) :
    Calls Try.prog 39 #[v] w fun e w' => e = .returned (.tuple #[]) ∧ w'.ownsRow base 3 1 v zs.length ((sortZ zs).map (Value.int .i64)) ∧ w.grownBy w' v.ownBlock := by
  rcases hown.2 with ⟨rfl, h0⟩ | ⟨g, cap, cur, rfl, hbase, hb, h1, h2, h3, h4⟩
  · refine (f39_nil none 0 w).mono ?_
    rintro e w' ⟨rfl, rfl⟩
    have : zs = [] := List.length_eq_zero_iff.1 h0
    subst this
    exact ⟨rfl, by simpa [sortZ] using World.ownsRow_nil w' base 3 1, grownBy_none⟩
  · rw [Nat.mul_one] at h4
    refine (Any.slices_Sort_int lays g 0 cap zs w (holds_of_blockI hb h4) (Array.getElem?_eq_some_iff.1 hb).1 (by omega)).mono ?_
    rintro e w' ⟨rfl, n, os, rfl⟩
    exact ⟨rfl, ownsRow_sortedI (ts := sortZ zs) (sortZ_length zs) hbase hb h1 h2 h3, grownBy_sortedI _⟩
end Go.Proofs.Qxb6629007a
