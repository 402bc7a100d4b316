/-
  Seat b6628479aD: internal/strconv.AppendUint at base 10, off the guide's shelf, laid at this seat's dump: the table of numbers as the shelf's own command reads it off the bodies; each body compared by the kernel.
-/
import Derived.Test.Qxb6628479aDoorRows
import Derived.Shelf.LaysM
import Derived.Shelf.Strconv.AppendUint10
namespace Go.Proofs.Qxb6628479aDoor
open Go.Shelf Go.RowKit

def lays_ren : Go.Shelf.Ren := ⟨fun | 288 => 11 | 283 => 12 | 284 => 13 | 285 => 14 | 286 => 15 | 129 => 17 | 317 => 16 | 318 => 18 | 319 => 19 | 320 => 20 | 337 => 21 | 338 => 22 | n => n, fun | 37 => 23 | 53 => 22 | 3 => 3 | 4 => 4 | 9 => 9 | 171 => 39 | 0 => 0 | 173 => 42 | 212 => 46 | 51 => 47 | 5 => 5 | 20 => 20 | 213 => 48 | 46 => 50 | 232 => 53 | 233 => 54 | n => n, fun | 17 => 0 | 18 => 1 | 19 => 2 | n => n⟩

theorem lays : Go.Proofs.LaysM.n288 Tryd.prog lays_ren :=
  { mixed := by kernel_rfl,
    f129 := Tryd.func17.trans (congrArg some (by kernel_rfl)),
    f283 := Tryd.func12.trans (congrArg some (by kernel_rfl)),
    f284 := Tryd.func13.trans (congrArg some (by kernel_rfl)),
    f285 := Tryd.func14.trans (congrArg some (by kernel_rfl)),
    f286 := Tryd.func15.trans (congrArg some (by kernel_rfl)),
    f288 := Tryd.func11.trans (congrArg some (by kernel_rfl)),
    f317 := Tryd.func16.trans (congrArg some (by kernel_rfl)),
    f318 := Tryd.func18.trans (congrArg some (by kernel_rfl)),
    f319 := Tryd.func19.trans (congrArg some (by kernel_rfl)),
    f320 := Tryd.func20.trans (congrArg some (by kernel_rfl)),
    f337 := Tryd.func21.trans (congrArg some (by kernel_rfl)),
    f338 := Tryd.func22.trans (congrArg some (by kernel_rfl)),
    t0 := Tryd.underlying0,
    a0 := Tryd.isAgg0,
    z0 := Tryd.sizeOf0,
    v0 := Tryd.zeroValue0,
    t3 := Tryd.underlying3,
    a3 := Tryd.isAgg3,
    z3 := Tryd.sizeOf3,
    v3 := Tryd.zeroValue3,
    t4 := Tryd.underlying4,
    a4 := Tryd.isAgg4,
    z4 := Tryd.sizeOf4,
    v4 := Tryd.zeroValue4,
    t5 := Tryd.underlying5,
    a5 := Tryd.isAgg5,
    z5 := Tryd.sizeOf5,
    v5 := Tryd.zeroValue5,
    t9 := Tryd.underlying9,
    a9 := Tryd.isAgg9,
    z9 := Tryd.sizeOf9,
    v9 := Tryd.zeroValue9,
    t20 := Tryd.underlying20,
    a20 := Tryd.isAgg20,
    z20 := Tryd.sizeOf20,
    v20 := Tryd.zeroValue20,
    t37 := Tryd.underlying23,
    a37 := Tryd.isAgg23,
    z37 := Tryd.sizeOf23,
    v37 := Tryd.zeroValue23,
    t46 := Tryd.underlying50,
    a46 := Tryd.isAgg50,
    z46 := Tryd.sizeOf50,
    v46 := Tryd.zeroValue50,
    t51 := Tryd.underlying47,
    a51 := Tryd.isAgg47,
    z51 := Tryd.sizeOf47,
    v51 := Tryd.zeroValue47,
    t53 := Tryd.underlying22,
    a53 := Tryd.isAgg22,
    z53 := Tryd.sizeOf22,
    v53 := Tryd.zeroValue22,
    t171 := Tryd.underlying39,
    a171 := Tryd.isAgg39,
    z171 := Tryd.sizeOf39,
    v171 := Tryd.zeroValue39,
    t173 := Tryd.underlying42,
    a173 := Tryd.isAgg42,
    z173 := Tryd.sizeOf42,
    v173 := Tryd.zeroValue42,
    t212 := Tryd.underlying46,
    a212 := Tryd.isAgg46,
    z212 := Tryd.sizeOf46,
    v212 := Tryd.zeroValue46,
    t213 := Tryd.underlying48,
    a213 := Tryd.isAgg48,
    z213 := Tryd.sizeOf48,
    t232 := Tryd.underlying53,
    a232 := Tryd.isAgg53,
    z232 := Tryd.sizeOf53,
    v232 := Tryd.zeroValue53,
    t233 := Tryd.underlying54,
    a233 := Tryd.isAgg54,
    z233 := Tryd.sizeOf54,
    v233 := Tryd.zeroValue54,
    g17 := by kernel_rfl,
    g18 := by kernel_rfl,
    g19 := by kernel_rfl,
    i0 := by kernel_rfl,
    i3 := by kernel_rfl,
    i4 := by kernel_rfl,
    i5 := by kernel_rfl,
    i9 := by kernel_rfl,
    i20 := by kernel_rfl,
    i37 := by kernel_rfl,
    i46 := by kernel_rfl,
    i51 := by kernel_rfl,
    i53 := by kernel_rfl,
    i171 := by kernel_rfl,
    i173 := by kernel_rfl,
    i212 := by kernel_rfl,
    i232 := by kernel_rfl,
    i233 := by kernel_rfl,
    m17 := by kernel_rfl,
    m18 := by kernel_rfl,
    m19 := by kernel_rfl }

/-- internal/strconv.AppendUint(nil, u, 10): a fresh slice that owns u's decimal digits; below the heap's old end nothing turns. -/
theorem appendUint_any (u : Nat) (hu64 : u < 18446744073709551616) (w : World) (htab : Lib.TabIs Tryd.prog w "internal/strconv.uint64pow10" .u64 Lib.pow10Tab) :
    Calls Tryd.prog 11 #[.slice none 0 0, .int .u64 (u : Int), .int .i64 10] w fun e w' => ∃ v', e = .returned v' ∧ w'.ownsRow w.heap.size 5 1 v' (Lib.decDigits u).length (Lib.byteCells (Lib.decDigits u)) ∧ Below w.heap.size w w' := by
  by_cases hu : u < 100
  · refine (Any.internal_strconv_AppendUint_10_small lays w.heap.size 0 u hu (.slice none 0 0) [] w (World.ownsRow_nil _ _ _ _) (Nat.le_refl _) (by omega)).mono ?_
    rintro e w' ⟨v', rfl, h1, h2, _⟩
    have h : w'.ownsRow w.heap.size 5 1 v' (0 + (Lib.decDigits u).length) ([] ++ Lib.byteCells (Lib.decDigits u)) := h1
    exact ⟨v', rfl, by simpa using h, h2⟩
  · refine (Any.internal_strconv_AppendUint_10_big lays w.heap.size 0 u (by omega) hu64 (.slice none 0 0) [] w (World.ownsRow_nil _ _ _ _) (Nat.le_refl _) (by omega) htab).mono ?_
    rintro e w' ⟨v', rfl, h1, h2, _⟩
    have h : w'.ownsRow w.heap.size 5 1 v' (0 + (Lib.decDigits u).length) ([] ++ Lib.byteCells (Lib.decDigits u)) := h1
    exact ⟨v', rfl, by simpa using h, h2⟩

set_option maxRecDepth 100000 in
set_option maxHeartbeats 400000 in
/-- strconv.AppendUint hands it on. -/
theorem f9_any (u : Nat) (hu64 : u < 18446744073709551616) (w : World) (htab : Lib.TabIs Tryd.prog w "internal/strconv.uint64pow10" .u64 Lib.pow10Tab) :
    Calls Tryd.prog 9 #[.slice none 0 0, .int .u64 (u : Int), .int .i64 10] w fun e w' => ∃ v', e = .returned v' ∧ w'.ownsRow w.heap.size 5 1 v' (Lib.decDigits u).length (Lib.byteCells (Lib.decDigits u)) ∧ Below w.heap.size w w' := by
  go_enter Tryd.func9, Tryd.ntmps9
  go_wp2_with fail
  refine (appendUint_any u hu64 w htab).mono ?_
  rintro e w' ⟨v', rfl, h1, h2⟩
  go_wp2
  go_ret
  exact ⟨v', rfl, h1, h2⟩
end Go.Proofs.Qxb6628479aDoor
