/-
  DERIVED: the shelf's contracts of strconv's AppendUint at this dump, in plain words (laid by the kit's lay-shelf and lay-plain).
-/
import Derived.Shelf.LaysM
import Derived.Shelf.Strconv.AppendUint10
import Derived.Test.YbulkbqwiFmtRows
namespace Go.Proofs
/-- the name of the table of powers of ten, as the rows list it. -/
def Ybaf.nmPow : String := (YbulkbqwiFmt.Rows.lawS3375BRoundTripRow.laid.getD 2 (YbulkbqwiFmt.Rows.lawS3375BRoundTripRow.func, .nil)).1
open Go.Shelf
def Ybaf.laysM288_ren : Go.Shelf.Ren := ⟨fun | 288 => 16 | 283 => 22 | 284 => 23 | 285 => 24 | 286 => 25 | 129 => 30 | 317 => 29 | 318 => 31 | 319 => 32 | 320 => 33 | 337 => 39 | 338 => 40 | n => n, fun | 37 => 22 | 53 => 25 | 3 => 3 | 4 => 4 | 9 => 9 | 171 => 45 | 0 => 0 | 173 => 48 | 212 => 57 | 51 => 58 | 5 => 5 | 20 => 20 | 213 => 59 | 46 => 61 | 232 => 69 | 233 => 70 | n => n, fun | 17 => 0 | 18 => 1 | 19 => 2 | n => n⟩
theorem Ybaf.laysM288 : Go.Proofs.LaysM.n288 Ybaf.prog Ybaf.laysM288_ren := {
  mixed := by kernel_rfl
  f129 := Ybaf.func30.trans (congrArg some (by kernel_rfl))
  f283 := Ybaf.func22.trans (congrArg some (by kernel_rfl))
  f284 := Ybaf.func23.trans (congrArg some (by kernel_rfl))
  f285 := Ybaf.func24.trans (congrArg some (by kernel_rfl))
  f286 := Ybaf.func25.trans (congrArg some (by kernel_rfl))
  f288 := Ybaf.func16.trans (congrArg some (by kernel_rfl))
  f317 := Ybaf.func29.trans (congrArg some (by kernel_rfl))
  f318 := Ybaf.func31.trans (congrArg some (by kernel_rfl))
  f319 := Ybaf.func32.trans (congrArg some (by kernel_rfl))
  f320 := Ybaf.func33.trans (congrArg some (by kernel_rfl))
  f337 := Ybaf.func39.trans (congrArg some (by kernel_rfl))
  f338 := Ybaf.func40.trans (congrArg some (by kernel_rfl))
  t0 := Ybaf.underlying0
  a0 := Ybaf.isAgg0
  z0 := Ybaf.sizeOf0
  v0 := Ybaf.zeroValue0
  t3 := Ybaf.underlying3
  a3 := Ybaf.isAgg3
  z3 := Ybaf.sizeOf3
  v3 := Ybaf.zeroValue3
  t4 := Ybaf.underlying4
  a4 := Ybaf.isAgg4
  z4 := Ybaf.sizeOf4
  v4 := Ybaf.zeroValue4
  t5 := Ybaf.underlying5
  a5 := Ybaf.isAgg5
  z5 := Ybaf.sizeOf5
  v5 := Ybaf.zeroValue5
  t9 := Ybaf.underlying9
  a9 := Ybaf.isAgg9
  z9 := Ybaf.sizeOf9
  v9 := Ybaf.zeroValue9
  t20 := Ybaf.underlying20
  a20 := Ybaf.isAgg20
  z20 := Ybaf.sizeOf20
  v20 := Ybaf.zeroValue20
  t37 := Ybaf.underlying22
  a37 := Ybaf.isAgg22
  z37 := Ybaf.sizeOf22
  v37 := Ybaf.zeroValue22
  t46 := Ybaf.underlying61
  a46 := Ybaf.isAgg61
  z46 := Ybaf.sizeOf61
  v46 := Ybaf.zeroValue61
  t51 := Ybaf.underlying58
  a51 := Ybaf.isAgg58
  z51 := Ybaf.sizeOf58
  v51 := Ybaf.zeroValue58
  t53 := Ybaf.underlying25
  a53 := Ybaf.isAgg25
  z53 := Ybaf.sizeOf25
  v53 := Ybaf.zeroValue25
  t171 := Ybaf.underlying45
  a171 := Ybaf.isAgg45
  z171 := Ybaf.sizeOf45
  v171 := Ybaf.zeroValue45
  t173 := Ybaf.underlying48
  a173 := Ybaf.isAgg48
  z173 := Ybaf.sizeOf48
  v173 := Ybaf.zeroValue48
  t212 := Ybaf.underlying57
  a212 := Ybaf.isAgg57
  z212 := Ybaf.sizeOf57
  v212 := Ybaf.zeroValue57
  t213 := Ybaf.underlying59
  a213 := Ybaf.isAgg59
  z213 := Ybaf.sizeOf59
  t232 := Ybaf.underlying69
  a232 := Ybaf.isAgg69
  z232 := Ybaf.sizeOf69
  v232 := Ybaf.zeroValue69
  t233 := Ybaf.underlying70
  a233 := Ybaf.isAgg70
  z233 := Ybaf.sizeOf70
  v233 := Ybaf.zeroValue70
  g17 := by kernel_rfl
  g18 := by kernel_rfl
  g19 := by kernel_rfl
  i0 := by kernel_rfl
  i3 := by kernel_rfl
  i4 := by kernel_rfl
  i5 := by kernel_rfl
  i9 := by kernel_rfl
  i20 := by kernel_rfl
  i37 := by kernel_rfl
  i46 := by kernel_rfl
  i51 := by kernel_rfl
  i53 := by kernel_rfl
  i171 := by kernel_rfl
  i173 := by kernel_rfl
  i212 := by kernel_rfl
  i232 := by kernel_rfl
  i233 := by kernel_rfl
  m17 := by kernel_rfl
  m18 := by kernel_rfl
  m19 := by kernel_rfl }
open Go.RowKit Go.Sort Go.Lib in
/-- internal/strconv.AppendUint(dst, i, 10), i BELOW 100: WHAT COMES BACK OWNS dst's CELLS AND, BEHIND THEM, i's DECIMAL NUMERAL. No table is read. Below the call's own blocks nothing has turned. (LAID: no walk: one application.) -/
theorem Ybaf.internal_strconv_AppendUint_10_small (B n u : Nat) (hu : u < 100) (sv : Value) (xs : List Value) (w : World) (hown : w.ownsRow B 5 1 sv n xs) (hBw : B ≤ w.heap.size) (hlim : n + 20 ≤ 140737488355328) :
    Calls Ybaf.prog 16 #[sv, .int .u64 u, .int .i64 10] w fun e w' => ∃ v', e = .returned v' ∧ w'.ownsRow B 5 1 v' (n + (Lib.decDigits u).length) (xs ++ Lib.byteCells (Lib.decDigits u)) ∧ Below B w w' ∧ Lib.OthersKept 5 none w w' := Any.internal_strconv_AppendUint_10_small Ybaf.laysM288 B n u hu sv xs w hown hBw hlim
open Go.RowKit Go.Sort Go.Lib in
/-- internal/strconv.AppendUint(dst, i, 10), i FROM 100 ON: likewise; the digits are laid in an array of the call's own and appended. (LAID: no walk: one application.) -/
theorem Ybaf.internal_strconv_AppendUint_10_big (B n u : Nat) (hu : 100 ≤ u) (hu64 : u < 18446744073709551616) (sv : Value) (xs : List Value) (w : World) (hown : w.ownsRow B 5 1 sv n xs) (hBw : B ≤ w.heap.size) (hlim : n + 20 ≤ 140737488355328) (htab : Lib.TabIs Ybaf.prog w Ybaf.nmPow .u64 Lib.pow10Tab) :
    Calls Ybaf.prog 16 #[sv, .int .u64 u, .int .i64 10] w fun e w' => ∃ v', e = .returned v' ∧ w'.ownsRow B 5 1 v' (n + (Lib.decDigits u).length) (xs ++ Lib.byteCells (Lib.decDigits u)) ∧ Below B w w' ∧ Lib.OthersKept 5 none w w' := Any.internal_strconv_AppendUint_10_big Ybaf.laysM288 B n u hu hu64 sv xs w hown hBw hlim htab
end Go.Proofs
