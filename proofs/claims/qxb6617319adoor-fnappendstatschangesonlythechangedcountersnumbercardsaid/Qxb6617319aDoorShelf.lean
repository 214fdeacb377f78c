/-
  Seat b6617319aD: THE SHELF's CONTRACT OF internal AppendUint at base 10, LAID AT THIS DUMP: written by the kit's tools lay-shelf.mjs and lay-plain.mjs, the one laying and the one contract that the laws use kept; the table's name is taken out of the given row.
-/
import Derived.Shelf.LaysM
import Derived.Shelf.Strconv.AppendInt10
import Derived.Test.Qxb6617319aDoorRows
namespace Go.Proofs
open Go.Shelf
/-- The name of the table of powers, as the given row has it. -/
def Qxb6617319aDoor.powName : String := Qxb6617319aDoor.Rows.fnAppendStatsAppendsTheLineOfItsCountersRow.named.headD ""
def Tryd.laysM288_ren : Go.Shelf.Ren := ⟨fun | 288 => 31 | 283 => 32 | 284 => 33 | 285 => 34 | 286 => 35 | 129 => 37 | 317 => 36 | 318 => 38 | 319 => 39 | 320 => 40 | 337 => 41 | 338 => 42 | n => n, fun | 37 => 34 | 53 => 27 | 3 => 3 | 4 => 4 | 9 => 9 | 171 => 62 | 0 => 0 | 173 => 64 | 212 => 68 | 51 => 69 | 5 => 5 | 20 => 20 | 213 => 70 | 46 => 72 | 232 => 75 | 233 => 76 | n => n, fun | 17 => 0 | 18 => 1 | 19 => 2 | n => n⟩
theorem Tryd.laysM288 : Go.Proofs.LaysM.n288 Tryd.prog Tryd.laysM288_ren := {
  mixed := by kernel_rfl
  f129 := Tryd.func37.trans (congrArg some (by kernel_rfl))
  f283 := Tryd.func32.trans (congrArg some (by kernel_rfl))
  f284 := Tryd.func33.trans (congrArg some (by kernel_rfl))
  f285 := Tryd.func34.trans (congrArg some (by kernel_rfl))
  f286 := Tryd.func35.trans (congrArg some (by kernel_rfl))
  f288 := Tryd.func31.trans (congrArg some (by kernel_rfl))
  f317 := Tryd.func36.trans (congrArg some (by kernel_rfl))
  f318 := Tryd.func38.trans (congrArg some (by kernel_rfl))
  f319 := Tryd.func39.trans (congrArg some (by kernel_rfl))
  f320 := Tryd.func40.trans (congrArg some (by kernel_rfl))
  f337 := Tryd.func41.trans (congrArg some (by kernel_rfl))
  f338 := Tryd.func42.trans (congrArg some (by kernel_rfl))
  t0 := Tryd.underlying0
  a0 := Tryd.isAgg0
  z0 := Tryd.sizeOf0
  v0 := Tryd.zeroValue0
  t3 := Tryd.underlying3
  a3 := Tryd.isAgg3
  z3 := Tryd.sizeOf3
  v3 := Tryd.zeroValue3
  t4 := Tryd.underlying4
  a4 := Tryd.isAgg4
  z4 := Tryd.sizeOf4
  v4 := Tryd.zeroValue4
  t5 := Tryd.underlying5
  a5 := Tryd.isAgg5
  z5 := Tryd.sizeOf5
  v5 := Tryd.zeroValue5
  t9 := Tryd.underlying9
  a9 := Tryd.isAgg9
  z9 := Tryd.sizeOf9
  v9 := Tryd.zeroValue9
  t20 := Tryd.underlying20
  a20 := Tryd.isAgg20
  z20 := Tryd.sizeOf20
  v20 := Tryd.zeroValue20
  t37 := Tryd.underlying34
  a37 := Tryd.isAgg34
  z37 := Tryd.sizeOf34
  v37 := Tryd.zeroValue34
  t46 := Tryd.underlying72
  a46 := Tryd.isAgg72
  z46 := Tryd.sizeOf72
  v46 := Tryd.zeroValue72
  t51 := Tryd.underlying69
  a51 := Tryd.isAgg69
  z51 := Tryd.sizeOf69
  v51 := Tryd.zeroValue69
  t53 := Tryd.underlying27
  a53 := Tryd.isAgg27
  z53 := Tryd.sizeOf27
  v53 := Tryd.zeroValue27
  t171 := Tryd.underlying62
  a171 := Tryd.isAgg62
  z171 := Tryd.sizeOf62
  v171 := Tryd.zeroValue62
  t173 := Tryd.underlying64
  a173 := Tryd.isAgg64
  z173 := Tryd.sizeOf64
  v173 := Tryd.zeroValue64
  t212 := Tryd.underlying68
  a212 := Tryd.isAgg68
  z212 := Tryd.sizeOf68
  v212 := Tryd.zeroValue68
  t213 := Tryd.underlying70
  a213 := Tryd.isAgg70
  z213 := Tryd.sizeOf70
  t232 := Tryd.underlying75
  a232 := Tryd.isAgg75
  z232 := Tryd.sizeOf75
  v232 := Tryd.zeroValue75
  t233 := Tryd.underlying76
  a233 := Tryd.isAgg76
  z233 := Tryd.sizeOf76
  v233 := Tryd.zeroValue76
  g17 := by kernel_rfl
  g18 := by kernel_rfl
  g19 := by kernel_rfl
  i0 := by kernel_rfl
  i3 := by kernel_rfl
  i4 := by kernel_rfl
  i5 := by kernel_rfl
  i9 := by kernel_rfl
  i20 := by kernel_rfl
  i37 := by kernel_rfl
  i46 := by kernel_rfl
  i51 := by kernel_rfl
  i53 := by kernel_rfl
  i171 := by kernel_rfl
  i173 := by kernel_rfl
  i212 := by kernel_rfl
  i232 := by kernel_rfl
  i233 := by kernel_rfl
  m17 := by kernel_rfl
  m18 := by kernel_rfl
  m19 := by kernel_rfl }
open Go.RowKit Go.Sort Go.Lib in
/-- AppendUint(dst, i, 10): what comes back owns dst's cells and, behind them, i's decimal numeral. -/
theorem Tryd.internal_strconv_AppendUint_10 (B n u : Nat) (hu64 : u < 18446744073709551616) (sv : Value) (xs : List Value) (w : World) (hown : w.ownsRow B 5 1 sv n xs) (hBw : B ≤ w.heap.size) (hlim : n + 20 ≤ 140737488355328) (htab : Lib.TabIs Tryd.prog w Qxb6617319aDoor.powName .u64 Lib.pow10Tab) :
    Calls Tryd.prog 31 #[sv, .int .u64 u, .int .i64 10] w fun e w' => ∃ v', e = .returned v' ∧ w'.ownsRow B 5 1 v' (n + (Lib.decDigits u).length) (xs ++ Lib.byteCells (Lib.decDigits u)) ∧ Below B w w' ∧ Lib.OthersKept 5 none w w' := Any.internal_strconv_AppendUint_10 Tryd.laysM288 B n u hu64 sv xs w hown hBw hlim htab
end Go.Proofs
