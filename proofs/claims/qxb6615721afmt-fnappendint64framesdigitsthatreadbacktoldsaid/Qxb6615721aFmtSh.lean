/-
  DERIVED: THE SHELF's CONTRACTS AT THIS DUMP, IN PLAIN WORDS (tools/lay-plain.mjs out of 'Qxb6615721aFmtShelf.lean', which tools/lay-shelf.mjs wrote): THE SAME DECLARATIONS UNDER THE SAME NAMES: 'import', 'namespace', 'open', 'def', 'theorem' AND NOTHING ELSE: no command of the shelf's: FOR A HAND-IN. Each laying: the table of numbers ('.._ren') and one theorem, a field a fact of the dump's own or the kernel's comparison; each contract: ONE APPLICATION.
-/
import Derived.Shelf.Strconv.AppendIntPublic10
import Derived.Test.Qxb6615721aFmtProg
import Derived.Test.Qxb6615721aFmtNm
namespace Go.Proofs
open Go.Shelf
def Tryf.lays176_ren : Go.Shelf.Ren := ⟨fun | 176 => 34 | 249 => 39 | 288 => 43 | 283 => 55 | 284 => 56 | 285 => 57 | 286 => 58 | 129 => 54 | 317 => 65 | 318 => 66 | 319 => 67 | 320 => 68 | 337 => 70 | 338 => 71 | n => n, fun | 37 => 22 | 2 => 2 | 3 => 3 | 53 => 29 | 4 => 4 | 9 => 9 | 171 => 86 | 0 => 0 | 173 => 88 | 212 => 98 | 51 => 83 | 5 => 5 | 20 => 20 | 213 => 99 | 46 => 71 | 232 => 104 | 233 => 105 | n => n, fun | 17 => 0 | 18 => 1 | 19 => 2 | n => n⟩
theorem Tryf.lays176 : Go.Proofs.LaysM.n176 Tryf.prog Tryf.lays176_ren := {
  mixed := by kernel_rfl
  f129 := Tryf.func54.trans (congrArg some (by kernel_rfl))
  f176 := Tryf.func34.trans (congrArg some (by kernel_rfl))
  f249 := Tryf.func39.trans (congrArg some (by kernel_rfl))
  f283 := Tryf.func55.trans (congrArg some (by kernel_rfl))
  f284 := Tryf.func56.trans (congrArg some (by kernel_rfl))
  f285 := Tryf.func57.trans (congrArg some (by kernel_rfl))
  f286 := Tryf.func58.trans (congrArg some (by kernel_rfl))
  f288 := Tryf.func43.trans (congrArg some (by kernel_rfl))
  f317 := Tryf.func65.trans (congrArg some (by kernel_rfl))
  f318 := Tryf.func66.trans (congrArg some (by kernel_rfl))
  f319 := Tryf.func67.trans (congrArg some (by kernel_rfl))
  f320 := Tryf.func68.trans (congrArg some (by kernel_rfl))
  f337 := Tryf.func70.trans (congrArg some (by kernel_rfl))
  f338 := Tryf.func71.trans (congrArg some (by kernel_rfl))
  t0 := Tryf.underlying0
  a0 := Tryf.isAgg0
  z0 := Tryf.sizeOf0
  v0 := Tryf.zeroValue0
  t2 := Tryf.underlying2
  a2 := Tryf.isAgg2
  z2 := Tryf.sizeOf2
  v2 := Tryf.zeroValue2
  t3 := Tryf.underlying3
  a3 := Tryf.isAgg3
  z3 := Tryf.sizeOf3
  v3 := Tryf.zeroValue3
  t4 := Tryf.underlying4
  a4 := Tryf.isAgg4
  z4 := Tryf.sizeOf4
  v4 := Tryf.zeroValue4
  t5 := Tryf.underlying5
  a5 := Tryf.isAgg5
  z5 := Tryf.sizeOf5
  v5 := Tryf.zeroValue5
  t9 := Tryf.underlying9
  a9 := Tryf.isAgg9
  z9 := Tryf.sizeOf9
  v9 := Tryf.zeroValue9
  t20 := Tryf.underlying20
  a20 := Tryf.isAgg20
  z20 := Tryf.sizeOf20
  v20 := Tryf.zeroValue20
  t37 := Tryf.underlying22
  a37 := Tryf.isAgg22
  z37 := Tryf.sizeOf22
  v37 := Tryf.zeroValue22
  t46 := Tryf.underlying71
  a46 := Tryf.isAgg71
  z46 := Tryf.sizeOf71
  v46 := Tryf.zeroValue71
  t51 := Tryf.underlying83
  a51 := Tryf.isAgg83
  z51 := Tryf.sizeOf83
  v51 := Tryf.zeroValue83
  t53 := Tryf.underlying29
  a53 := Tryf.isAgg29
  z53 := Tryf.sizeOf29
  v53 := Tryf.zeroValue29
  t171 := Tryf.underlying86
  a171 := Tryf.isAgg86
  z171 := Tryf.sizeOf86
  v171 := Tryf.zeroValue86
  t173 := Tryf.underlying88
  a173 := Tryf.isAgg88
  z173 := Tryf.sizeOf88
  v173 := Tryf.zeroValue88
  t212 := Tryf.underlying98
  a212 := Tryf.isAgg98
  z212 := Tryf.sizeOf98
  v212 := Tryf.zeroValue98
  t213 := Tryf.underlying99
  a213 := Tryf.isAgg99
  z213 := Tryf.sizeOf99
  t232 := Tryf.underlying104
  a232 := Tryf.isAgg104
  z232 := Tryf.sizeOf104
  v232 := Tryf.zeroValue104
  t233 := Tryf.underlying105
  a233 := Tryf.isAgg105
  z233 := Tryf.sizeOf105
  v233 := Tryf.zeroValue105
  g17 := by kernel_rfl
  g18 := by kernel_rfl
  g19 := by kernel_rfl
  i0 := by kernel_rfl
  i2 := by kernel_rfl
  i3 := by kernel_rfl
  i4 := by kernel_rfl
  i5 := by kernel_rfl
  i9 := by kernel_rfl
  i20 := by kernel_rfl
  i37 := by kernel_rfl
  i46 := by kernel_rfl
  i51 := by kernel_rfl
  i53 := by kernel_rfl
  i171 := by kernel_rfl
  i173 := by kernel_rfl
  i212 := by kernel_rfl
  i232 := by kernel_rfl
  i233 := by kernel_rfl
  m17 := by kernel_rfl
  m18 := by kernel_rfl
  m19 := by kernel_rfl }
theorem Tryf.strconv_AppendInt_10 (B n : Nat) (i : Int) (h0 : -9223372036854775808 ≤ i) (h1 : i ≤ 9223372036854775807) (sv : Value) (xs : List Value) (w : World) (hown : w.ownsRow B 5 1 sv n xs) (hBw : B ≤ w.heap.size) (hlim : n + 21 ≤ 140737488355328)
    (htab : Lib.TabBelow Tryf.prog B w Qxb6615721aFmt.powName .u64 Lib.pow10Tab) :
    Calls Tryf.prog 34 #[sv, .int .i64 i, .int .i64 10] w fun e w' => ∃ v', e = .returned v' ∧ w'.ownsRow B 5 1 v' (n + (Lib.itoa i).length) (xs ++ Lib.byteCells (Lib.itoa i)) ∧ RowKit.Below B w w' ∧ Lib.OthersKept 5 none w w' := Any.strconv_AppendInt_10 Tryf.lays176 B n i h0 h1 sv xs w hown hBw hlim htab
end Go.Proofs
