/- The library's contracts at this program, laid by the kit's own two programs: strconv.Itoa and its like. -/
import Derived.Shelf.Strings.Builder1
import Derived.Shelf.Small.Utf8
import Derived.Shelf.Strconv.Itoa0
import Derived.Shelf.Strconv.Itoa1
import Derived.Shelf.LaysM
import Derived.Shelf.Strconv.Itoa2
import Derived.Shelf.Strconv.Itoa3
import Derived.Test.YtjlnnedofnefkaaDoorProg
namespace Go.Proofs
open Go.Shelf
def Tryd.laysM171_ren : Go.Shelf.Ren := ⟨fun | 171 => 27 | 243 => 38 | 246 => 54 | 283 => 61 | 284 => 62 | 285 => 63 | 286 => 64 | 129 => 70 | 317 => 69 | 318 => 71 | 319 => 72 | 320 => 73 | 337 => 77 | 338 => 78 | n => n, fun | 3 => 3 | 9 => 9 | 2 => 2 | 4 => 4 | 171 => 94 | 0 => 0 | 53 => 40 | 37 => 29 | 5 => 5 | 173 => 97 | 212 => 103 | 51 => 104 | 20 => 20 | 213 => 105 | 46 => 88 | 232 => 115 | 233 => 116 | n => n, fun | 17 => 3 | 18 => 4 | 19 => 5 | n => n⟩
theorem Tryd.laysM171 : Go.Proofs.LaysM.n171 Tryd.prog Tryd.laysM171_ren := {
  mixed := by kernel_rfl
  f129 := Tryd.func70.trans (congrArg some (by kernel_rfl))
  f171 := Tryd.func27.trans (congrArg some (by kernel_rfl))
  f243 := Tryd.func38.trans (congrArg some (by kernel_rfl))
  f246 := Tryd.func54.trans (congrArg some (by kernel_rfl))
  f283 := Tryd.func61.trans (congrArg some (by kernel_rfl))
  f284 := Tryd.func62.trans (congrArg some (by kernel_rfl))
  f285 := Tryd.func63.trans (congrArg some (by kernel_rfl))
  f286 := Tryd.func64.trans (congrArg some (by kernel_rfl))
  f317 := Tryd.func69.trans (congrArg some (by kernel_rfl))
  f318 := Tryd.func71.trans (congrArg some (by kernel_rfl))
  f319 := Tryd.func72.trans (congrArg some (by kernel_rfl))
  f320 := Tryd.func73.trans (congrArg some (by kernel_rfl))
  f337 := Tryd.func77.trans (congrArg some (by kernel_rfl))
  f338 := Tryd.func78.trans (congrArg some (by kernel_rfl))
  t0 := Tryd.underlying0
  a0 := Tryd.isAgg0
  z0 := Tryd.sizeOf0
  v0 := Tryd.zeroValue0
  t2 := Tryd.underlying2
  a2 := Tryd.isAgg2
  z2 := Tryd.sizeOf2
  v2 := Tryd.zeroValue2
  t3 := Tryd.underlying3
  a3 := Tryd.isAgg3
  z3 := Tryd.sizeOf3
  v3 := Tryd.zeroValue3
  t4 := Tryd.underlying4
  a4 := Tryd.isAgg4
  z4 := Tryd.sizeOf4
  v4 := Tryd.zeroValue4
  t5 := Tryd.underlying5
  a5 := Tryd.isAgg5
  z5 := Tryd.sizeOf5
  v5 := Tryd.zeroValue5
  t9 := Tryd.underlying9
  a9 := Tryd.isAgg9
  z9 := Tryd.sizeOf9
  v9 := Tryd.zeroValue9
  t20 := Tryd.underlying20
  a20 := Tryd.isAgg20
  z20 := Tryd.sizeOf20
  v20 := Tryd.zeroValue20
  t37 := Tryd.underlying29
  a37 := Tryd.isAgg29
  z37 := Tryd.sizeOf29
  v37 := Tryd.zeroValue29
  t46 := Tryd.underlying88
  a46 := Tryd.isAgg88
  z46 := Tryd.sizeOf88
  v46 := Tryd.zeroValue88
  t51 := Tryd.underlying104
  a51 := Tryd.isAgg104
  z51 := Tryd.sizeOf104
  v51 := Tryd.zeroValue104
  t53 := Tryd.underlying40
  a53 := Tryd.isAgg40
  z53 := Tryd.sizeOf40
  v53 := Tryd.zeroValue40
  t171 := Tryd.underlying94
  a171 := Tryd.isAgg94
  z171 := Tryd.sizeOf94
  v171 := Tryd.zeroValue94
  t173 := Tryd.underlying97
  a173 := Tryd.isAgg97
  z173 := Tryd.sizeOf97
  v173 := Tryd.zeroValue97
  t212 := Tryd.underlying103
  a212 := Tryd.isAgg103
  z212 := Tryd.sizeOf103
  v212 := Tryd.zeroValue103
  t213 := Tryd.underlying105
  a213 := Tryd.isAgg105
  z213 := Tryd.sizeOf105
  t232 := Tryd.underlying115
  a232 := Tryd.isAgg115
  z232 := Tryd.sizeOf115
  v232 := Tryd.zeroValue115
  t233 := Tryd.underlying116
  a233 := Tryd.isAgg116
  z233 := Tryd.sizeOf116
  v233 := Tryd.zeroValue116
  g17 := by kernel_rfl
  g18 := by kernel_rfl
  g19 := by kernel_rfl
  i0 := by kernel_rfl
  i2 := by kernel_rfl
  i3 := by kernel_rfl
  i4 := by kernel_rfl
  i5 := by kernel_rfl
  i9 := by kernel_rfl
  i20 := by kernel_rfl
  i37 := by kernel_rfl
  i46 := by kernel_rfl
  i51 := by kernel_rfl
  i53 := by kernel_rfl
  i171 := by kernel_rfl
  i173 := by kernel_rfl
  i212 := by kernel_rfl
  i232 := by kernel_rfl
  i233 := by kernel_rfl
  m17 := by kernel_rfl
  m18 := by kernel_rfl
  m19 := by kernel_rfl }
open Go.RowKit Go.Sort Go.Lib in
theorem Tryd.strconv_Itoa (n : Int) (h0 : -9223372036854775808 ≤ n) (h1 : n ≤ 9223372036854775807) (w : World) (htab : Lib.TabIs Tryd.prog w "internal/strconv.uint64pow10" .u64 Lib.pow10Tab) :
    Calls Tryd.prog 27 #[.int .i64 n] w fun e w' => e = .returned (.string ⟨(Lib.itoa n).toArray⟩) ∧ ∃ k os, w' = grow (w.drewN k) os := Any.strconv_Itoa Tryd.laysM171 n h0 h1 w htab
end Go.Proofs
