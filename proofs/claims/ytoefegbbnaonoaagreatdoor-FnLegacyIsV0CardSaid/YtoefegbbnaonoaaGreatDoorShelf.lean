/- The library's contracts at this program, laid by the kit's own two programs: strconv.Itoa and its like. -/
import Derived.Shelf.Strings.Builder1
import Derived.Shelf.Small.Utf8
import Derived.Shelf.Strings.BuilderF
import Derived.Shelf.Strings.BuilderK
import Derived.Shelf.Strconv.Itoa0
import Derived.Shelf.Strconv.Itoa1
import Derived.Shelf.LaysM
import Derived.Shelf.Strconv.Itoa2
import Derived.Shelf.Strconv.Itoa3
import Derived.Shelf.Strings.Prefix
import Derived.Test.YtoefegbbnaonoaaGreatDoorProg
namespace Go.Proofs
open Go.Shelf
def Tryz.lays283_ren : Go.Shelf.Ren := ⟨fun | 283 => 47 | n => n, fun | 3 => 3 | 9 => 9 | 4 => 4 | n => n, fun | n => n⟩
theorem Tryz.lays283 : Go.Proofs.Lays.n283 Tryz.prog Tryz.lays283_ren := {
  mixed := by kernel_rfl
  f283 := Tryz.func47.trans (congrArg some (by kernel_rfl))
  t3 := Tryz.underlying3
  a3 := Tryz.isAgg3
  z3 := Tryz.sizeOf3
  v3 := Tryz.zeroValue3
  t4 := Tryz.underlying4
  a4 := Tryz.isAgg4
  z4 := Tryz.sizeOf4
  v4 := Tryz.zeroValue4
  t9 := Tryz.underlying9
  a9 := Tryz.isAgg9
  z9 := Tryz.sizeOf9
  v9 := Tryz.zeroValue9 }
open Go.Lib in
theorem Tryz.internal_strconv_small (i : Nat) (h : i < 100) (w : World) :
    Calls Tryz.prog 47 #[.int .i64 i] w fun e w' => e = .returned (.string ⟨(Lib.decDigits i).toArray⟩) ∧ w' = w := Any.internal_strconv_small Tryz.lays283 i h w
def Tryz.laysM284_ren : Go.Shelf.Ren := ⟨fun | 284 => 48 | 129 => 75 | 317 => 74 | 318 => 76 | n => n, fun | 53 => 31 | 3 => 3 | 212 => 114 | 0 => 0 | 4 => 4 | 46 => 97 | 5 => 5 | 9 => 9 | n => n, fun | 17 => 1 | n => n⟩
theorem Tryz.laysM284 : Go.Proofs.LaysM.n284 Tryz.prog Tryz.laysM284_ren := {
  mixed := by kernel_rfl
  f129 := Tryz.func75.trans (congrArg some (by kernel_rfl))
  f284 := Tryz.func48.trans (congrArg some (by kernel_rfl))
  f317 := Tryz.func74.trans (congrArg some (by kernel_rfl))
  f318 := Tryz.func76.trans (congrArg some (by kernel_rfl))
  t0 := Tryz.underlying0
  a0 := Tryz.isAgg0
  z0 := Tryz.sizeOf0
  v0 := Tryz.zeroValue0
  t3 := Tryz.underlying3
  a3 := Tryz.isAgg3
  z3 := Tryz.sizeOf3
  v3 := Tryz.zeroValue3
  t4 := Tryz.underlying4
  a4 := Tryz.isAgg4
  z4 := Tryz.sizeOf4
  v4 := Tryz.zeroValue4
  t5 := Tryz.underlying5
  a5 := Tryz.isAgg5
  z5 := Tryz.sizeOf5
  v5 := Tryz.zeroValue5
  t9 := Tryz.underlying9
  a9 := Tryz.isAgg9
  z9 := Tryz.sizeOf9
  v9 := Tryz.zeroValue9
  t46 := Tryz.underlying97
  a46 := Tryz.isAgg97
  z46 := Tryz.sizeOf97
  v46 := Tryz.zeroValue97
  t53 := Tryz.underlying31
  a53 := Tryz.isAgg31
  z53 := Tryz.sizeOf31
  v53 := Tryz.zeroValue31
  t212 := Tryz.underlying114
  a212 := Tryz.isAgg114
  z212 := Tryz.sizeOf114
  v212 := Tryz.zeroValue114
  g17 := by kernel_rfl
  i0 := by kernel_rfl
  i3 := by kernel_rfl
  i4 := by kernel_rfl
  i5 := by kernel_rfl
  i9 := by kernel_rfl
  i46 := by kernel_rfl
  i53 := by kernel_rfl
  i212 := by kernel_rfl
  m17 := by kernel_rfl }
open Go.Lib in
theorem Tryz.internal_strconv_numDigits (u : Nat) (h1 : 1 ≤ u) (h2 : u < 18446744073709551616) (w : World) (htab : Lib.TabIs Tryz.prog w "internal/strconv.uint64pow10" .u64 Lib.pow10Tab) :
    Calls Tryz.prog 48 #[.int .u64 u] w fun e w' => e = .returned (.int .i64 (Lib.nDigits u)) ∧ w' = w := Any.internal_strconv_numDigits Tryz.laysM284 u h1 h2 w htab
def Tryz.lays285_ren : Go.Shelf.Ren := ⟨fun | 285 => 49 | n => n, fun | 37 => 22 | 53 => 31 | 3 => 3 | 4 => 4 | 51 => 115 | 9 => 9 | 5 => 5 | 0 => 0 | n => n, fun | n => n⟩
theorem Tryz.lays285 : Go.Proofs.Lays.n285 Tryz.prog Tryz.lays285_ren := {
  mixed := by kernel_rfl
  f285 := Tryz.func49.trans (congrArg some (by kernel_rfl))
  t0 := Tryz.underlying0
  a0 := Tryz.isAgg0
  z0 := Tryz.sizeOf0
  v0 := Tryz.zeroValue0
  t3 := Tryz.underlying3
  a3 := Tryz.isAgg3
  z3 := Tryz.sizeOf3
  v3 := Tryz.zeroValue3
  t4 := Tryz.underlying4
  a4 := Tryz.isAgg4
  z4 := Tryz.sizeOf4
  v4 := Tryz.zeroValue4
  t5 := Tryz.underlying5
  a5 := Tryz.isAgg5
  z5 := Tryz.sizeOf5
  v5 := Tryz.zeroValue5
  t9 := Tryz.underlying9
  a9 := Tryz.isAgg9
  z9 := Tryz.sizeOf9
  v9 := Tryz.zeroValue9
  t37 := Tryz.underlying22
  a37 := Tryz.isAgg22
  z37 := Tryz.sizeOf22
  v37 := Tryz.zeroValue22
  t51 := Tryz.underlying115
  a51 := Tryz.isAgg115
  z51 := Tryz.sizeOf115
  v51 := Tryz.zeroValue115
  t53 := Tryz.underlying31
  a53 := Tryz.isAgg31
  z53 := Tryz.sizeOf31
  v53 := Tryz.zeroValue31 }
open Go.RowKit Go.Sort Go.Lib in
theorem Tryz.internal_strconv_formatBase10 (blk off cap : Nat) (u : Nat) (d : Array UInt8) (w : World) (hH : Holds (fun (b : UInt8) => Value.int .u8 (b.toNat : Int)) w blk off d) (hu : u < 10 ^ d.size) (hu64 : u < 18446744073709551616) (hsz : d.size < 4611686018427387904) :
    Calls Tryz.prog 49 #[.slice (some ⟨blk, off, none⟩) d.size cap, .int .u64 u] w fun e w' =>
      e = .returned (.tuple #[]) ∧ ∃ (n v' : Nat) (dk : Array UInt8), w' = (putRow (fun (b : UInt8) => Value.int .u8 (b.toNat : Int)) w blk off dk).drewN n ∧ FmtInv d.size u 0 v' dk := Any.internal_strconv_formatBase10 Tryz.lays285 blk off cap u d w hH hu hu64 hsz
def Tryz.laysM246_ren : Go.Shelf.Ren := ⟨fun | 246 => 61 | 283 => 47 | 284 => 48 | 285 => 49 | 286 => 50 | 129 => 75 | 317 => 74 | 318 => 76 | 319 => 77 | 320 => 78 | 337 => 85 | 338 => 86 | n => n, fun | 2 => 2 | 3 => 3 | 9 => 9 | 4 => 4 | 171 => 77 | 0 => 0 | 53 => 31 | 37 => 22 | 5 => 5 | 173 => 80 | 212 => 114 | 51 => 115 | 20 => 20 | 213 => 116 | 46 => 97 | 232 => 133 | 233 => 134 | n => n, fun | 17 => 1 | 18 => 4 | 19 => 5 | n => n⟩
theorem Tryz.laysM246 : Go.Proofs.LaysM.n246 Tryz.prog Tryz.laysM246_ren := {
  mixed := by kernel_rfl
  f129 := Tryz.func75.trans (congrArg some (by kernel_rfl))
  f246 := Tryz.func61.trans (congrArg some (by kernel_rfl))
  f283 := Tryz.func47.trans (congrArg some (by kernel_rfl))
  f284 := Tryz.func48.trans (congrArg some (by kernel_rfl))
  f285 := Tryz.func49.trans (congrArg some (by kernel_rfl))
  f286 := Tryz.func50.trans (congrArg some (by kernel_rfl))
  f317 := Tryz.func74.trans (congrArg some (by kernel_rfl))
  f318 := Tryz.func76.trans (congrArg some (by kernel_rfl))
  f319 := Tryz.func77.trans (congrArg some (by kernel_rfl))
  f320 := Tryz.func78.trans (congrArg some (by kernel_rfl))
  f337 := Tryz.func85.trans (congrArg some (by kernel_rfl))
  f338 := Tryz.func86.trans (congrArg some (by kernel_rfl))
  t0 := Tryz.underlying0
  a0 := Tryz.isAgg0
  z0 := Tryz.sizeOf0
  v0 := Tryz.zeroValue0
  t2 := Tryz.underlying2
  a2 := Tryz.isAgg2
  z2 := Tryz.sizeOf2
  v2 := Tryz.zeroValue2
  t3 := Tryz.underlying3
  a3 := Tryz.isAgg3
  z3 := Tryz.sizeOf3
  v3 := Tryz.zeroValue3
  t4 := Tryz.underlying4
  a4 := Tryz.isAgg4
  z4 := Tryz.sizeOf4
  v4 := Tryz.zeroValue4
  t5 := Tryz.underlying5
  a5 := Tryz.isAgg5
  z5 := Tryz.sizeOf5
  v5 := Tryz.zeroValue5
  t9 := Tryz.underlying9
  a9 := Tryz.isAgg9
  z9 := Tryz.sizeOf9
  v9 := Tryz.zeroValue9
  t20 := Tryz.underlying20
  a20 := Tryz.isAgg20
  z20 := Tryz.sizeOf20
  v20 := Tryz.zeroValue20
  t37 := Tryz.underlying22
  a37 := Tryz.isAgg22
  z37 := Tryz.sizeOf22
  v37 := Tryz.zeroValue22
  t46 := Tryz.underlying97
  a46 := Tryz.isAgg97
  z46 := Tryz.sizeOf97
  v46 := Tryz.zeroValue97
  t51 := Tryz.underlying115
  a51 := Tryz.isAgg115
  z51 := Tryz.sizeOf115
  v51 := Tryz.zeroValue115
  t53 := Tryz.underlying31
  a53 := Tryz.isAgg31
  z53 := Tryz.sizeOf31
  v53 := Tryz.zeroValue31
  t171 := Tryz.underlying77
  a171 := Tryz.isAgg77
  z171 := Tryz.sizeOf77
  v171 := Tryz.zeroValue77
  t173 := Tryz.underlying80
  a173 := Tryz.isAgg80
  z173 := Tryz.sizeOf80
  v173 := Tryz.zeroValue80
  t212 := Tryz.underlying114
  a212 := Tryz.isAgg114
  z212 := Tryz.sizeOf114
  v212 := Tryz.zeroValue114
  t213 := Tryz.underlying116
  a213 := Tryz.isAgg116
  z213 := Tryz.sizeOf116
  t232 := Tryz.underlying133
  a232 := Tryz.isAgg133
  z232 := Tryz.sizeOf133
  v232 := Tryz.zeroValue133
  t233 := Tryz.underlying134
  a233 := Tryz.isAgg134
  z233 := Tryz.sizeOf134
  v233 := Tryz.zeroValue134
  g17 := by kernel_rfl
  g18 := by kernel_rfl
  g19 := by kernel_rfl
  i0 := by kernel_rfl
  i2 := by kernel_rfl
  i3 := by kernel_rfl
  i4 := by kernel_rfl
  i5 := by kernel_rfl
  i9 := by kernel_rfl
  i20 := by kernel_rfl
  i37 := by kernel_rfl
  i46 := by kernel_rfl
  i51 := by kernel_rfl
  i53 := by kernel_rfl
  i171 := by kernel_rfl
  i173 := by kernel_rfl
  i212 := by kernel_rfl
  i232 := by kernel_rfl
  i233 := by kernel_rfl
  m17 := by kernel_rfl
  m18 := by kernel_rfl
  m19 := by kernel_rfl }
open Go.RowKit Go.Sort Go.Lib in
theorem Tryz.internal_strconv_FormatInt_10 (n : Int) (h0 : -9223372036854775808 ≤ n) (h1 : n ≤ 9223372036854775807) (w : World) (htab : Lib.TabIs Tryz.prog w "internal/strconv.uint64pow10" .u64 Lib.pow10Tab) :
    Calls Tryz.prog 61 #[.int .i64 n, .int .i64 10] w fun e w' => e = .returned (.string ⟨(Lib.itoa n).toArray⟩) ∧ ∃ k os, w' = grow (w.drewN k) os := Any.internal_strconv_FormatInt_10 Tryz.laysM246 n h0 h1 w htab
def Tryz.laysM171_ren : Go.Shelf.Ren := ⟨fun | 171 => 33 | 243 => 41 | 246 => 61 | 283 => 47 | 284 => 48 | 285 => 49 | 286 => 50 | 129 => 75 | 317 => 74 | 318 => 76 | 319 => 77 | 320 => 78 | 337 => 85 | 338 => 86 | n => n, fun | 3 => 3 | 9 => 9 | 2 => 2 | 4 => 4 | 171 => 77 | 0 => 0 | 53 => 31 | 37 => 22 | 5 => 5 | 173 => 80 | 212 => 114 | 51 => 115 | 20 => 20 | 213 => 116 | 46 => 97 | 232 => 133 | 233 => 134 | n => n, fun | 17 => 1 | 18 => 4 | 19 => 5 | n => n⟩
theorem Tryz.laysM171 : Go.Proofs.LaysM.n171 Tryz.prog Tryz.laysM171_ren := {
  mixed := by kernel_rfl
  f129 := Tryz.func75.trans (congrArg some (by kernel_rfl))
  f171 := Tryz.func33.trans (congrArg some (by kernel_rfl))
  f243 := Tryz.func41.trans (congrArg some (by kernel_rfl))
  f246 := Tryz.func61.trans (congrArg some (by kernel_rfl))
  f283 := Tryz.func47.trans (congrArg some (by kernel_rfl))
  f284 := Tryz.func48.trans (congrArg some (by kernel_rfl))
  f285 := Tryz.func49.trans (congrArg some (by kernel_rfl))
  f286 := Tryz.func50.trans (congrArg some (by kernel_rfl))
  f317 := Tryz.func74.trans (congrArg some (by kernel_rfl))
  f318 := Tryz.func76.trans (congrArg some (by kernel_rfl))
  f319 := Tryz.func77.trans (congrArg some (by kernel_rfl))
  f320 := Tryz.func78.trans (congrArg some (by kernel_rfl))
  f337 := Tryz.func85.trans (congrArg some (by kernel_rfl))
  f338 := Tryz.func86.trans (congrArg some (by kernel_rfl))
  t0 := Tryz.underlying0
  a0 := Tryz.isAgg0
  z0 := Tryz.sizeOf0
  v0 := Tryz.zeroValue0
  t2 := Tryz.underlying2
  a2 := Tryz.isAgg2
  z2 := Tryz.sizeOf2
  v2 := Tryz.zeroValue2
  t3 := Tryz.underlying3
  a3 := Tryz.isAgg3
  z3 := Tryz.sizeOf3
  v3 := Tryz.zeroValue3
  t4 := Tryz.underlying4
  a4 := Tryz.isAgg4
  z4 := Tryz.sizeOf4
  v4 := Tryz.zeroValue4
  t5 := Tryz.underlying5
  a5 := Tryz.isAgg5
  z5 := Tryz.sizeOf5
  v5 := Tryz.zeroValue5
  t9 := Tryz.underlying9
  a9 := Tryz.isAgg9
  z9 := Tryz.sizeOf9
  v9 := Tryz.zeroValue9
  t20 := Tryz.underlying20
  a20 := Tryz.isAgg20
  z20 := Tryz.sizeOf20
  v20 := Tryz.zeroValue20
  t37 := Tryz.underlying22
  a37 := Tryz.isAgg22
  z37 := Tryz.sizeOf22
  v37 := Tryz.zeroValue22
  t46 := Tryz.underlying97
  a46 := Tryz.isAgg97
  z46 := Tryz.sizeOf97
  v46 := Tryz.zeroValue97
  t51 := Tryz.underlying115
  a51 := Tryz.isAgg115
  z51 := Tryz.sizeOf115
  v51 := Tryz.zeroValue115
  t53 := Tryz.underlying31
  a53 := Tryz.isAgg31
  z53 := Tryz.sizeOf31
  v53 := Tryz.zeroValue31
  t171 := Tryz.underlying77
  a171 := Tryz.isAgg77
  z171 := Tryz.sizeOf77
  v171 := Tryz.zeroValue77
  t173 := Tryz.underlying80
  a173 := Tryz.isAgg80
  z173 := Tryz.sizeOf80
  v173 := Tryz.zeroValue80
  t212 := Tryz.underlying114
  a212 := Tryz.isAgg114
  z212 := Tryz.sizeOf114
  v212 := Tryz.zeroValue114
  t213 := Tryz.underlying116
  a213 := Tryz.isAgg116
  z213 := Tryz.sizeOf116
  t232 := Tryz.underlying133
  a232 := Tryz.isAgg133
  z232 := Tryz.sizeOf133
  v232 := Tryz.zeroValue133
  t233 := Tryz.underlying134
  a233 := Tryz.isAgg134
  z233 := Tryz.sizeOf134
  v233 := Tryz.zeroValue134
  g17 := by kernel_rfl
  g18 := by kernel_rfl
  g19 := by kernel_rfl
  i0 := by kernel_rfl
  i2 := by kernel_rfl
  i3 := by kernel_rfl
  i4 := by kernel_rfl
  i5 := by kernel_rfl
  i9 := by kernel_rfl
  i20 := by kernel_rfl
  i37 := by kernel_rfl
  i46 := by kernel_rfl
  i51 := by kernel_rfl
  i53 := by kernel_rfl
  i171 := by kernel_rfl
  i173 := by kernel_rfl
  i212 := by kernel_rfl
  i232 := by kernel_rfl
  i233 := by kernel_rfl
  m17 := by kernel_rfl
  m18 := by kernel_rfl
  m19 := by kernel_rfl }
open Go.RowKit Go.Sort Go.Lib in
theorem Tryz.strconv_Itoa (n : Int) (h0 : -9223372036854775808 ≤ n) (h1 : n ≤ 9223372036854775807) (w : World) (htab : Lib.TabIs Tryz.prog w "internal/strconv.uint64pow10" .u64 Lib.pow10Tab) :
    Calls Tryz.prog 33 #[.int .i64 n] w fun e w' => e = .returned (.string ⟨(Lib.itoa n).toArray⟩) ∧ ∃ k os, w' = grow (w.drewN k) os := Any.strconv_Itoa Tryz.laysM171 n h0 h1 w htab
def Tryz.lays99_ren : Go.Shelf.Ren := ⟨fun | 99 => 58 | 206 => 80 | n => n, fun | 9 => 9 | 4 => 4 | 3 => 3 | n => n, fun | n => n⟩
theorem Tryz.lays99 : Go.Proofs.Lays.n99 Tryz.prog Tryz.lays99_ren := {
  mixed := by kernel_rfl
  f99 := Tryz.func58.trans (congrArg some (by kernel_rfl))
  f206 := Tryz.func80.trans (congrArg some (by kernel_rfl))
  t3 := Tryz.underlying3
  a3 := Tryz.isAgg3
  z3 := Tryz.sizeOf3
  v3 := Tryz.zeroValue3
  t4 := Tryz.underlying4
  a4 := Tryz.isAgg4
  z4 := Tryz.sizeOf4
  v4 := Tryz.zeroValue4
  t9 := Tryz.underlying9
  a9 := Tryz.isAgg9
  z9 := Tryz.sizeOf9
  v9 := Tryz.zeroValue9 }
open Go.RowKit Go.Lib in
theorem Tryz.strings_HasPrefix (s p : ByteArray) (w : World) :
    Calls Tryz.prog 58 #[.string s, .string p] w fun e w' => e = .returned (.bool (Lib.hasPrefix s.data.toList p.data.toList)) ∧ w' = w := Any.strings_HasPrefix Tryz.lays99 s p w
end Go.Proofs
