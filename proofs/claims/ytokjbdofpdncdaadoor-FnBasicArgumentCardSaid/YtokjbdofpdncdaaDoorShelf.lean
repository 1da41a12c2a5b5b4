/- The library's contracts at this program, laid by the kit's own two programs: strconv.Itoa and its like. -/
import Derived.Shelf.Strings.Builder1
import Derived.Shelf.Small.Utf8
import Derived.Shelf.Strings.BuilderF
import Derived.Shelf.Strings.BuilderK
import Derived.Shelf.Strconv.Itoa0
import Derived.Shelf.Strconv.Itoa1
import Derived.Shelf.LaysM
import Derived.Shelf.Strconv.Itoa2
import Derived.Shelf.Strconv.Itoa3
import Derived.Shelf.Strings.LastIndex
import Derived.Shelf.Strings.LastIndexAll
import Derived.Shelf.Strings.Prefix
import Derived.Test.YtokjbdofpdncdaaDoorProg
namespace Go.Proofs
open Go.Shelf
def Tryd.lays170_ren : Go.Shelf.Ren := ⟨fun | 170 => 60 | n => n, fun | 70 => 109 | 3 => 3 | 0 => 0 | 72 => 111 | 37 => 23 | 5 => 5 | n => n, fun | n => n⟩
theorem Tryd.lays170 : Go.Proofs.Lays.n170 Tryd.prog Tryd.lays170_ren := {
  mixed := by kernel_rfl
  f170 := Tryd.func60.trans (congrArg some (by kernel_rfl))
  t0 := Tryd.underlying0
  a0 := Tryd.isAgg0
  z0 := Tryd.sizeOf0
  v0 := Tryd.zeroValue0
  t3 := Tryd.underlying3
  a3 := Tryd.isAgg3
  z3 := Tryd.sizeOf3
  v3 := Tryd.zeroValue3
  t37 := Tryd.underlying23
  a37 := Tryd.isAgg23
  z37 := Tryd.sizeOf23
  v37 := Tryd.zeroValue23
  t70 := Tryd.underlying109
  a70 := Tryd.isAgg109
  z70 := Tryd.sizeOf109
  v70 := Tryd.zeroValue109
  t72 := Tryd.underlying111
  a72 := Tryd.isAgg111
  z72 := Tryd.sizeOf111
  v72 := Tryd.zeroValue111 }
def Tryd.lays169_ren : Go.Shelf.Ren := ⟨fun | 169 => 65 | n => n, fun | 70 => 109 | 9 => 9 | 0 => 0 | 72 => 111 | 37 => 23 | 127 => 128 | 3 => 3 | 5 => 5 | n => n, fun | n => n⟩
theorem Tryd.lays169 : Go.Proofs.Lays.n169 Tryd.prog Tryd.lays169_ren := {
  mixed := by kernel_rfl
  f169 := Tryd.func65.trans (congrArg some (by kernel_rfl))
  t0 := Tryd.underlying0
  a0 := Tryd.isAgg0
  z0 := Tryd.sizeOf0
  v0 := Tryd.zeroValue0
  t3 := Tryd.underlying3
  a3 := Tryd.isAgg3
  z3 := Tryd.sizeOf3
  v3 := Tryd.zeroValue3
  t9 := Tryd.underlying9
  a9 := Tryd.isAgg9
  z9 := Tryd.sizeOf9
  v9 := Tryd.zeroValue9
  t37 := Tryd.underlying23
  a37 := Tryd.isAgg23
  z37 := Tryd.sizeOf23
  v37 := Tryd.zeroValue23
  t70 := Tryd.underlying109
  a70 := Tryd.isAgg109
  z70 := Tryd.sizeOf109
  v70 := Tryd.zeroValue109
  t72 := Tryd.underlying111
  a72 := Tryd.isAgg111
  z72 := Tryd.sizeOf111
  v72 := Tryd.zeroValue111
  t127 := Tryd.underlying128
  a127 := Tryd.isAgg128
  z127 := Tryd.sizeOf128
  v127 := Tryd.zeroValue128 }
theorem Tryd.Builder_Extra_169 : Builder.Extra Tryd.prog Tryd.lays169_ren := {
  sizeBuilder := by kernel_rfl
  liesBuilder := by kernel_rfl
  t5 := Tryd.underlying5
  a5 := Tryd.isAgg5
  z5 := Tryd.sizeOf5
  v5 := Tryd.zeroValue5
  infoByte := by kernel_rfl
  cellsByte := by kernel_rfl
  sizeByte := by kernel_rfl
  neB5 := by decide }
open Go.RowKit in
theorem Tryd.Builder_Len_f (B b : Nat) (bs : List Value) (w : World) (h : Lib.IsBuilderF 111 5 B b bs w) :
    Calls Tryd.prog 60 #[.pointer (some ⟨b, 0, none⟩)] w fun e w' => e = .returned (.int .i64 bs.length) ∧ w' = w := Any.Builder_Len_f Tryd.lays170 B b bs w h
open Go.RowKit in
theorem Tryd.Builder_String_any_k (B b : Nat) (l : List UInt8) (w : World) (h : Lib.IsBuilderF 111 5 B b (Lib.byteCells l) w) (hBw : B ≤ w.heap.size) :
    Calls Tryd.prog 65 #[.pointer (some ⟨b, 0, none⟩)] w fun e w' => e = .returned (.string ⟨l.toArray⟩) ∧ (Lib.IsBuilderF 111 5 B b (Lib.byteCells l) w' ∧ Below B w w' ∧ Lib.OthersKept 5 (some b) w w') := Any.Builder_String_any_k Tryd.lays169 Tryd.Builder_Extra_169 B b l w h hBw
def Tryd.lays283_ren : Go.Shelf.Ren := ⟨fun | 283 => 86 | n => n, fun | 3 => 3 | 9 => 9 | 4 => 4 | n => n, fun | n => n⟩
theorem Tryd.lays283 : Go.Proofs.Lays.n283 Tryd.prog Tryd.lays283_ren := {
  mixed := by kernel_rfl
  f283 := Tryd.func86.trans (congrArg some (by kernel_rfl))
  t3 := Tryd.underlying3
  a3 := Tryd.isAgg3
  z3 := Tryd.sizeOf3
  v3 := Tryd.zeroValue3
  t4 := Tryd.underlying4
  a4 := Tryd.isAgg4
  z4 := Tryd.sizeOf4
  v4 := Tryd.zeroValue4
  t9 := Tryd.underlying9
  a9 := Tryd.isAgg9
  z9 := Tryd.sizeOf9
  v9 := Tryd.zeroValue9 }
open Go.Lib in
theorem Tryd.internal_strconv_small (i : Nat) (h : i < 100) (w : World) :
    Calls Tryd.prog 86 #[.int .i64 i] w fun e w' => e = .returned (.string ⟨(Lib.decDigits i).toArray⟩) ∧ w' = w := Any.internal_strconv_small Tryd.lays283 i h w
def Tryd.laysM284_ren : Go.Shelf.Ren := ⟨fun | 284 => 87 | 129 => 109 | 317 => 108 | 318 => 110 | n => n, fun | 53 => 35 | 3 => 3 | 212 => 148 | 0 => 0 | 4 => 4 | 46 => 83 | 5 => 5 | 9 => 9 | n => n, fun | 17 => 2 | n => n⟩
theorem Tryd.laysM284 : Go.Proofs.LaysM.n284 Tryd.prog Tryd.laysM284_ren := {
  mixed := by kernel_rfl
  f129 := Tryd.func109.trans (congrArg some (by kernel_rfl))
  f284 := Tryd.func87.trans (congrArg some (by kernel_rfl))
  f317 := Tryd.func108.trans (congrArg some (by kernel_rfl))
  f318 := Tryd.func110.trans (congrArg some (by kernel_rfl))
  t0 := Tryd.underlying0
  a0 := Tryd.isAgg0
  z0 := Tryd.sizeOf0
  v0 := Tryd.zeroValue0
  t3 := Tryd.underlying3
  a3 := Tryd.isAgg3
  z3 := Tryd.sizeOf3
  v3 := Tryd.zeroValue3
  t4 := Tryd.underlying4
  a4 := Tryd.isAgg4
  z4 := Tryd.sizeOf4
  v4 := Tryd.zeroValue4
  t5 := Tryd.underlying5
  a5 := Tryd.isAgg5
  z5 := Tryd.sizeOf5
  v5 := Tryd.zeroValue5
  t9 := Tryd.underlying9
  a9 := Tryd.isAgg9
  z9 := Tryd.sizeOf9
  v9 := Tryd.zeroValue9
  t46 := Tryd.underlying83
  a46 := Tryd.isAgg83
  z46 := Tryd.sizeOf83
  v46 := Tryd.zeroValue83
  t53 := Tryd.underlying35
  a53 := Tryd.isAgg35
  z53 := Tryd.sizeOf35
  v53 := Tryd.zeroValue35
  t212 := Tryd.underlying148
  a212 := Tryd.isAgg148
  z212 := Tryd.sizeOf148
  v212 := Tryd.zeroValue148
  g17 := by kernel_rfl
  i0 := by kernel_rfl
  i3 := by kernel_rfl
  i4 := by kernel_rfl
  i5 := by kernel_rfl
  i9 := by kernel_rfl
  i46 := by kernel_rfl
  i53 := by kernel_rfl
  i212 := by kernel_rfl
  m17 := by kernel_rfl }
open Go.Lib in
theorem Tryd.internal_strconv_numDigits (u : Nat) (h1 : 1 ≤ u) (h2 : u < 18446744073709551616) (w : World) (htab : Lib.TabIs Tryd.prog w "internal/strconv.uint64pow10" .u64 Lib.pow10Tab) :
    Calls Tryd.prog 87 #[.int .u64 u] w fun e w' => e = .returned (.int .i64 (Lib.nDigits u)) ∧ w' = w := Any.internal_strconv_numDigits Tryd.laysM284 u h1 h2 w htab
def Tryd.lays285_ren : Go.Shelf.Ren := ⟨fun | 285 => 88 | n => n, fun | 37 => 23 | 53 => 35 | 3 => 3 | 4 => 4 | 51 => 149 | 9 => 9 | 5 => 5 | 0 => 0 | n => n, fun | n => n⟩
theorem Tryd.lays285 : Go.Proofs.Lays.n285 Tryd.prog Tryd.lays285_ren := {
  mixed := by kernel_rfl
  f285 := Tryd.func88.trans (congrArg some (by kernel_rfl))
  t0 := Tryd.underlying0
  a0 := Tryd.isAgg0
  z0 := Tryd.sizeOf0
  v0 := Tryd.zeroValue0
  t3 := Tryd.underlying3
  a3 := Tryd.isAgg3
  z3 := Tryd.sizeOf3
  v3 := Tryd.zeroValue3
  t4 := Tryd.underlying4
  a4 := Tryd.isAgg4
  z4 := Tryd.sizeOf4
  v4 := Tryd.zeroValue4
  t5 := Tryd.underlying5
  a5 := Tryd.isAgg5
  z5 := Tryd.sizeOf5
  v5 := Tryd.zeroValue5
  t9 := Tryd.underlying9
  a9 := Tryd.isAgg9
  z9 := Tryd.sizeOf9
  v9 := Tryd.zeroValue9
  t37 := Tryd.underlying23
  a37 := Tryd.isAgg23
  z37 := Tryd.sizeOf23
  v37 := Tryd.zeroValue23
  t51 := Tryd.underlying149
  a51 := Tryd.isAgg149
  z51 := Tryd.sizeOf149
  v51 := Tryd.zeroValue149
  t53 := Tryd.underlying35
  a53 := Tryd.isAgg35
  z53 := Tryd.sizeOf35
  v53 := Tryd.zeroValue35 }
open Go.RowKit Go.Sort Go.Lib in
theorem Tryd.internal_strconv_formatBase10 (blk off cap : Nat) (u : Nat) (d : Array UInt8) (w : World) (hH : Holds (fun (b : UInt8) => Value.int .u8 (b.toNat : Int)) w blk off d) (hu : u < 10 ^ d.size) (hu64 : u < 18446744073709551616) (hsz : d.size < 4611686018427387904) :
    Calls Tryd.prog 88 #[.slice (some ⟨blk, off, none⟩) d.size cap, .int .u64 u] w fun e w' =>
      e = .returned (.tuple #[]) ∧ ∃ (n v' : Nat) (dk : Array UInt8), w' = (putRow (fun (b : UInt8) => Value.int .u8 (b.toNat : Int)) w blk off dk).drewN n ∧ FmtInv d.size u 0 v' dk := Any.internal_strconv_formatBase10 Tryd.lays285 blk off cap u d w hH hu hu64 hsz
def Tryd.laysM246_ren : Go.Shelf.Ren := ⟨fun | 246 => 66 | 283 => 86 | 284 => 87 | 285 => 88 | 286 => 89 | 129 => 109 | 317 => 108 | 318 => 110 | 319 => 111 | 320 => 112 | 337 => 123 | 338 => 124 | n => n, fun | 2 => 2 | 3 => 3 | 9 => 9 | 4 => 4 | 171 => 129 | 0 => 0 | 53 => 35 | 37 => 23 | 5 => 5 | 173 => 132 | 212 => 148 | 51 => 149 | 20 => 20 | 213 => 150 | 46 => 83 | 232 => 168 | 233 => 169 | n => n, fun | 17 => 2 | 18 => 5 | 19 => 6 | n => n⟩
theorem Tryd.laysM246 : Go.Proofs.LaysM.n246 Tryd.prog Tryd.laysM246_ren := {
  mixed := by kernel_rfl
  f129 := Tryd.func109.trans (congrArg some (by kernel_rfl))
  f246 := Tryd.func66.trans (congrArg some (by kernel_rfl))
  f283 := Tryd.func86.trans (congrArg some (by kernel_rfl))
  f284 := Tryd.func87.trans (congrArg some (by kernel_rfl))
  f285 := Tryd.func88.trans (congrArg some (by kernel_rfl))
  f286 := Tryd.func89.trans (congrArg some (by kernel_rfl))
  f317 := Tryd.func108.trans (congrArg some (by kernel_rfl))
  f318 := Tryd.func110.trans (congrArg some (by kernel_rfl))
  f319 := Tryd.func111.trans (congrArg some (by kernel_rfl))
  f320 := Tryd.func112.trans (congrArg some (by kernel_rfl))
  f337 := Tryd.func123.trans (congrArg some (by kernel_rfl))
  f338 := Tryd.func124.trans (congrArg some (by kernel_rfl))
  t0 := Tryd.underlying0
  a0 := Tryd.isAgg0
  z0 := Tryd.sizeOf0
  v0 := Tryd.zeroValue0
  t2 := Tryd.underlying2
  a2 := Tryd.isAgg2
  z2 := Tryd.sizeOf2
  v2 := Tryd.zeroValue2
  t3 := Tryd.underlying3
  a3 := Tryd.isAgg3
  z3 := Tryd.sizeOf3
  v3 := Tryd.zeroValue3
  t4 := Tryd.underlying4
  a4 := Tryd.isAgg4
  z4 := Tryd.sizeOf4
  v4 := Tryd.zeroValue4
  t5 := Tryd.underlying5
  a5 := Tryd.isAgg5
  z5 := Tryd.sizeOf5
  v5 := Tryd.zeroValue5
  t9 := Tryd.underlying9
  a9 := Tryd.isAgg9
  z9 := Tryd.sizeOf9
  v9 := Tryd.zeroValue9
  t20 := Tryd.underlying20
  a20 := Tryd.isAgg20
  z20 := Tryd.sizeOf20
  v20 := Tryd.zeroValue20
  t37 := Tryd.underlying23
  a37 := Tryd.isAgg23
  z37 := Tryd.sizeOf23
  v37 := Tryd.zeroValue23
  t46 := Tryd.underlying83
  a46 := Tryd.isAgg83
  z46 := Tryd.sizeOf83
  v46 := Tryd.zeroValue83
  t51 := Tryd.underlying149
  a51 := Tryd.isAgg149
  z51 := Tryd.sizeOf149
  v51 := Tryd.zeroValue149
  t53 := Tryd.underlying35
  a53 := Tryd.isAgg35
  z53 := Tryd.sizeOf35
  v53 := Tryd.zeroValue35
  t171 := Tryd.underlying129
  a171 := Tryd.isAgg129
  z171 := Tryd.sizeOf129
  v171 := Tryd.zeroValue129
  t173 := Tryd.underlying132
  a173 := Tryd.isAgg132
  z173 := Tryd.sizeOf132
  v173 := Tryd.zeroValue132
  t212 := Tryd.underlying148
  a212 := Tryd.isAgg148
  z212 := Tryd.sizeOf148
  v212 := Tryd.zeroValue148
  t213 := Tryd.underlying150
  a213 := Tryd.isAgg150
  z213 := Tryd.sizeOf150
  t232 := Tryd.underlying168
  a232 := Tryd.isAgg168
  z232 := Tryd.sizeOf168
  v232 := Tryd.zeroValue168
  t233 := Tryd.underlying169
  a233 := Tryd.isAgg169
  z233 := Tryd.sizeOf169
  v233 := Tryd.zeroValue169
  g17 := by kernel_rfl
  g18 := by kernel_rfl
  g19 := by kernel_rfl
  i0 := by kernel_rfl
  i2 := by kernel_rfl
  i3 := by kernel_rfl
  i4 := by kernel_rfl
  i5 := by kernel_rfl
  i9 := by kernel_rfl
  i20 := by kernel_rfl
  i37 := by kernel_rfl
  i46 := by kernel_rfl
  i51 := by kernel_rfl
  i53 := by kernel_rfl
  i171 := by kernel_rfl
  i173 := by kernel_rfl
  i212 := by kernel_rfl
  i232 := by kernel_rfl
  i233 := by kernel_rfl
  m17 := by kernel_rfl
  m18 := by kernel_rfl
  m19 := by kernel_rfl }
open Go.RowKit Go.Sort Go.Lib in
theorem Tryd.internal_strconv_FormatInt_10 (n : Int) (h0 : -9223372036854775808 ≤ n) (h1 : n ≤ 9223372036854775807) (w : World) (htab : Lib.TabIs Tryd.prog w "internal/strconv.uint64pow10" .u64 Lib.pow10Tab) :
    Calls Tryd.prog 66 #[.int .i64 n, .int .i64 10] w fun e w' => e = .returned (.string ⟨(Lib.itoa n).toArray⟩) ∧ ∃ k os, w' = grow (w.drewN k) os := Any.internal_strconv_FormatInt_10 Tryd.laysM246 n h0 h1 w htab
def Tryd.laysM171_ren : Go.Shelf.Ren := ⟨fun | 171 => 24 | 243 => 38 | 246 => 66 | 283 => 86 | 284 => 87 | 285 => 88 | 286 => 89 | 129 => 109 | 317 => 108 | 318 => 110 | 319 => 111 | 320 => 112 | 337 => 123 | 338 => 124 | n => n, fun | 3 => 3 | 9 => 9 | 2 => 2 | 4 => 4 | 171 => 129 | 0 => 0 | 53 => 35 | 37 => 23 | 5 => 5 | 173 => 132 | 212 => 148 | 51 => 149 | 20 => 20 | 213 => 150 | 46 => 83 | 232 => 168 | 233 => 169 | n => n, fun | 17 => 2 | 18 => 5 | 19 => 6 | n => n⟩
theorem Tryd.laysM171 : Go.Proofs.LaysM.n171 Tryd.prog Tryd.laysM171_ren := {
  mixed := by kernel_rfl
  f129 := Tryd.func109.trans (congrArg some (by kernel_rfl))
  f171 := Tryd.func24.trans (congrArg some (by kernel_rfl))
  f243 := Tryd.func38.trans (congrArg some (by kernel_rfl))
  f246 := Tryd.func66.trans (congrArg some (by kernel_rfl))
  f283 := Tryd.func86.trans (congrArg some (by kernel_rfl))
  f284 := Tryd.func87.trans (congrArg some (by kernel_rfl))
  f285 := Tryd.func88.trans (congrArg some (by kernel_rfl))
  f286 := Tryd.func89.trans (congrArg some (by kernel_rfl))
  f317 := Tryd.func108.trans (congrArg some (by kernel_rfl))
  f318 := Tryd.func110.trans (congrArg some (by kernel_rfl))
  f319 := Tryd.func111.trans (congrArg some (by kernel_rfl))
  f320 := Tryd.func112.trans (congrArg some (by kernel_rfl))
  f337 := Tryd.func123.trans (congrArg some (by kernel_rfl))
  f338 := Tryd.func124.trans (congrArg some (by kernel_rfl))
  t0 := Tryd.underlying0
  a0 := Tryd.isAgg0
  z0 := Tryd.sizeOf0
  v0 := Tryd.zeroValue0
  t2 := Tryd.underlying2
  a2 := Tryd.isAgg2
  z2 := Tryd.sizeOf2
  v2 := Tryd.zeroValue2
  t3 := Tryd.underlying3
  a3 := Tryd.isAgg3
  z3 := Tryd.sizeOf3
  v3 := Tryd.zeroValue3
  t4 := Tryd.underlying4
  a4 := Tryd.isAgg4
  z4 := Tryd.sizeOf4
  v4 := Tryd.zeroValue4
  t5 := Tryd.underlying5
  a5 := Tryd.isAgg5
  z5 := Tryd.sizeOf5
  v5 := Tryd.zeroValue5
  t9 := Tryd.underlying9
  a9 := Tryd.isAgg9
  z9 := Tryd.sizeOf9
  v9 := Tryd.zeroValue9
  t20 := Tryd.underlying20
  a20 := Tryd.isAgg20
  z20 := Tryd.sizeOf20
  v20 := Tryd.zeroValue20
  t37 := Tryd.underlying23
  a37 := Tryd.isAgg23
  z37 := Tryd.sizeOf23
  v37 := Tryd.zeroValue23
  t46 := Tryd.underlying83
  a46 := Tryd.isAgg83
  z46 := Tryd.sizeOf83
  v46 := Tryd.zeroValue83
  t51 := Tryd.underlying149
  a51 := Tryd.isAgg149
  z51 := Tryd.sizeOf149
  v51 := Tryd.zeroValue149
  t53 := Tryd.underlying35
  a53 := Tryd.isAgg35
  z53 := Tryd.sizeOf35
  v53 := Tryd.zeroValue35
  t171 := Tryd.underlying129
  a171 := Tryd.isAgg129
  z171 := Tryd.sizeOf129
  v171 := Tryd.zeroValue129
  t173 := Tryd.underlying132
  a173 := Tryd.isAgg132
  z173 := Tryd.sizeOf132
  v173 := Tryd.zeroValue132
  t212 := Tryd.underlying148
  a212 := Tryd.isAgg148
  z212 := Tryd.sizeOf148
  v212 := Tryd.zeroValue148
  t213 := Tryd.underlying150
  a213 := Tryd.isAgg150
  z213 := Tryd.sizeOf150
  t232 := Tryd.underlying168
  a232 := Tryd.isAgg168
  z232 := Tryd.sizeOf168
  v232 := Tryd.zeroValue168
  t233 := Tryd.underlying169
  a233 := Tryd.isAgg169
  z233 := Tryd.sizeOf169
  v233 := Tryd.zeroValue169
  g17 := by kernel_rfl
  g18 := by kernel_rfl
  g19 := by kernel_rfl
  i0 := by kernel_rfl
  i2 := by kernel_rfl
  i3 := by kernel_rfl
  i4 := by kernel_rfl
  i5 := by kernel_rfl
  i9 := by kernel_rfl
  i20 := by kernel_rfl
  i37 := by kernel_rfl
  i46 := by kernel_rfl
  i51 := by kernel_rfl
  i53 := by kernel_rfl
  i171 := by kernel_rfl
  i173 := by kernel_rfl
  i212 := by kernel_rfl
  i232 := by kernel_rfl
  i233 := by kernel_rfl
  m17 := by kernel_rfl
  m18 := by kernel_rfl
  m19 := by kernel_rfl }
open Go.RowKit Go.Sort Go.Lib in
theorem Tryd.strconv_Itoa (n : Int) (h0 : -9223372036854775808 ≤ n) (h1 : n ≤ 9223372036854775807) (w : World) (htab : Lib.TabIs Tryd.prog w "internal/strconv.uint64pow10" .u64 Lib.pow10Tab) :
    Calls Tryd.prog 24 #[.int .i64 n] w fun e w' => e = .returned (.string ⟨(Lib.itoa n).toArray⟩) ∧ ∃ k os, w' = grow (w.drewN k) os := Any.strconv_Itoa Tryd.laysM171 n h0 h1 w htab
def Tryd.lays99_ren : Go.Shelf.Ren := ⟨fun | 99 => 63 | 206 => 85 | n => n, fun | 9 => 9 | 4 => 4 | 3 => 3 | n => n, fun | n => n⟩
theorem Tryd.lays99 : Go.Proofs.Lays.n99 Tryd.prog Tryd.lays99_ren := {
  mixed := by kernel_rfl
  f99 := Tryd.func63.trans (congrArg some (by kernel_rfl))
  f206 := Tryd.func85.trans (congrArg some (by kernel_rfl))
  t3 := Tryd.underlying3
  a3 := Tryd.isAgg3
  z3 := Tryd.sizeOf3
  v3 := Tryd.zeroValue3
  t4 := Tryd.underlying4
  a4 := Tryd.isAgg4
  z4 := Tryd.sizeOf4
  v4 := Tryd.zeroValue4
  t9 := Tryd.underlying9
  a9 := Tryd.isAgg9
  z9 := Tryd.sizeOf9
  v9 := Tryd.zeroValue9 }
open Go.RowKit Go.Lib in
theorem Tryd.strings_HasPrefix (s p : ByteArray) (w : World) :
    Calls Tryd.prog 63 #[.string s, .string p] w fun e w' => e = .returned (.bool (Lib.hasPrefix s.data.toList p.data.toList)) ∧ w' = w := Any.strings_HasPrefix Tryd.lays99 s p w
end Go.Proofs
