/- Contracts of the library at this program, in plain words (written by the kit's tools lay-shelf and lay-plain, shortened to those that are used). -/
import Derived.Shelf.Small.Utf8
import Derived.Shelf.Utf8.RuneCount
import Derived.Shelf.Strconv.Itoa0
import Derived.Shelf.Strconv.Itoa1
import Derived.Shelf.LaysM
import Derived.Shelf.Strconv.Itoa2
import Derived.Shelf.Strconv.Itoa3
import Derived.Shelf.Strconv.Itoa4
import Derived.Shelf.Strconv.ParseIntEmpty
import Derived.Shelf.Strconv.Clone
import Derived.Shelf.Strconv.SyntaxError
import Derived.Shelf.LaysC
import Derived.Shelf.Strconv.ToError
import Derived.Shelf.Strconv.Lower
import Derived.Shelf.Strconv.ParseUint10
import Derived.Shelf.Strconv.ParseUint10Empty
import Derived.Shelf.Strconv.ParseUint10Any
import Derived.Shelf.Strconv.ParseInt10
import Derived.Shelf.Strconv.RangeError
import Derived.Shelf.Strconv.ToErrorRange
import Derived.Shelf.Strconv.ParseUintEmpty
import Derived.Shelf.Strconv.ParseUint10b64
import Derived.Shelf.Strconv.ParseUint10b32
import Derived.Shelf.Strconv.ParseUint10b16
import Derived.Shelf.Strconv.ParseUint10b8
import Derived.Shelf.Strconv.ParseUint10At
import Derived.Shelf.Strconv.ParseInt10At64
import Derived.Shelf.Strconv.ParseInt10At32
import Derived.Shelf.Strconv.ParseInt10At16
import Derived.Shelf.Strconv.ParseInt10At8
import Derived.Shelf.Strconv.ParseInt10All
import Derived.Shelf.Strconv.ParseIntPublic10
import Derived.Shelf.Strconv.ErrVarParseInt
import Derived.Shelf.Strings.Fields
import Derived.Shelf.Strings.SplitShaped
import Derived.Shelf.Unicode.Latin
import Derived.Shelf.Unicode.Decode
import Derived.Shelf.Strings.RuneCount
import Derived.Shelf.Unicode.DecodeSlow
import Derived.Shelf.Unicode.DecodeAny
import Derived.Shelf.Unicode.Is16White
import Derived.Shelf.Unicode.IsSpaceAny
import Derived.Shelf.Unicode.DecodeLast
import Derived.Shelf.Unicode.Is16Any
import Derived.Shelf.Unicode.Is32Any
import Derived.Shelf.Unicode.ExclAny
import Derived.Test.YtgdghaijjhbegaaDoorProg
namespace Go.Proofs
open Go.Shelf
def Tryd.lays195_ren : Go.Shelf.Ren := ⟨fun | 195 => 66 | n => n, fun | 9 => 9 | 3 => 3 | 0 => 0 | 4 => 4 | n => n, fun | n => n⟩
theorem Tryd.lays195 : Go.Proofs.Lays.n195 Tryd.prog Tryd.lays195_ren := {
  mixed := by kernel_rfl
  f195 := Tryd.func66.trans (congrArg some (by kernel_rfl))
  t0 := Tryd.underlying0
  a0 := Tryd.isAgg0
  z0 := Tryd.sizeOf0
  v0 := Tryd.zeroValue0
  t3 := Tryd.underlying3
  a3 := Tryd.isAgg3
  z3 := Tryd.sizeOf3
  v3 := Tryd.zeroValue3
  t4 := Tryd.underlying4
  a4 := Tryd.isAgg4
  z4 := Tryd.sizeOf4
  v4 := Tryd.zeroValue4
  t9 := Tryd.underlying9
  a9 := Tryd.isAgg9
  z9 := Tryd.sizeOf9
  v9 := Tryd.zeroValue9 }
def Tryd.laysM171_ren : Go.Shelf.Ren := ⟨fun | 171 => 62 | 243 => 87 | 246 => 86 | 283 => 105 | 284 => 106 | 285 => 107 | 286 => 108 | 129 => 120 | 317 => 119 | 318 => 121 | 319 => 122 | 320 => 123 | 337 => 131 | 338 => 132 | n => n, fun | 3 => 3 | 9 => 9 | 2 => 2 | 4 => 4 | 171 => 154 | 0 => 0 | 53 => 104 | 37 => 41 | 5 => 5 | 173 => 157 | 212 => 188 | 51 => 55 | 20 => 20 | 213 => 189 | 46 => 173 | 232 => 212 | 233 => 213 | n => n, fun | 17 => 16 | 18 => 20 | 19 => 21 | n => n⟩
theorem Tryd.laysM171 : Go.Proofs.LaysM.n171 Tryd.prog Tryd.laysM171_ren := {
  mixed := by kernel_rfl
  f129 := Tryd.func120.trans (congrArg some (by kernel_rfl))
  f171 := Tryd.func62.trans (congrArg some (by kernel_rfl))
  f243 := Tryd.func87.trans (congrArg some (by kernel_rfl))
  f246 := Tryd.func86.trans (congrArg some (by kernel_rfl))
  f283 := Tryd.func105.trans (congrArg some (by kernel_rfl))
  f284 := Tryd.func106.trans (congrArg some (by kernel_rfl))
  f285 := Tryd.func107.trans (congrArg some (by kernel_rfl))
  f286 := Tryd.func108.trans (congrArg some (by kernel_rfl))
  f317 := Tryd.func119.trans (congrArg some (by kernel_rfl))
  f318 := Tryd.func121.trans (congrArg some (by kernel_rfl))
  f319 := Tryd.func122.trans (congrArg some (by kernel_rfl))
  f320 := Tryd.func123.trans (congrArg some (by kernel_rfl))
  f337 := Tryd.func131.trans (congrArg some (by kernel_rfl))
  f338 := Tryd.func132.trans (congrArg some (by kernel_rfl))
  t0 := Tryd.underlying0
  a0 := Tryd.isAgg0
  z0 := Tryd.sizeOf0
  v0 := Tryd.zeroValue0
  t2 := Tryd.underlying2
  a2 := Tryd.isAgg2
  z2 := Tryd.sizeOf2
  v2 := Tryd.zeroValue2
  t3 := Tryd.underlying3
  a3 := Tryd.isAgg3
  z3 := Tryd.sizeOf3
  v3 := Tryd.zeroValue3
  t4 := Tryd.underlying4
  a4 := Tryd.isAgg4
  z4 := Tryd.sizeOf4
  v4 := Tryd.zeroValue4
  t5 := Tryd.underlying5
  a5 := Tryd.isAgg5
  z5 := Tryd.sizeOf5
  v5 := Tryd.zeroValue5
  t9 := Tryd.underlying9
  a9 := Tryd.isAgg9
  z9 := Tryd.sizeOf9
  v9 := Tryd.zeroValue9
  t20 := Tryd.underlying20
  a20 := Tryd.isAgg20
  z20 := Tryd.sizeOf20
  v20 := Tryd.zeroValue20
  t37 := Tryd.underlying41
  a37 := Tryd.isAgg41
  z37 := Tryd.sizeOf41
  v37 := Tryd.zeroValue41
  t46 := Tryd.underlying173
  a46 := Tryd.isAgg173
  z46 := Tryd.sizeOf173
  v46 := Tryd.zeroValue173
  t51 := Tryd.underlying55
  a51 := Tryd.isAgg55
  z51 := Tryd.sizeOf55
  v51 := Tryd.zeroValue55
  t53 := Tryd.underlying104
  a53 := Tryd.isAgg104
  z53 := Tryd.sizeOf104
  v53 := Tryd.zeroValue104
  t171 := Tryd.underlying154
  a171 := Tryd.isAgg154
  z171 := Tryd.sizeOf154
  v171 := Tryd.zeroValue154
  t173 := Tryd.underlying157
  a173 := Tryd.isAgg157
  z173 := Tryd.sizeOf157
  v173 := Tryd.zeroValue157
  t212 := Tryd.underlying188
  a212 := Tryd.isAgg188
  z212 := Tryd.sizeOf188
  v212 := Tryd.zeroValue188
  t213 := Tryd.underlying189
  a213 := Tryd.isAgg189
  z213 := Tryd.sizeOf189
  t232 := Tryd.underlying212
  a232 := Tryd.isAgg212
  z232 := Tryd.sizeOf212
  v232 := Tryd.zeroValue212
  t233 := Tryd.underlying213
  a233 := Tryd.isAgg213
  z233 := Tryd.sizeOf213
  v233 := Tryd.zeroValue213
  g17 := by kernel_rfl
  g18 := by kernel_rfl
  g19 := by kernel_rfl
  i0 := by kernel_rfl
  i2 := by kernel_rfl
  i3 := by kernel_rfl
  i4 := by kernel_rfl
  i5 := by kernel_rfl
  i9 := by kernel_rfl
  i20 := by kernel_rfl
  i37 := by kernel_rfl
  i46 := by kernel_rfl
  i51 := by kernel_rfl
  i53 := by kernel_rfl
  i171 := by kernel_rfl
  i173 := by kernel_rfl
  i212 := by kernel_rfl
  i232 := by kernel_rfl
  i233 := by kernel_rfl
  m17 := by kernel_rfl
  m18 := by kernel_rfl
  m19 := by kernel_rfl }
open Go.RowKit Go.Sort Go.Lib in
theorem Tryd.strconv_Itoa (n : Int) (h0 : -9223372036854775808 ≤ n) (h1 : n ≤ 9223372036854775807) (w : World) (htab : Lib.TabIs Tryd.prog w "internal/strconv.uint64pow10" .u64 Lib.pow10Tab) :
    Calls Tryd.prog 62 #[.int .i64 n] w fun e w' => e = .returned (.string ⟨(Lib.itoa n).toArray⟩) ∧ ∃ k os, w' = grow (w.drewN k) os := Any.strconv_Itoa Tryd.laysM171 n h0 h1 w htab
def Tryd.laysM173_ren : Go.Shelf.Ren := ⟨fun | 173 => 61 | 246 => 86 | 283 => 105 | 284 => 106 | 285 => 107 | 286 => 108 | 129 => 120 | 317 => 119 | 318 => 121 | 319 => 122 | 320 => 123 | 337 => 131 | 338 => 132 | n => n, fun | 2 => 2 | 3 => 3 | 9 => 9 | 4 => 4 | 171 => 154 | 0 => 0 | 53 => 104 | 37 => 41 | 5 => 5 | 173 => 157 | 212 => 188 | 51 => 55 | 20 => 20 | 213 => 189 | 46 => 173 | 232 => 212 | 233 => 213 | n => n, fun | 17 => 16 | 18 => 20 | 19 => 21 | n => n⟩
theorem Tryd.laysM173 : Go.Proofs.LaysM.n173 Tryd.prog Tryd.laysM173_ren := {
  mixed := by kernel_rfl
  f129 := Tryd.func120.trans (congrArg some (by kernel_rfl))
  f173 := Tryd.func61.trans (congrArg some (by kernel_rfl))
  f246 := Tryd.func86.trans (congrArg some (by kernel_rfl))
  f283 := Tryd.func105.trans (congrArg some (by kernel_rfl))
  f284 := Tryd.func106.trans (congrArg some (by kernel_rfl))
  f285 := Tryd.func107.trans (congrArg some (by kernel_rfl))
  f286 := Tryd.func108.trans (congrArg some (by kernel_rfl))
  f317 := Tryd.func119.trans (congrArg some (by kernel_rfl))
  f318 := Tryd.func121.trans (congrArg some (by kernel_rfl))
  f319 := Tryd.func122.trans (congrArg some (by kernel_rfl))
  f320 := Tryd.func123.trans (congrArg some (by kernel_rfl))
  f337 := Tryd.func131.trans (congrArg some (by kernel_rfl))
  f338 := Tryd.func132.trans (congrArg some (by kernel_rfl))
  t0 := Tryd.underlying0
  a0 := Tryd.isAgg0
  z0 := Tryd.sizeOf0
  v0 := Tryd.zeroValue0
  t2 := Tryd.underlying2
  a2 := Tryd.isAgg2
  z2 := Tryd.sizeOf2
  v2 := Tryd.zeroValue2
  t3 := Tryd.underlying3
  a3 := Tryd.isAgg3
  z3 := Tryd.sizeOf3
  v3 := Tryd.zeroValue3
  t4 := Tryd.underlying4
  a4 := Tryd.isAgg4
  z4 := Tryd.sizeOf4
  v4 := Tryd.zeroValue4
  t5 := Tryd.underlying5
  a5 := Tryd.isAgg5
  z5 := Tryd.sizeOf5
  v5 := Tryd.zeroValue5
  t9 := Tryd.underlying9
  a9 := Tryd.isAgg9
  z9 := Tryd.sizeOf9
  v9 := Tryd.zeroValue9
  t20 := Tryd.underlying20
  a20 := Tryd.isAgg20
  z20 := Tryd.sizeOf20
  v20 := Tryd.zeroValue20
  t37 := Tryd.underlying41
  a37 := Tryd.isAgg41
  z37 := Tryd.sizeOf41
  v37 := Tryd.zeroValue41
  t46 := Tryd.underlying173
  a46 := Tryd.isAgg173
  z46 := Tryd.sizeOf173
  v46 := Tryd.zeroValue173
  t51 := Tryd.underlying55
  a51 := Tryd.isAgg55
  z51 := Tryd.sizeOf55
  v51 := Tryd.zeroValue55
  t53 := Tryd.underlying104
  a53 := Tryd.isAgg104
  z53 := Tryd.sizeOf104
  v53 := Tryd.zeroValue104
  t171 := Tryd.underlying154
  a171 := Tryd.isAgg154
  z171 := Tryd.sizeOf154
  v171 := Tryd.zeroValue154
  t173 := Tryd.underlying157
  a173 := Tryd.isAgg157
  z173 := Tryd.sizeOf157
  v173 := Tryd.zeroValue157
  t212 := Tryd.underlying188
  a212 := Tryd.isAgg188
  z212 := Tryd.sizeOf188
  v212 := Tryd.zeroValue188
  t213 := Tryd.underlying189
  a213 := Tryd.isAgg189
  z213 := Tryd.sizeOf189
  t232 := Tryd.underlying212
  a232 := Tryd.isAgg212
  z232 := Tryd.sizeOf212
  v232 := Tryd.zeroValue212
  t233 := Tryd.underlying213
  a233 := Tryd.isAgg213
  z233 := Tryd.sizeOf213
  v233 := Tryd.zeroValue213
  g17 := by kernel_rfl
  g18 := by kernel_rfl
  g19 := by kernel_rfl
  i0 := by kernel_rfl
  i2 := by kernel_rfl
  i3 := by kernel_rfl
  i4 := by kernel_rfl
  i5 := by kernel_rfl
  i9 := by kernel_rfl
  i20 := by kernel_rfl
  i37 := by kernel_rfl
  i46 := by kernel_rfl
  i51 := by kernel_rfl
  i53 := by kernel_rfl
  i171 := by kernel_rfl
  i173 := by kernel_rfl
  i212 := by kernel_rfl
  i232 := by kernel_rfl
  i233 := by kernel_rfl
  m17 := by kernel_rfl
  m18 := by kernel_rfl
  m19 := by kernel_rfl }
open Go.RowKit Go.Sort Go.Lib in
theorem Tryd.strconv_FormatInt_10 (n : Int) (h0 : -9223372036854775808 ≤ n) (h1 : n ≤ 9223372036854775807) (w : World) (htab : Lib.TabIs Tryd.prog w "internal/strconv.uint64pow10" .u64 Lib.pow10Tab) :
    Calls Tryd.prog 61 #[.int .i64 n, .int .i64 10] w fun e w' => e = .returned (.string ⟨(Lib.itoa n).toArray⟩) ∧ ∃ k os, w' = grow (w.drewN k) os := Any.strconv_FormatInt_10 Tryd.laysM173 n h0 h1 w htab
def Tryd.lays321_ren : Go.Shelf.Ren := ⟨fun | 321 => 125 | n => n, fun | 5 => 5 | n => n, fun | n => n⟩
theorem Tryd.lays321 : Go.Proofs.Lays.n321 Tryd.prog Tryd.lays321_ren := {
  mixed := by kernel_rfl
  f321 := Tryd.func125.trans (congrArg some (by kernel_rfl))
  t5 := Tryd.underlying5
  a5 := Tryd.isAgg5
  z5 := Tryd.sizeOf5
  v5 := Tryd.zeroValue5 }
open Go.RowKit in
theorem Tryd.internal_strconv_lower (c : Int) (w : World) :
    Calls Tryd.prog 125 #[.int .u8 c] w fun e w' => e = .returned (.int .u8 (bits .or .u8 c 32)) ∧ w' = w := Any.internal_strconv_lower Tryd.lays321 c w
def Tryd.laysC174_ren : Go.Shelf.Ren := ⟨fun | 174 => 73 | 247 => 94 | 245 => 95 | 287 => 111 | 279 => 112 | 280 => 113 | 281 => 114 | 282 => 115 | 321 => 125 | 322 => 126 | 316 => 127 | 171 => 62 | 205 => 59 | 243 => 87 | 246 => 86 | 283 => 105 | 284 => 106 | 285 => 107 | 286 => 108 | 129 => 120 | 317 => 119 | 318 => 121 | 319 => 122 | 320 => 123 | 337 => 131 | 338 => 132 | n => n, fun | 9 => 9 | 3 => 3 | 2 => 2 | 75 => 50 | 85 => 77 | 4 => 4 | 167 => 170 | 5 => 5 | 53 => 104 | 175 => 171 | 46 => 173 | 168 => 174 | 37 => 41 | 0 => 0 | 210 => 196 | 21 => 21 | 127 => 209 | 145 => 135 | 143 => 133 | 171 => 154 | 173 => 157 | 212 => 188 | 51 => 55 | 20 => 20 | 213 => 189 | 232 => 212 | 233 => 213 | 80 => 95 | n => n, fun | 15 => 18 | 16 => 19 | 17 => 16 | 18 => 20 | 19 => 21 | n => n⟩
theorem Tryd.laysC174 : Go.Proofs.LaysC.n174 Tryd.prog Tryd.laysC174_ren := {
  mixed := by kernel_rfl
  f129 := Tryd.func120.trans (congrArg some (by kernel_rfl))
  f171 := Tryd.func62.trans (congrArg some (by kernel_rfl))
  f174 := Tryd.func73.trans (congrArg some (by kernel_rfl))
  f205 := Tryd.func59.trans (congrArg some (by kernel_rfl))
  f243 := Tryd.func87.trans (congrArg some (by kernel_rfl))
  f245 := Tryd.func95.trans (congrArg some (by kernel_rfl))
  f246 := Tryd.func86.trans (congrArg some (by kernel_rfl))
  f247 := Tryd.func94.trans (congrArg some (by kernel_rfl))
  f279 := Tryd.func112.trans (congrArg some (by kernel_rfl))
  f280 := Tryd.func113.trans (congrArg some (by kernel_rfl))
  f281 := Tryd.func114.trans (congrArg some (by kernel_rfl))
  f282 := Tryd.func115.trans (congrArg some (by kernel_rfl))
  f283 := Tryd.func105.trans (congrArg some (by kernel_rfl))
  f284 := Tryd.func106.trans (congrArg some (by kernel_rfl))
  f285 := Tryd.func107.trans (congrArg some (by kernel_rfl))
  f286 := Tryd.func108.trans (congrArg some (by kernel_rfl))
  f287 := Tryd.func111.trans (congrArg some (by kernel_rfl))
  f316 := Tryd.func127.trans (congrArg some (by kernel_rfl))
  f317 := Tryd.func119.trans (congrArg some (by kernel_rfl))
  f318 := Tryd.func121.trans (congrArg some (by kernel_rfl))
  f319 := Tryd.func122.trans (congrArg some (by kernel_rfl))
  f320 := Tryd.func123.trans (congrArg some (by kernel_rfl))
  f321 := Tryd.func125.trans (congrArg some (by kernel_rfl))
  f322 := Tryd.func126.trans (congrArg some (by kernel_rfl))
  f337 := Tryd.func131.trans (congrArg some (by kernel_rfl))
  f338 := Tryd.func132.trans (congrArg some (by kernel_rfl))
  t0 := Tryd.underlying0
  a0 := Tryd.isAgg0
  z0 := Tryd.sizeOf0
  v0 := Tryd.zeroValue0
  t2 := Tryd.underlying2
  a2 := Tryd.isAgg2
  z2 := Tryd.sizeOf2
  v2 := Tryd.zeroValue2
  t3 := Tryd.underlying3
  a3 := Tryd.isAgg3
  z3 := Tryd.sizeOf3
  v3 := Tryd.zeroValue3
  t4 := Tryd.underlying4
  a4 := Tryd.isAgg4
  z4 := Tryd.sizeOf4
  v4 := Tryd.zeroValue4
  t5 := Tryd.underlying5
  a5 := Tryd.isAgg5
  z5 := Tryd.sizeOf5
  v5 := Tryd.zeroValue5
  t9 := Tryd.underlying9
  a9 := Tryd.isAgg9
  z9 := Tryd.sizeOf9
  v9 := Tryd.zeroValue9
  t20 := Tryd.underlying20
  a20 := Tryd.isAgg20
  z20 := Tryd.sizeOf20
  v20 := Tryd.zeroValue20
  t21 := Tryd.underlying21
  a21 := Tryd.isAgg21
  z21 := Tryd.sizeOf21
  v21 := Tryd.zeroValue21
  t37 := Tryd.underlying41
  a37 := Tryd.isAgg41
  z37 := Tryd.sizeOf41
  v37 := Tryd.zeroValue41
  t46 := Tryd.underlying173
  a46 := Tryd.isAgg173
  z46 := Tryd.sizeOf173
  v46 := Tryd.zeroValue173
  t51 := Tryd.underlying55
  a51 := Tryd.isAgg55
  z51 := Tryd.sizeOf55
  v51 := Tryd.zeroValue55
  t53 := Tryd.underlying104
  a53 := Tryd.isAgg104
  z53 := Tryd.sizeOf104
  v53 := Tryd.zeroValue104
  t75 := Tryd.underlying50
  a75 := Tryd.isAgg50
  z75 := Tryd.sizeOf50
  v75 := Tryd.zeroValue50
  t85 := Tryd.underlying77
  a85 := Tryd.isAgg77
  z85 := Tryd.sizeOf77
  v85 := Tryd.zeroValue77
  t127 := Tryd.underlying209
  a127 := Tryd.isAgg209
  z127 := Tryd.sizeOf209
  v127 := Tryd.zeroValue209
  t143 := Tryd.underlying133
  a143 := Tryd.isAgg133
  z143 := Tryd.sizeOf133
  v143 := Tryd.zeroValue133
  t145 := Tryd.underlying135
  a145 := Tryd.isAgg135
  z145 := Tryd.sizeOf135
  v145 := Tryd.zeroValue135
  t167 := Tryd.underlying170
  a167 := Tryd.isAgg170
  z167 := Tryd.sizeOf170
  v167 := Tryd.zeroValue170
  t168 := Tryd.underlying174
  a168 := Tryd.isAgg174
  z168 := Tryd.sizeOf174
  v168 := Tryd.zeroValue174
  t171 := Tryd.underlying154
  a171 := Tryd.isAgg154
  z171 := Tryd.sizeOf154
  v171 := Tryd.zeroValue154
  t173 := Tryd.underlying157
  a173 := Tryd.isAgg157
  z173 := Tryd.sizeOf157
  v173 := Tryd.zeroValue157
  t175 := Tryd.underlying171
  a175 := Tryd.isAgg171
  z175 := Tryd.sizeOf171
  v175 := Tryd.zeroValue171
  t210 := Tryd.underlying196
  a210 := Tryd.isAgg196
  z210 := Tryd.sizeOf196
  v210 := Tryd.zeroValue196
  t212 := Tryd.underlying188
  a212 := Tryd.isAgg188
  z212 := Tryd.sizeOf188
  v212 := Tryd.zeroValue188
  t213 := Tryd.underlying189
  a213 := Tryd.isAgg189
  z213 := Tryd.sizeOf189
  t232 := Tryd.underlying212
  a232 := Tryd.isAgg212
  z232 := Tryd.sizeOf212
  v232 := Tryd.zeroValue212
  t233 := Tryd.underlying213
  a233 := Tryd.isAgg213
  z233 := Tryd.sizeOf213
  v233 := Tryd.zeroValue213
  g15 := by kernel_rfl
  g16 := by kernel_rfl
  g17 := by kernel_rfl
  g18 := by kernel_rfl
  g19 := by kernel_rfl
  t80 := Tryd.underlying95
  a80 := Tryd.isAgg95
  z80 := Tryd.sizeOf95
  v80 := Tryd.zeroValue95
  i0 := by kernel_rfl
  i2 := by kernel_rfl
  i3 := by kernel_rfl
  i4 := by kernel_rfl
  i5 := by kernel_rfl
  i9 := by kernel_rfl
  i20 := by kernel_rfl
  i21 := by kernel_rfl
  i37 := by kernel_rfl
  i46 := by kernel_rfl
  i51 := by kernel_rfl
  i53 := by kernel_rfl
  i75 := by kernel_rfl
  i80 := by kernel_rfl
  i85 := by kernel_rfl
  i127 := by kernel_rfl
  i143 := by kernel_rfl
  i145 := by kernel_rfl
  i167 := by kernel_rfl
  i168 := by kernel_rfl
  i171 := by kernel_rfl
  i173 := by kernel_rfl
  i175 := by kernel_rfl
  i210 := by kernel_rfl
  i212 := by kernel_rfl
  i232 := by kernel_rfl
  i233 := by kernel_rfl
  m15 := by kernel_rfl
  m16 := by kernel_rfl
  m17 := by kernel_rfl
  m18 := by kernel_rfl
  m19 := by kernel_rfl
  c0 := by kernel_rfl
  c2 := by kernel_rfl
  c3 := by kernel_rfl
  c4 := by kernel_rfl
  c5 := by kernel_rfl
  c9 := by kernel_rfl
  c20 := by kernel_rfl
  c21 := by kernel_rfl
  c37 := by kernel_rfl
  c46 := by kernel_rfl
  c51 := by kernel_rfl
  c53 := by kernel_rfl
  c75 := by kernel_rfl
  c80 := by kernel_rfl
  c85 := by kernel_rfl
  c127 := by kernel_rfl
  c143 := by kernel_rfl
  c145 := by kernel_rfl
  c167 := by kernel_rfl
  c168 := by kernel_rfl
  c171 := by kernel_rfl
  c173 := by kernel_rfl
  c175 := by kernel_rfl
  c210 := by kernel_rfl
  c212 := by kernel_rfl
  c213 := by kernel_rfl
  c232 := by kernel_rfl
  c233 := by kernel_rfl }
open Go.RowKit in
theorem Tryd.strconv_ParseInt_10_at64_ok (s : ByteArray) (hmax : s.size ≤ 9223372036854775806) (v : Int) (h : Lib.parseIntB 64 s.data.toList = .ok v) (w : World) :
    Calls Tryd.prog 73 #[.string s, .int .i64 10, .int .i64 64] w fun e w' => e = .returned (.tuple #[.int .i64 v, .nilIface]) ∧ (w' = w ∨ ∃ t, w' = Lib.bytesWorld w 5 t) := Any.strconv_ParseInt_10_at64_ok Tryd.laysC174 s hmax v h w
open Go.RowKit in
theorem Tryd.strconv_ParseInt_10_at32_ok (s : ByteArray) (hmax : s.size ≤ 9223372036854775806) (v : Int) (h : Lib.parseIntB 32 s.data.toList = .ok v) (w : World) :
    Calls Tryd.prog 73 #[.string s, .int .i64 10, .int .i64 32] w fun e w' => e = .returned (.tuple #[.int .i64 v, .nilIface]) ∧ (w' = w ∨ ∃ t, w' = Lib.bytesWorld w 5 t) := Any.strconv_ParseInt_10_at32_ok Tryd.laysC174 s hmax v h w
open Go.RowKit in
theorem Tryd.strconv_ParseInt_10_at64_syntax_var (s : ByteArray) (hlim : s.size ≤ 281474976710656) (h : Lib.parseIntB 64 s.data.toList = Lib.parseIntB 64 []) (tp : TypeId) (p : Value) (w : World) (hvar : w.var? Tryd.prog "strconv.ErrSyntax" = some #[.iface tp p]) :
    Calls Tryd.prog 73 #[.string s, .int .i64 10, .int .i64 64] w fun e w' => ∃ N, e = .returned (.tuple #[.int .i64 (0), .iface 174 (.pointer (some ⟨N, 0, none⟩))]) ∧ w.heap.size ≤ N ∧ w'.heap[N]? = some (.cells #[.string ⟨#[80, 97, 114, 115, 101, 73, 110, 116]⟩, .string s, .iface tp p] 196 (0, 0)) ∧ Below w.heap.size w w' := Any.strconv_ParseInt_10_at64_syntax_var Tryd.laysC174 s hlim h tp p w hvar
open Go.RowKit Go.Lib in
theorem Tryd.utf8_RuneCountInString_ascii (s : ByteArray) (w : World) (hs : s.size < 4294967281) (hascii : ∀ (j : Nat) b, s.data.toList[j]? = some b → b.toNat < 128) :
    Calls Tryd.prog 66 #[.string s] w fun e w' => e = .returned (.int .i64 s.size) ∧ w' = w.iter s s.size := Any.utf8_RuneCountInString_ascii Tryd.lays195 s w hs hascii
end Go.Proofs
