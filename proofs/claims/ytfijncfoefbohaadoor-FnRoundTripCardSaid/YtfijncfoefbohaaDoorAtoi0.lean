/- Contracts of the kit's shelf at this dump, laid by the kit's program; only those that the proof leans on. -/
import Derived.Shelf.Strings.Builder1
import Derived.Shelf.Strings.Builder2
import Derived.Shelf.Strings.OnBuilder
import Derived.Shelf.Small.Utf8
import Derived.Shelf.Strings.BuilderF
import Derived.Shelf.Strings.BuilderK
import Derived.Shelf.Strings.BuilderRune
import Derived.Shelf.Strconv.Atoi
import Derived.Shelf.Strconv.Itoa0
import Derived.Shelf.Strconv.Itoa1
import Derived.Shelf.LaysM
import Derived.Shelf.Strconv.Itoa2
import Derived.Shelf.Strconv.AtoiErrFast
import Derived.Shelf.Strconv.ParseIntEmpty
import Derived.Shelf.Strconv.AtoiFail
import Derived.Shelf.Strconv.Clone
import Derived.Shelf.Strconv.SyntaxError
import Derived.Shelf.LaysC
import Derived.Shelf.Strconv.ToError
import Derived.Shelf.Strconv.Lower
import Derived.Shelf.Strconv.ParseUint10
import Derived.Shelf.Strconv.ParseUint10Empty
import Derived.Shelf.Strconv.ParseUint10Any
import Derived.Shelf.Strconv.ParseInt10
import Derived.Shelf.Strconv.AtoiLong
import Derived.Shelf.Strconv.AtoiInnerAll
import Derived.Shelf.Strconv.RangeError
import Derived.Shelf.Strconv.ToErrorRange
import Derived.Shelf.Strconv.AtoiAll
import Derived.Shelf.Strconv.ErrVarAll
import Derived.Shelf.Strconv.AppendUint10
import Derived.Shelf.Strconv.AppendInt10
import Derived.Shelf.Strconv.AppendIntPublic10
import Derived.Shelf.Unicode.Latin
import Derived.Shelf.Unicode.DecodeSlow
import Derived.Shelf.Unicode.CaseLookup
import Derived.Shelf.Unicode.CaseConvert
import Derived.Shelf.Unicode.CaseTo
import Derived.Shelf.Unicode.CaseLaid
import Derived.Test.YtfijncfoefbohaaDoorProg
namespace Go.Proofs
open Go.Shelf
def Tryd.laysC172_ren_a : Go.Shelf.Ren := ⟨fun | 172 => 93 | 244 => 108 | 245 => 109 | 247 => 118 | 279 => 119 | 280 => 120 | 281 => 121 | 282 => 122 | 287 => 131 | 316 => 132 | 171 => 133 | 205 => 81 | 321 => 141 | 322 => 142 | 243 => 143 | 246 => 148 | 283 => 123 | 284 => 124 | 285 => 125 | 286 => 126 | 129 => 135 | 317 => 134 | 318 => 136 | 319 => 137 | 320 => 138 | 337 => 144 | 338 => 145 | n => n, fun | 9 => 9 | 3 => 3 | 75 => 66 | 76 => 88 | 4 => 4 | 5 => 5 | 167 => 122 | 37 => 62 | 0 => 0 | 85 => 123 | 2 => 2 | 168 => 125 | 53 => 117 | 175 => 139 | 46 => 128 | 210 => 142 | 127 => 107 | 145 => 111 | 143 => 109 | 21 => 21 | 171 => 129 | 173 => 132 | 212 => 145 | 51 => 116 | 20 => 20 | 213 => 146 | 232 => 161 | 233 => 162 | 80 => 60 | n => n, fun | 15 => 6 | 16 => 7 | 17 => 8 | 18 => 12 | 19 => 13 | n => n⟩
theorem Tryd.laysC172_a : Go.Proofs.LaysC.n172 Tryd.prog Tryd.laysC172_ren_a := {
  mixed := by kernel_rfl
  f129 := Tryd.func135.trans (congrArg some (by kernel_rfl))
  f171 := Tryd.func133.trans (congrArg some (by kernel_rfl))
  f172 := Tryd.func93.trans (congrArg some (by kernel_rfl))
  f205 := Tryd.func81.trans (congrArg some (by kernel_rfl))
  f243 := Tryd.func143.trans (congrArg some (by kernel_rfl))
  f244 := Tryd.func108.trans (congrArg some (by kernel_rfl))
  f245 := Tryd.func109.trans (congrArg some (by kernel_rfl))
  f246 := Tryd.func148.trans (congrArg some (by kernel_rfl))
  f247 := Tryd.func118.trans (congrArg some (by kernel_rfl))
  f279 := Tryd.func119.trans (congrArg some (by kernel_rfl))
  f280 := Tryd.func120.trans (congrArg some (by kernel_rfl))
  f281 := Tryd.func121.trans (congrArg some (by kernel_rfl))
  f282 := Tryd.func122.trans (congrArg some (by kernel_rfl))
  f283 := Tryd.func123.trans (congrArg some (by kernel_rfl))
  f284 := Tryd.func124.trans (congrArg some (by kernel_rfl))
  f285 := Tryd.func125.trans (congrArg some (by kernel_rfl))
  f286 := Tryd.func126.trans (congrArg some (by kernel_rfl))
  f287 := Tryd.func131.trans (congrArg some (by kernel_rfl))
  f316 := Tryd.func132.trans (congrArg some (by kernel_rfl))
  f317 := Tryd.func134.trans (congrArg some (by kernel_rfl))
  f318 := Tryd.func136.trans (congrArg some (by kernel_rfl))
  f319 := Tryd.func137.trans (congrArg some (by kernel_rfl))
  f320 := Tryd.func138.trans (congrArg some (by kernel_rfl))
  f321 := Tryd.func141.trans (congrArg some (by kernel_rfl))
  f322 := Tryd.func142.trans (congrArg some (by kernel_rfl))
  f337 := Tryd.func144.trans (congrArg some (by kernel_rfl))
  f338 := Tryd.func145.trans (congrArg some (by kernel_rfl))
  t0 := Tryd.underlying0
  a0 := Tryd.isAgg0
  z0 := Tryd.sizeOf0
  v0 := Tryd.zeroValue0
  t2 := Tryd.underlying2
  a2 := Tryd.isAgg2
  z2 := Tryd.sizeOf2
  v2 := Tryd.zeroValue2
  t3 := Tryd.underlying3
  a3 := Tryd.isAgg3
  z3 := Tryd.sizeOf3
  v3 := Tryd.zeroValue3
  t4 := Tryd.underlying4
  a4 := Tryd.isAgg4
  z4 := Tryd.sizeOf4
  v4 := Tryd.zeroValue4
  t5 := Tryd.underlying5
  a5 := Tryd.isAgg5
  z5 := Tryd.sizeOf5
  v5 := Tryd.zeroValue5
  t9 := Tryd.underlying9
  a9 := Tryd.isAgg9
  z9 := Tryd.sizeOf9
  v9 := Tryd.zeroValue9
  t20 := Tryd.underlying20
  a20 := Tryd.isAgg20
  z20 := Tryd.sizeOf20
  v20 := Tryd.zeroValue20
  t21 := Tryd.underlying21
  a21 := Tryd.isAgg21
  z21 := Tryd.sizeOf21
  v21 := Tryd.zeroValue21
  t37 := Tryd.underlying62
  a37 := Tryd.isAgg62
  z37 := Tryd.sizeOf62
  v37 := Tryd.zeroValue62
  t46 := Tryd.underlying128
  a46 := Tryd.isAgg128
  z46 := Tryd.sizeOf128
  v46 := Tryd.zeroValue128
  t51 := Tryd.underlying116
  a51 := Tryd.isAgg116
  z51 := Tryd.sizeOf116
  v51 := Tryd.zeroValue116
  t53 := Tryd.underlying117
  a53 := Tryd.isAgg117
  z53 := Tryd.sizeOf117
  v53 := Tryd.zeroValue117
  t75 := Tryd.underlying66
  a75 := Tryd.isAgg66
  z75 := Tryd.sizeOf66
  v75 := Tryd.zeroValue66
  t76 := Tryd.underlying88
  a76 := Tryd.isAgg88
  z76 := Tryd.sizeOf88
  v76 := Tryd.zeroValue88
  t85 := Tryd.underlying123
  a85 := Tryd.isAgg123
  z85 := Tryd.sizeOf123
  v85 := Tryd.zeroValue123
  t127 := Tryd.underlying107
  a127 := Tryd.isAgg107
  z127 := Tryd.sizeOf107
  v127 := Tryd.zeroValue107
  t143 := Tryd.underlying109
  a143 := Tryd.isAgg109
  z143 := Tryd.sizeOf109
  v143 := Tryd.zeroValue109
  t145 := Tryd.underlying111
  a145 := Tryd.isAgg111
  z145 := Tryd.sizeOf111
  v145 := Tryd.zeroValue111
  t167 := Tryd.underlying122
  a167 := Tryd.isAgg122
  z167 := Tryd.sizeOf122
  v167 := Tryd.zeroValue122
  t168 := Tryd.underlying125
  a168 := Tryd.isAgg125
  z168 := Tryd.sizeOf125
  v168 := Tryd.zeroValue125
  t171 := Tryd.underlying129
  a171 := Tryd.isAgg129
  z171 := Tryd.sizeOf129
  v171 := Tryd.zeroValue129
  t173 := Tryd.underlying132
  a173 := Tryd.isAgg132
  z173 := Tryd.sizeOf132
  v173 := Tryd.zeroValue132
  t175 := Tryd.underlying139
  a175 := Tryd.isAgg139
  z175 := Tryd.sizeOf139
  v175 := Tryd.zeroValue139
  t210 := Tryd.underlying142
  a210 := Tryd.isAgg142
  z210 := Tryd.sizeOf142
  v210 := Tryd.zeroValue142
  t212 := Tryd.underlying145
  a212 := Tryd.isAgg145
  z212 := Tryd.sizeOf145
  v212 := Tryd.zeroValue145
  t213 := Tryd.underlying146
  a213 := Tryd.isAgg146
  z213 := Tryd.sizeOf146
  t232 := Tryd.underlying161
  a232 := Tryd.isAgg161
  z232 := Tryd.sizeOf161
  v232 := Tryd.zeroValue161
  t233 := Tryd.underlying162
  a233 := Tryd.isAgg162
  z233 := Tryd.sizeOf162
  v233 := Tryd.zeroValue162
  g15 := by kernel_rfl
  g16 := by kernel_rfl
  g17 := by kernel_rfl
  g18 := by kernel_rfl
  g19 := by kernel_rfl
  t80 := Tryd.underlying60
  a80 := Tryd.isAgg60
  z80 := Tryd.sizeOf60
  v80 := Tryd.zeroValue60
  i0 := by kernel_rfl
  i2 := by kernel_rfl
  i3 := by kernel_rfl
  i4 := by kernel_rfl
  i5 := by kernel_rfl
  i9 := by kernel_rfl
  i20 := by kernel_rfl
  i21 := by kernel_rfl
  i37 := by kernel_rfl
  i46 := by kernel_rfl
  i51 := by kernel_rfl
  i53 := by kernel_rfl
  i75 := by kernel_rfl
  i76 := by kernel_rfl
  i80 := by kernel_rfl
  i85 := by kernel_rfl
  i127 := by kernel_rfl
  i143 := by kernel_rfl
  i145 := by kernel_rfl
  i167 := by kernel_rfl
  i168 := by kernel_rfl
  i171 := by kernel_rfl
  i173 := by kernel_rfl
  i175 := by kernel_rfl
  i210 := by kernel_rfl
  i212 := by kernel_rfl
  i232 := by kernel_rfl
  i233 := by kernel_rfl
  m15 := by kernel_rfl
  m16 := by kernel_rfl
  m17 := by kernel_rfl
  m18 := by kernel_rfl
  m19 := by kernel_rfl
  c0 := by kernel_rfl
  c2 := by kernel_rfl
  c3 := by kernel_rfl
  c4 := by kernel_rfl
  c5 := by kernel_rfl
  c9 := by kernel_rfl
  c20 := by kernel_rfl
  c21 := by kernel_rfl
  c37 := by kernel_rfl
  c46 := by kernel_rfl
  c51 := by kernel_rfl
  c53 := by kernel_rfl
  c75 := by kernel_rfl
  c76 := by kernel_rfl
  c80 := by kernel_rfl
  c85 := by kernel_rfl
  c127 := by kernel_rfl
  c143 := by kernel_rfl
  c145 := by kernel_rfl
  c167 := by kernel_rfl
  c168 := by kernel_rfl
  c171 := by kernel_rfl
  c173 := by kernel_rfl
  c175 := by kernel_rfl
  c210 := by kernel_rfl
  c212 := by kernel_rfl
  c213 := by kernel_rfl
  c232 := by kernel_rfl
  c233 := by kernel_rfl }
end Go.Proofs