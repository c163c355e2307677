/- Contracts of the kit's shelf at this dump, laid by the kit's program; only those that the proof leans on. -/
import Derived.Shelf.Strings.Builder1
import Derived.Shelf.Strings.Builder2
import Derived.Shelf.Strings.OnBuilder
import Derived.Shelf.Small.Utf8
import Derived.Shelf.Strings.BuilderF
import Derived.Shelf.Strings.BuilderK
import Derived.Shelf.Strings.BuilderRune
import Derived.Shelf.Strconv.Atoi
import Derived.Shelf.Strconv.Itoa0
import Derived.Shelf.Strconv.Itoa1
import Derived.Shelf.LaysM
import Derived.Shelf.Strconv.Itoa2
import Derived.Shelf.Strconv.AtoiErrFast
import Derived.Shelf.Strconv.ParseIntEmpty
import Derived.Shelf.Strconv.AtoiFail
import Derived.Shelf.Strconv.Clone
import Derived.Shelf.Strconv.SyntaxError
import Derived.Shelf.LaysC
import Derived.Shelf.Strconv.ToError
import Derived.Shelf.Strconv.Lower
import Derived.Shelf.Strconv.ParseUint10
import Derived.Shelf.Strconv.ParseUint10Empty
import Derived.Shelf.Strconv.ParseUint10Any
import Derived.Shelf.Strconv.ParseInt10
import Derived.Shelf.Strconv.AtoiLong
import Derived.Shelf.Strconv.AtoiInnerAll
import Derived.Shelf.Strconv.RangeError
import Derived.Shelf.Strconv.ToErrorRange
import Derived.Shelf.Strconv.AtoiAll
import Derived.Shelf.Strconv.ErrVarAll
import Derived.Shelf.Strconv.AppendUint10
import Derived.Shelf.Strconv.AppendInt10
import Derived.Shelf.Strconv.AppendIntPublic10
import Derived.Shelf.Unicode.Latin
import Derived.Shelf.Unicode.DecodeSlow
import Derived.Shelf.Unicode.CaseLookup
import Derived.Shelf.Unicode.CaseConvert
import Derived.Shelf.Unicode.CaseTo
import Derived.Shelf.Unicode.CaseLaid
import Derived.Test.YtfijncfoefbohaaGreatDoorProg
namespace Go.Proofs
open Go.Shelf
def Tryz.laysC172_ren_a : Go.Shelf.Ren := ⟨fun | 172 => 35 | 244 => 49 | 245 => 50 | 247 => 64 | 279 => 65 | 280 => 66 | 281 => 67 | 282 => 68 | 287 => 78 | 316 => 79 | 171 => 81 | 205 => 80 | 321 => 88 | 322 => 89 | 243 => 90 | 246 => 98 | 283 => 82 | 284 => 83 | 285 => 84 | 286 => 85 | 129 => 92 | 317 => 91 | 318 => 93 | 319 => 94 | 320 => 95 | 337 => 99 | 338 => 100 | n => n, fun | 9 => 9 | 3 => 3 | 75 => 49 | 76 => 71 | 4 => 4 | 5 => 5 | 167 => 92 | 37 => 74 | 0 => 0 | 85 => 93 | 2 => 2 | 168 => 95 | 53 => 102 | 175 => 109 | 46 => 111 | 210 => 113 | 127 => 88 | 145 => 127 | 143 => 125 | 21 => 21 | 171 => 116 | 173 => 119 | 212 => 130 | 51 => 101 | 20 => 20 | 213 => 131 | 232 => 147 | 233 => 148 | 80 => 57 | n => n, fun | 15 => 4 | 16 => 5 | 17 => 8 | 18 => 11 | 19 => 12 | n => n⟩
theorem Tryz.laysC172_a : Go.Proofs.LaysC.n172 Tryz.prog Tryz.laysC172_ren_a := {
  mixed := by kernel_rfl
  f129 := Tryz.func92.trans (congrArg some (by kernel_rfl))
  f171 := Tryz.func81.trans (congrArg some (by kernel_rfl))
  f172 := Tryz.func35.trans (congrArg some (by kernel_rfl))
  f205 := Tryz.func80.trans (congrArg some (by kernel_rfl))
  f243 := Tryz.func90.trans (congrArg some (by kernel_rfl))
  f244 := Tryz.func49.trans (congrArg some (by kernel_rfl))
  f245 := Tryz.func50.trans (congrArg some (by kernel_rfl))
  f246 := Tryz.func98.trans (congrArg some (by kernel_rfl))
  f247 := Tryz.func64.trans (congrArg some (by kernel_rfl))
  f279 := Tryz.func65.trans (congrArg some (by kernel_rfl))
  f280 := Tryz.func66.trans (congrArg some (by kernel_rfl))
  f281 := Tryz.func67.trans (congrArg some (by kernel_rfl))
  f282 := Tryz.func68.trans (congrArg some (by kernel_rfl))
  f283 := Tryz.func82.trans (congrArg some (by kernel_rfl))
  f284 := Tryz.func83.trans (congrArg some (by kernel_rfl))
  f285 := Tryz.func84.trans (congrArg some (by kernel_rfl))
  f286 := Tryz.func85.trans (congrArg some (by kernel_rfl))
  f287 := Tryz.func78.trans (congrArg some (by kernel_rfl))
  f316 := Tryz.func79.trans (congrArg some (by kernel_rfl))
  f317 := Tryz.func91.trans (congrArg some (by kernel_rfl))
  f318 := Tryz.func93.trans (congrArg some (by kernel_rfl))
  f319 := Tryz.func94.trans (congrArg some (by kernel_rfl))
  f320 := Tryz.func95.trans (congrArg some (by kernel_rfl))
  f321 := Tryz.func88.trans (congrArg some (by kernel_rfl))
  f322 := Tryz.func89.trans (congrArg some (by kernel_rfl))
  f337 := Tryz.func99.trans (congrArg some (by kernel_rfl))
  f338 := Tryz.func100.trans (congrArg some (by kernel_rfl))
  t0 := Tryz.underlying0
  a0 := Tryz.isAgg0
  z0 := Tryz.sizeOf0
  v0 := Tryz.zeroValue0
  t2 := Tryz.underlying2
  a2 := Tryz.isAgg2
  z2 := Tryz.sizeOf2
  v2 := Tryz.zeroValue2
  t3 := Tryz.underlying3
  a3 := Tryz.isAgg3
  z3 := Tryz.sizeOf3
  v3 := Tryz.zeroValue3
  t4 := Tryz.underlying4
  a4 := Tryz.isAgg4
  z4 := Tryz.sizeOf4
  v4 := Tryz.zeroValue4
  t5 := Tryz.underlying5
  a5 := Tryz.isAgg5
  z5 := Tryz.sizeOf5
  v5 := Tryz.zeroValue5
  t9 := Tryz.underlying9
  a9 := Tryz.isAgg9
  z9 := Tryz.sizeOf9
  v9 := Tryz.zeroValue9
  t20 := Tryz.underlying20
  a20 := Tryz.isAgg20
  z20 := Tryz.sizeOf20
  v20 := Tryz.zeroValue20
  t21 := Tryz.underlying21
  a21 := Tryz.isAgg21
  z21 := Tryz.sizeOf21
  v21 := Tryz.zeroValue21
  t37 := Tryz.underlying74
  a37 := Tryz.isAgg74
  z37 := Tryz.sizeOf74
  v37 := Tryz.zeroValue74
  t46 := Tryz.underlying111
  a46 := Tryz.isAgg111
  z46 := Tryz.sizeOf111
  v46 := Tryz.zeroValue111
  t51 := Tryz.underlying101
  a51 := Tryz.isAgg101
  z51 := Tryz.sizeOf101
  v51 := Tryz.zeroValue101
  t53 := Tryz.underlying102
  a53 := Tryz.isAgg102
  z53 := Tryz.sizeOf102
  v53 := Tryz.zeroValue102
  t75 := Tryz.underlying49
  a75 := Tryz.isAgg49
  z75 := Tryz.sizeOf49
  v75 := Tryz.zeroValue49
  t76 := Tryz.underlying71
  a76 := Tryz.isAgg71
  z76 := Tryz.sizeOf71
  v76 := Tryz.zeroValue71
  t85 := Tryz.underlying93
  a85 := Tryz.isAgg93
  z85 := Tryz.sizeOf93
  v85 := Tryz.zeroValue93
  t127 := Tryz.underlying88
  a127 := Tryz.isAgg88
  z127 := Tryz.sizeOf88
  v127 := Tryz.zeroValue88
  t143 := Tryz.underlying125
  a143 := Tryz.isAgg125
  z143 := Tryz.sizeOf125
  v143 := Tryz.zeroValue125
  t145 := Tryz.underlying127
  a145 := Tryz.isAgg127
  z145 := Tryz.sizeOf127
  v145 := Tryz.zeroValue127
  t167 := Tryz.underlying92
  a167 := Tryz.isAgg92
  z167 := Tryz.sizeOf92
  v167 := Tryz.zeroValue92
  t168 := Tryz.underlying95
  a168 := Tryz.isAgg95
  z168 := Tryz.sizeOf95
  v168 := Tryz.zeroValue95
  t171 := Tryz.underlying116
  a171 := Tryz.isAgg116
  z171 := Tryz.sizeOf116
  v171 := Tryz.zeroValue116
  t173 := Tryz.underlying119
  a173 := Tryz.isAgg119
  z173 := Tryz.sizeOf119
  v173 := Tryz.zeroValue119
  t175 := Tryz.underlying109
  a175 := Tryz.isAgg109
  z175 := Tryz.sizeOf109
  v175 := Tryz.zeroValue109
  t210 := Tryz.underlying113
  a210 := Tryz.isAgg113
  z210 := Tryz.sizeOf113
  v210 := Tryz.zeroValue113
  t212 := Tryz.underlying130
  a212 := Tryz.isAgg130
  z212 := Tryz.sizeOf130
  v212 := Tryz.zeroValue130
  t213 := Tryz.underlying131
  a213 := Tryz.isAgg131
  z213 := Tryz.sizeOf131
  t232 := Tryz.underlying147
  a232 := Tryz.isAgg147
  z232 := Tryz.sizeOf147
  v232 := Tryz.zeroValue147
  t233 := Tryz.underlying148
  a233 := Tryz.isAgg148
  z233 := Tryz.sizeOf148
  v233 := Tryz.zeroValue148
  g15 := by kernel_rfl
  g16 := by kernel_rfl
  g17 := by kernel_rfl
  g18 := by kernel_rfl
  g19 := by kernel_rfl
  t80 := Tryz.underlying57
  a80 := Tryz.isAgg57
  z80 := Tryz.sizeOf57
  v80 := Tryz.zeroValue57
  i0 := by kernel_rfl
  i2 := by kernel_rfl
  i3 := by kernel_rfl
  i4 := by kernel_rfl
  i5 := by kernel_rfl
  i9 := by kernel_rfl
  i20 := by kernel_rfl
  i21 := by kernel_rfl
  i37 := by kernel_rfl
  i46 := by kernel_rfl
  i51 := by kernel_rfl
  i53 := by kernel_rfl
  i75 := by kernel_rfl
  i76 := by kernel_rfl
  i80 := by kernel_rfl
  i85 := by kernel_rfl
  i127 := by kernel_rfl
  i143 := by kernel_rfl
  i145 := by kernel_rfl
  i167 := by kernel_rfl
  i168 := by kernel_rfl
  i171 := by kernel_rfl
  i173 := by kernel_rfl
  i175 := by kernel_rfl
  i210 := by kernel_rfl
  i212 := by kernel_rfl
  i232 := by kernel_rfl
  i233 := by kernel_rfl
  m15 := by kernel_rfl
  m16 := by kernel_rfl
  m17 := by kernel_rfl
  m18 := by kernel_rfl
  m19 := by kernel_rfl
  c0 := by kernel_rfl
  c2 := by kernel_rfl
  c3 := by kernel_rfl
  c4 := by kernel_rfl
  c5 := by kernel_rfl
  c9 := by kernel_rfl
  c20 := by kernel_rfl
  c21 := by kernel_rfl
  c37 := by kernel_rfl
  c46 := by kernel_rfl
  c51 := by kernel_rfl
  c53 := by kernel_rfl
  c75 := by kernel_rfl
  c76 := by kernel_rfl
  c80 := by kernel_rfl
  c85 := by kernel_rfl
  c127 := by kernel_rfl
  c143 := by kernel_rfl
  c145 := by kernel_rfl
  c167 := by kernel_rfl
  c168 := by kernel_rfl
  c171 := by kernel_rfl
  c173 := by kernel_rfl
  c175 := by kernel_rfl
  c210 := by kernel_rfl
  c212 := by kernel_rfl
  c213 := by kernel_rfl
  c232 := by kernel_rfl
  c233 := by kernel_rfl }
end Go.Proofs