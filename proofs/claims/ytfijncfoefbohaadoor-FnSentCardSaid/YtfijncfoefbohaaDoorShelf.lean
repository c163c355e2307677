/- Contracts of the kit's shelf at this dump, laid by the kit's program; only those that the proof leans on. -/
import Derived.Shelf.Strings.Builder1
import Derived.Shelf.Strings.Builder2
import Derived.Shelf.Strings.OnBuilder
import Derived.Shelf.Small.Utf8
import Derived.Shelf.Strings.BuilderF
import Derived.Shelf.Strings.BuilderK
import Derived.Shelf.Strings.BuilderRune
import Derived.Shelf.Strconv.Atoi
import Derived.Shelf.Strconv.Itoa0
import Derived.Shelf.Strconv.Itoa1
import Derived.Shelf.LaysM
import Derived.Shelf.Strconv.Itoa2
import Derived.Shelf.Strconv.AtoiErrFast
import Derived.Shelf.Strconv.ParseIntEmpty
import Derived.Shelf.Strconv.AtoiFail
import Derived.Shelf.Strconv.Clone
import Derived.Shelf.Strconv.SyntaxError
import Derived.Shelf.LaysC
import Derived.Shelf.Strconv.ToError
import Derived.Shelf.Strconv.Lower
import Derived.Shelf.Strconv.ParseUint10
import Derived.Shelf.Strconv.ParseUint10Empty
import Derived.Shelf.Strconv.ParseUint10Any
import Derived.Shelf.Strconv.ParseInt10
import Derived.Shelf.Strconv.AtoiLong
import Derived.Shelf.Strconv.AtoiInnerAll
import Derived.Shelf.Strconv.RangeError
import Derived.Shelf.Strconv.ToErrorRange
import Derived.Shelf.Strconv.AtoiAll
import Derived.Shelf.Strconv.ErrVarAll
import Derived.Shelf.Strconv.AppendUint10
import Derived.Shelf.Strconv.AppendInt10
import Derived.Shelf.Strconv.AppendIntPublic10
import Derived.Shelf.Unicode.Latin
import Derived.Shelf.Unicode.DecodeSlow
import Derived.Shelf.Unicode.CaseLookup
import Derived.Shelf.Unicode.CaseConvert
import Derived.Shelf.Unicode.CaseTo
import Derived.Shelf.Unicode.CaseLaid
import Derived.Test.YtfijncfoefbohaaDoorProg
namespace Go.Proofs
open Go.Shelf
def Tryd.lays169_ren : Go.Shelf.Ren := ⟨fun | 169 => 79 | n => n, fun | 70 => 84 | 9 => 9 | 0 => 0 | 72 => 86 | 37 => 62 | 127 => 107 | 3 => 3 | 5 => 5 | n => n, fun | n => n⟩
theorem Tryd.lays169 : Go.Proofs.Lays.n169 Tryd.prog Tryd.lays169_ren := {
  mixed := by kernel_rfl
  f169 := Tryd.func79.trans (congrArg some (by kernel_rfl))
  t0 := Tryd.underlying0
  a0 := Tryd.isAgg0
  z0 := Tryd.sizeOf0
  v0 := Tryd.zeroValue0
  t3 := Tryd.underlying3
  a3 := Tryd.isAgg3
  z3 := Tryd.sizeOf3
  v3 := Tryd.zeroValue3
  t9 := Tryd.underlying9
  a9 := Tryd.isAgg9
  z9 := Tryd.sizeOf9
  v9 := Tryd.zeroValue9
  t37 := Tryd.underlying62
  a37 := Tryd.isAgg62
  z37 := Tryd.sizeOf62
  v37 := Tryd.zeroValue62
  t70 := Tryd.underlying84
  a70 := Tryd.isAgg84
  z70 := Tryd.sizeOf84
  v70 := Tryd.zeroValue84
  t72 := Tryd.underlying86
  a72 := Tryd.isAgg86
  z72 := Tryd.sizeOf86
  v72 := Tryd.zeroValue86
  t127 := Tryd.underlying107
  a127 := Tryd.isAgg107
  z127 := Tryd.sizeOf107
  v127 := Tryd.zeroValue107 }
theorem Tryd.Builder_Extra_169 : Builder.Extra Tryd.prog Tryd.lays169_ren := {
  sizeBuilder := by kernel_rfl
  liesBuilder := by kernel_rfl
  t5 := Tryd.underlying5
  a5 := Tryd.isAgg5
  z5 := Tryd.sizeOf5
  v5 := Tryd.zeroValue5
  infoByte := by kernel_rfl
  cellsByte := by kernel_rfl
  sizeByte := by kernel_rfl
  neB5 := by decide }
open Go.RowKit in
theorem Tryd.Builder_String_any (B b : Nat) (l : List UInt8) (w : World) (h : Lib.IsBuilder 86 5 B b (Lib.byteCells l) w) (hBw : B ≤ w.heap.size) :
    Calls Tryd.prog 79 #[.pointer (some ⟨b, 0, none⟩)] w fun e w' => e = .returned (.string ⟨l.toArray⟩) ∧ Below B w w' := Any.Builder_String_any Tryd.lays169 Tryd.Builder_Extra_169 B b l w h hBw
def Tryd.lays165_ren : Go.Shelf.Ren := ⟨fun | 165 => 72 | 240 => 98 | 241 => 99 | 276 => 110 | 277 => 111 | n => n, fun | 70 => 84 | 3 => 3 | 0 => 0 | 4 => 4 | 9 => 9 | 20 => 20 | 72 => 86 | 37 => 62 | 164 => 113 | 5 => 5 | n => n, fun | n => n⟩
theorem Tryd.lays165 : Go.Proofs.Lays.n165 Tryd.prog Tryd.lays165_ren := {
  mixed := by kernel_rfl
  f165 := Tryd.func72.trans (congrArg some (by kernel_rfl))
  f240 := Tryd.func98.trans (congrArg some (by kernel_rfl))
  f241 := Tryd.func99.trans (congrArg some (by kernel_rfl))
  f276 := Tryd.func110.trans (congrArg some (by kernel_rfl))
  f277 := Tryd.func111.trans (congrArg some (by kernel_rfl))
  t0 := Tryd.underlying0
  a0 := Tryd.isAgg0
  z0 := Tryd.sizeOf0
  v0 := Tryd.zeroValue0
  t3 := Tryd.underlying3
  a3 := Tryd.isAgg3
  z3 := Tryd.sizeOf3
  v3 := Tryd.zeroValue3
  t4 := Tryd.underlying4
  a4 := Tryd.isAgg4
  z4 := Tryd.sizeOf4
  v4 := Tryd.zeroValue4
  t9 := Tryd.underlying9
  a9 := Tryd.isAgg9
  z9 := Tryd.sizeOf9
  v9 := Tryd.zeroValue9
  t20 := Tryd.underlying20
  a20 := Tryd.isAgg20
  z20 := Tryd.sizeOf20
  v20 := Tryd.zeroValue20
  t37 := Tryd.underlying62
  a37 := Tryd.isAgg62
  z37 := Tryd.sizeOf62
  v37 := Tryd.zeroValue62
  t70 := Tryd.underlying84
  a70 := Tryd.isAgg84
  z70 := Tryd.sizeOf84
  v70 := Tryd.zeroValue84
  t72 := Tryd.underlying86
  a72 := Tryd.isAgg86
  z72 := Tryd.sizeOf86
  v72 := Tryd.zeroValue86
  t164 := Tryd.underlying113
  a164 := Tryd.isAgg113
  z164 := Tryd.sizeOf113
  v164 := Tryd.zeroValue113 }
theorem Tryd.Builder_Extra_165 : Builder.Extra Tryd.prog Tryd.lays165_ren := {
  sizeBuilder := by kernel_rfl
  liesBuilder := by kernel_rfl
  t5 := Tryd.underlying5
  a5 := Tryd.isAgg5
  z5 := Tryd.sizeOf5
  v5 := Tryd.zeroValue5
  infoByte := by kernel_rfl
  cellsByte := by kernel_rfl
  sizeByte := by kernel_rfl
  neB5 := by decide }
open Go.RowKit in
theorem Tryd.Builder_Grow_fresh (B b n : Nat) (w : World) (hB : B ≤ b) (hbk : w.heap[b]? = some (.cells #[.pointer none, .slice none 0 0] 86 (0, 0))) (hBw : B ≤ w.heap.size) (hn : n ≤ 281474976710656) :
    Calls Tryd.prog 72 #[.pointer (some ⟨b, 0, none⟩), .int .i64 n] w fun e w' => e = .returned (.tuple #[]) ∧ (Lib.BuilderAt 86 5 B b (.pointer (some ⟨b, 0, none⟩)) [] w' ∧ Below B w w') := Any.Builder_Grow_fresh Tryd.lays165 Tryd.Builder_Extra_165 B b n w hB hbk hBw hn
def Tryd.lays159_ren : Go.Shelf.Ren := ⟨fun | 159 => 107 | 165 => 72 | 166 => 73 | 167 => 115 | 169 => 79 | 230 => 116 | 204 => 117 | 240 => 98 | 241 => 99 | 197 => 127 | 118 => 128 | 168 => 74 | 270 => 129 | 262 => 130 | 276 => 110 | 277 => 111 | 260 => 139 | 242 => 100 | 313 => 140 | 278 => 112 | 274 => 146 | 275 => 147 | n => n, fun | 9 => 9 | 4 => 4 | 3 => 3 | 5 => 5 | 72 => 86 | 0 => 0 | 76 => 88 | 75 => 66 | 107 => 121 | 70 => 84 | 20 => 20 | 37 => 62 | 127 => 107 | 21 => 21 | 105 => 134 | 164 => 113 | 162 => 150 | 203 => 148 | 119 => 153 | 46 => 128 | 139 => 156 | 138 => 155 | 51 => 116 | 160 => 157 | 208 => 166 | 206 => 164 | 80 => 60 | n => n, fun | 13 => 9 | 3 => 10 | 4 => 11 | n => n⟩
theorem Tryd.lays159 : Go.Proofs.Lays.n159 Tryd.prog Tryd.lays159_ren := {
  mixed := by kernel_rfl
  f118 := Tryd.func128.trans (congrArg some (by kernel_rfl))
  f159 := Tryd.func107.trans (congrArg some (by kernel_rfl))
  f165 := Tryd.func72.trans (congrArg some (by kernel_rfl))
  f166 := Tryd.func73.trans (congrArg some (by kernel_rfl))
  f167 := Tryd.func115.trans (congrArg some (by kernel_rfl))
  f168 := Tryd.func74.trans (congrArg some (by kernel_rfl))
  f169 := Tryd.func79.trans (congrArg some (by kernel_rfl))
  f197 := Tryd.func127.trans (congrArg some (by kernel_rfl))
  f204 := Tryd.func117.trans (congrArg some (by kernel_rfl))
  f230 := Tryd.func116.trans (congrArg some (by kernel_rfl))
  f240 := Tryd.func98.trans (congrArg some (by kernel_rfl))
  f241 := Tryd.func99.trans (congrArg some (by kernel_rfl))
  f242 := Tryd.func100.trans (congrArg some (by kernel_rfl))
  f260 := Tryd.func139.trans (congrArg some (by kernel_rfl))
  f262 := Tryd.func130.trans (congrArg some (by kernel_rfl))
  f270 := Tryd.func129.trans (congrArg some (by kernel_rfl))
  f274 := Tryd.func146.trans (congrArg some (by kernel_rfl))
  f275 := Tryd.func147.trans (congrArg some (by kernel_rfl))
  f276 := Tryd.func110.trans (congrArg some (by kernel_rfl))
  f277 := Tryd.func111.trans (congrArg some (by kernel_rfl))
  f278 := Tryd.func112.trans (congrArg some (by kernel_rfl))
  f313 := Tryd.func140.trans (congrArg some (by kernel_rfl))
  t0 := Tryd.underlying0
  a0 := Tryd.isAgg0
  z0 := Tryd.sizeOf0
  v0 := Tryd.zeroValue0
  t3 := Tryd.underlying3
  a3 := Tryd.isAgg3
  z3 := Tryd.sizeOf3
  v3 := Tryd.zeroValue3
  t4 := Tryd.underlying4
  a4 := Tryd.isAgg4
  z4 := Tryd.sizeOf4
  v4 := Tryd.zeroValue4
  t5 := Tryd.underlying5
  a5 := Tryd.isAgg5
  z5 := Tryd.sizeOf5
  v5 := Tryd.zeroValue5
  t9 := Tryd.underlying9
  a9 := Tryd.isAgg9
  z9 := Tryd.sizeOf9
  v9 := Tryd.zeroValue9
  t20 := Tryd.underlying20
  a20 := Tryd.isAgg20
  z20 := Tryd.sizeOf20
  v20 := Tryd.zeroValue20
  t21 := Tryd.underlying21
  a21 := Tryd.isAgg21
  z21 := Tryd.sizeOf21
  v21 := Tryd.zeroValue21
  t37 := Tryd.underlying62
  a37 := Tryd.isAgg62
  z37 := Tryd.sizeOf62
  v37 := Tryd.zeroValue62
  t46 := Tryd.underlying128
  a46 := Tryd.isAgg128
  z46 := Tryd.sizeOf128
  v46 := Tryd.zeroValue128
  t51 := Tryd.underlying116
  a51 := Tryd.isAgg116
  z51 := Tryd.sizeOf116
  v51 := Tryd.zeroValue116
  t70 := Tryd.underlying84
  a70 := Tryd.isAgg84
  z70 := Tryd.sizeOf84
  v70 := Tryd.zeroValue84
  t72 := Tryd.underlying86
  a72 := Tryd.isAgg86
  z72 := Tryd.sizeOf86
  v72 := Tryd.zeroValue86
  t75 := Tryd.underlying66
  a75 := Tryd.isAgg66
  z75 := Tryd.sizeOf66
  v75 := Tryd.zeroValue66
  t76 := Tryd.underlying88
  a76 := Tryd.isAgg88
  z76 := Tryd.sizeOf88
  v76 := Tryd.zeroValue88
  t105 := Tryd.underlying134
  a105 := Tryd.isAgg134
  z105 := Tryd.sizeOf134
  v105 := Tryd.zeroValue134
  t107 := Tryd.underlying121
  a107 := Tryd.isAgg121
  z107 := Tryd.sizeOf121
  v107 := Tryd.zeroValue121
  t119 := Tryd.underlying153
  a119 := Tryd.isAgg153
  z119 := Tryd.sizeOf153
  t127 := Tryd.underlying107
  a127 := Tryd.isAgg107
  z127 := Tryd.sizeOf107
  v127 := Tryd.zeroValue107
  t138 := Tryd.underlying155
  a138 := Tryd.isAgg155
  z138 := Tryd.sizeOf155
  v138 := Tryd.zeroValue155
  t139 := Tryd.underlying156
  a139 := Tryd.isAgg156
  z139 := Tryd.sizeOf156
  v139 := Tryd.zeroValue156
  t160 := Tryd.underlying157
  a160 := Tryd.isAgg157
  z160 := Tryd.sizeOf157
  v160 := Tryd.zeroValue157
  t162 := Tryd.underlying150
  a162 := Tryd.isAgg150
  z162 := Tryd.sizeOf150
  v162 := Tryd.zeroValue150
  t164 := Tryd.underlying113
  a164 := Tryd.isAgg113
  z164 := Tryd.sizeOf113
  v164 := Tryd.zeroValue113
  t203 := Tryd.underlying148
  a203 := Tryd.isAgg148
  z203 := Tryd.sizeOf148
  v203 := Tryd.zeroValue148
  t206 := Tryd.underlying164
  a206 := Tryd.isAgg164
  z206 := Tryd.sizeOf164
  v206 := Tryd.zeroValue164
  t208 := Tryd.underlying166
  a208 := Tryd.isAgg166
  z208 := Tryd.sizeOf166
  v208 := Tryd.zeroValue166
  g3 := by kernel_rfl
  g4 := by kernel_rfl
  g13 := by kernel_rfl }
theorem Tryd.Builder_Extra_159 : Builder.Extra Tryd.prog Tryd.lays159_ren := {
  sizeBuilder := by kernel_rfl
  liesBuilder := by kernel_rfl
  t5 := Tryd.underlying5
  a5 := Tryd.isAgg5
  z5 := Tryd.sizeOf5
  v5 := Tryd.zeroValue5
  infoByte := by kernel_rfl
  cellsByte := by kernel_rfl
  sizeByte := by kernel_rfl
  neB5 := by decide }
open Go.RowKit in
theorem Tryd.strings_ToLower_ascii (s : ByteArray) (w : World) (hs : s.size ≤ 140737488355328) (hascii : ∀ (j : Nat) (b : UInt8), s.data.toList[j]? = some b → b.toNat < 128) :
    Calls Tryd.prog 107 #[.string s] w fun e w' => e = .returned (.string ⟨(Lib.toLowerA s.data.toList).toArray⟩) ∧ Below w.heap.size w w' := Any.strings_ToLower_ascii Tryd.lays159 Tryd.Builder_Extra_159 s w hs hascii
def Tryd.lays283_ren : Go.Shelf.Ren := ⟨fun | 283 => 123 | n => n, fun | 3 => 3 | 9 => 9 | 4 => 4 | n => n, fun | n => n⟩
theorem Tryd.lays283 : Go.Proofs.Lays.n283 Tryd.prog Tryd.lays283_ren := {
  mixed := by kernel_rfl
  f283 := Tryd.func123.trans (congrArg some (by kernel_rfl))
  t3 := Tryd.underlying3
  a3 := Tryd.isAgg3
  z3 := Tryd.sizeOf3
  v3 := Tryd.zeroValue3
  t4 := Tryd.underlying4
  a4 := Tryd.isAgg4
  z4 := Tryd.sizeOf4
  v4 := Tryd.zeroValue4
  t9 := Tryd.underlying9
  a9 := Tryd.isAgg9
  z9 := Tryd.sizeOf9
  v9 := Tryd.zeroValue9 }
open Go.Lib in
theorem Tryd.internal_strconv_small (i : Nat) (h : i < 100) (w : World) :
    Calls Tryd.prog 123 #[.int .i64 i] w fun e w' => e = .returned (.string ⟨(Lib.decDigits i).toArray⟩) ∧ w' = w := Any.internal_strconv_small Tryd.lays283 i h w
def Tryd.laysM284_ren : Go.Shelf.Ren := ⟨fun | 284 => 124 | 129 => 135 | 317 => 134 | 318 => 136 | n => n, fun | 53 => 117 | 3 => 3 | 212 => 145 | 0 => 0 | 4 => 4 | 46 => 128 | 5 => 5 | 9 => 9 | n => n, fun | 17 => 8 | n => n⟩
theorem Tryd.laysM284 : Go.Proofs.LaysM.n284 Tryd.prog Tryd.laysM284_ren := {
  mixed := by kernel_rfl
  f129 := Tryd.func135.trans (congrArg some (by kernel_rfl))
  f284 := Tryd.func124.trans (congrArg some (by kernel_rfl))
  f317 := Tryd.func134.trans (congrArg some (by kernel_rfl))
  f318 := Tryd.func136.trans (congrArg some (by kernel_rfl))
  t0 := Tryd.underlying0
  a0 := Tryd.isAgg0
  z0 := Tryd.sizeOf0
  v0 := Tryd.zeroValue0
  t3 := Tryd.underlying3
  a3 := Tryd.isAgg3
  z3 := Tryd.sizeOf3
  v3 := Tryd.zeroValue3
  t4 := Tryd.underlying4
  a4 := Tryd.isAgg4
  z4 := Tryd.sizeOf4
  v4 := Tryd.zeroValue4
  t5 := Tryd.underlying5
  a5 := Tryd.isAgg5
  z5 := Tryd.sizeOf5
  v5 := Tryd.zeroValue5
  t9 := Tryd.underlying9
  a9 := Tryd.isAgg9
  z9 := Tryd.sizeOf9
  v9 := Tryd.zeroValue9
  t46 := Tryd.underlying128
  a46 := Tryd.isAgg128
  z46 := Tryd.sizeOf128
  v46 := Tryd.zeroValue128
  t53 := Tryd.underlying117
  a53 := Tryd.isAgg117
  z53 := Tryd.sizeOf117
  v53 := Tryd.zeroValue117
  t212 := Tryd.underlying145
  a212 := Tryd.isAgg145
  z212 := Tryd.sizeOf145
  v212 := Tryd.zeroValue145
  g17 := by kernel_rfl
  i0 := by kernel_rfl
  i3 := by kernel_rfl
  i4 := by kernel_rfl
  i5 := by kernel_rfl
  i9 := by kernel_rfl
  i46 := by kernel_rfl
  i53 := by kernel_rfl
  i212 := by kernel_rfl
  m17 := by kernel_rfl }
open Go.Lib in
theorem Tryd.internal_strconv_numDigits (u : Nat) (h1 : 1 ≤ u) (h2 : u < 18446744073709551616) (w : World) (htab : Lib.TabIs Tryd.prog w "internal/strconv.uint64pow10" .u64 Lib.pow10Tab) :
    Calls Tryd.prog 124 #[.int .u64 u] w fun e w' => e = .returned (.int .i64 (Lib.nDigits u)) ∧ w' = w := Any.internal_strconv_numDigits Tryd.laysM284 u h1 h2 w htab
def Tryd.lays285_ren : Go.Shelf.Ren := ⟨fun | 285 => 125 | n => n, fun | 37 => 62 | 53 => 117 | 3 => 3 | 4 => 4 | 51 => 116 | 9 => 9 | 5 => 5 | 0 => 0 | n => n, fun | n => n⟩
theorem Tryd.lays285 : Go.Proofs.Lays.n285 Tryd.prog Tryd.lays285_ren := {
  mixed := by kernel_rfl
  f285 := Tryd.func125.trans (congrArg some (by kernel_rfl))
  t0 := Tryd.underlying0
  a0 := Tryd.isAgg0
  z0 := Tryd.sizeOf0
  v0 := Tryd.zeroValue0
  t3 := Tryd.underlying3
  a3 := Tryd.isAgg3
  z3 := Tryd.sizeOf3
  v3 := Tryd.zeroValue3
  t4 := Tryd.underlying4
  a4 := Tryd.isAgg4
  z4 := Tryd.sizeOf4
  v4 := Tryd.zeroValue4
  t5 := Tryd.underlying5
  a5 := Tryd.isAgg5
  z5 := Tryd.sizeOf5
  v5 := Tryd.zeroValue5
  t9 := Tryd.underlying9
  a9 := Tryd.isAgg9
  z9 := Tryd.sizeOf9
  v9 := Tryd.zeroValue9
  t37 := Tryd.underlying62
  a37 := Tryd.isAgg62
  z37 := Tryd.sizeOf62
  v37 := Tryd.zeroValue62
  t51 := Tryd.underlying116
  a51 := Tryd.isAgg116
  z51 := Tryd.sizeOf116
  v51 := Tryd.zeroValue116
  t53 := Tryd.underlying117
  a53 := Tryd.isAgg117
  z53 := Tryd.sizeOf117
  v53 := Tryd.zeroValue117 }
open Go.RowKit Go.Sort Go.Lib in
theorem Tryd.internal_strconv_formatBase10 (blk off cap : Nat) (u : Nat) (d : Array UInt8) (w : World) (hH : Holds (fun (b : UInt8) => Value.int .u8 (b.toNat : Int)) w blk off d) (hu : u < 10 ^ d.size) (hu64 : u < 18446744073709551616) (hsz : d.size < 4611686018427387904) :
    Calls Tryd.prog 125 #[.slice (some ⟨blk, off, none⟩) d.size cap, .int .u64 u] w fun e w' =>
      e = .returned (.tuple #[]) ∧ ∃ (n v' : Nat) (dk : Array UInt8), w' = (putRow (fun (b : UInt8) => Value.int .u8 (b.toNat : Int)) w blk off dk).drewN n ∧ FmtInv d.size u 0 v' dk := Any.internal_strconv_formatBase10 Tryd.lays285 blk off cap u d w hH hu hu64 hsz
end Go.Proofs