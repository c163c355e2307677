/- Contracts of the kit's shelf at this dump, laid by the kit's program; only those that the proof leans on. -/
import Derived.Shelf.Strings.Builder1
import Derived.Shelf.Strings.Builder2
import Derived.Shelf.Strings.OnBuilder
import Derived.Shelf.Small.Utf8
import Derived.Shelf.Strings.BuilderF
import Derived.Shelf.Strings.BuilderK
import Derived.Shelf.Strings.BuilderRune
import Derived.Shelf.Strconv.Atoi
import Derived.Shelf.Strconv.Itoa0
import Derived.Shelf.Strconv.Itoa1
import Derived.Shelf.LaysM
import Derived.Shelf.Strconv.Itoa2
import Derived.Shelf.Strconv.AtoiErrFast
import Derived.Shelf.Strconv.ParseIntEmpty
import Derived.Shelf.Strconv.AtoiFail
import Derived.Shelf.Strconv.Clone
import Derived.Shelf.Strconv.SyntaxError
import Derived.Shelf.LaysC
import Derived.Shelf.Strconv.ToError
import Derived.Shelf.Strconv.Lower
import Derived.Shelf.Strconv.ParseUint10
import Derived.Shelf.Strconv.ParseUint10Empty
import Derived.Shelf.Strconv.ParseUint10Any
import Derived.Shelf.Strconv.ParseInt10
import Derived.Shelf.Strconv.AtoiLong
import Derived.Shelf.Strconv.AtoiInnerAll
import Derived.Shelf.Strconv.RangeError
import Derived.Shelf.Strconv.ToErrorRange
import Derived.Shelf.Strconv.AtoiAll
import Derived.Shelf.Strconv.ErrVarAll
import Derived.Shelf.Strconv.AppendUint10
import Derived.Shelf.Strconv.AppendInt10
import Derived.Shelf.Strconv.AppendIntPublic10
import Derived.Shelf.Unicode.Latin
import Derived.Shelf.Unicode.DecodeSlow
import Derived.Shelf.Unicode.CaseLookup
import Derived.Shelf.Unicode.CaseConvert
import Derived.Shelf.Unicode.CaseTo
import Derived.Shelf.Unicode.CaseLaid
import Derived.Test.YtfijncfoefbohaaGreatDoorProg
namespace Go.Proofs
open Go.Shelf
def Tryz.lays169_ren : Go.Shelf.Ren := ⟨fun | 169 => 44 | n => n, fun | 70 => 73 | 9 => 9 | 0 => 0 | 72 => 76 | 37 => 74 | 127 => 88 | 3 => 3 | 5 => 5 | n => n, fun | n => n⟩
theorem Tryz.lays169 : Go.Proofs.Lays.n169 Tryz.prog Tryz.lays169_ren := {
  mixed := by kernel_rfl
  f169 := Tryz.func44.trans (congrArg some (by kernel_rfl))
  t0 := Tryz.underlying0
  a0 := Tryz.isAgg0
  z0 := Tryz.sizeOf0
  v0 := Tryz.zeroValue0
  t3 := Tryz.underlying3
  a3 := Tryz.isAgg3
  z3 := Tryz.sizeOf3
  v3 := Tryz.zeroValue3
  t9 := Tryz.underlying9
  a9 := Tryz.isAgg9
  z9 := Tryz.sizeOf9
  v9 := Tryz.zeroValue9
  t37 := Tryz.underlying74
  a37 := Tryz.isAgg74
  z37 := Tryz.sizeOf74
  v37 := Tryz.zeroValue74
  t70 := Tryz.underlying73
  a70 := Tryz.isAgg73
  z70 := Tryz.sizeOf73
  v70 := Tryz.zeroValue73
  t72 := Tryz.underlying76
  a72 := Tryz.isAgg76
  z72 := Tryz.sizeOf76
  v72 := Tryz.zeroValue76
  t127 := Tryz.underlying88
  a127 := Tryz.isAgg88
  z127 := Tryz.sizeOf88
  v127 := Tryz.zeroValue88 }
theorem Tryz.Builder_Extra_169 : Builder.Extra Tryz.prog Tryz.lays169_ren := {
  sizeBuilder := by kernel_rfl
  liesBuilder := by kernel_rfl
  t5 := Tryz.underlying5
  a5 := Tryz.isAgg5
  z5 := Tryz.sizeOf5
  v5 := Tryz.zeroValue5
  infoByte := by kernel_rfl
  cellsByte := by kernel_rfl
  sizeByte := by kernel_rfl
  neB5 := by decide }
open Go.RowKit in
theorem Tryz.Builder_String_any (B b : Nat) (l : List UInt8) (w : World) (h : Lib.IsBuilder 76 5 B b (Lib.byteCells l) w) (hBw : B ≤ w.heap.size) :
    Calls Tryz.prog 44 #[.pointer (some ⟨b, 0, none⟩)] w fun e w' => e = .returned (.string ⟨l.toArray⟩) ∧ Below B w w' := Any.Builder_String_any Tryz.lays169 Tryz.Builder_Extra_169 B b l w h hBw
def Tryz.lays165_ren : Go.Shelf.Ren := ⟨fun | 165 => 36 | 240 => 51 | 241 => 52 | 276 => 69 | 277 => 70 | n => n, fun | 70 => 73 | 3 => 3 | 0 => 0 | 4 => 4 | 9 => 9 | 20 => 20 | 72 => 76 | 37 => 74 | 164 => 98 | 5 => 5 | n => n, fun | n => n⟩
theorem Tryz.lays165 : Go.Proofs.Lays.n165 Tryz.prog Tryz.lays165_ren := {
  mixed := by kernel_rfl
  f165 := Tryz.func36.trans (congrArg some (by kernel_rfl))
  f240 := Tryz.func51.trans (congrArg some (by kernel_rfl))
  f241 := Tryz.func52.trans (congrArg some (by kernel_rfl))
  f276 := Tryz.func69.trans (congrArg some (by kernel_rfl))
  f277 := Tryz.func70.trans (congrArg some (by kernel_rfl))
  t0 := Tryz.underlying0
  a0 := Tryz.isAgg0
  z0 := Tryz.sizeOf0
  v0 := Tryz.zeroValue0
  t3 := Tryz.underlying3
  a3 := Tryz.isAgg3
  z3 := Tryz.sizeOf3
  v3 := Tryz.zeroValue3
  t4 := Tryz.underlying4
  a4 := Tryz.isAgg4
  z4 := Tryz.sizeOf4
  v4 := Tryz.zeroValue4
  t9 := Tryz.underlying9
  a9 := Tryz.isAgg9
  z9 := Tryz.sizeOf9
  v9 := Tryz.zeroValue9
  t20 := Tryz.underlying20
  a20 := Tryz.isAgg20
  z20 := Tryz.sizeOf20
  v20 := Tryz.zeroValue20
  t37 := Tryz.underlying74
  a37 := Tryz.isAgg74
  z37 := Tryz.sizeOf74
  v37 := Tryz.zeroValue74
  t70 := Tryz.underlying73
  a70 := Tryz.isAgg73
  z70 := Tryz.sizeOf73
  v70 := Tryz.zeroValue73
  t72 := Tryz.underlying76
  a72 := Tryz.isAgg76
  z72 := Tryz.sizeOf76
  v72 := Tryz.zeroValue76
  t164 := Tryz.underlying98
  a164 := Tryz.isAgg98
  z164 := Tryz.sizeOf98
  v164 := Tryz.zeroValue98 }
theorem Tryz.Builder_Extra_165 : Builder.Extra Tryz.prog Tryz.lays165_ren := {
  sizeBuilder := by kernel_rfl
  liesBuilder := by kernel_rfl
  t5 := Tryz.underlying5
  a5 := Tryz.isAgg5
  z5 := Tryz.sizeOf5
  v5 := Tryz.zeroValue5
  infoByte := by kernel_rfl
  cellsByte := by kernel_rfl
  sizeByte := by kernel_rfl
  neB5 := by decide }
open Go.RowKit in
theorem Tryz.Builder_Grow_fresh (B b n : Nat) (w : World) (hB : B ≤ b) (hbk : w.heap[b]? = some (.cells #[.pointer none, .slice none 0 0] 76 (0, 0))) (hBw : B ≤ w.heap.size) (hn : n ≤ 281474976710656) :
    Calls Tryz.prog 36 #[.pointer (some ⟨b, 0, none⟩), .int .i64 n] w fun e w' => e = .returned (.tuple #[]) ∧ (Lib.BuilderAt 76 5 B b (.pointer (some ⟨b, 0, none⟩)) [] w' ∧ Below B w w') := Any.Builder_Grow_fresh Tryz.lays165 Tryz.Builder_Extra_165 B b n w hB hbk hBw hn
def Tryz.lays159_ren : Go.Shelf.Ren := ⟨fun | 159 => 48 | 165 => 36 | 166 => 37 | 167 => 61 | 169 => 44 | 230 => 62 | 204 => 63 | 240 => 51 | 241 => 52 | 197 => 74 | 118 => 75 | 168 => 38 | 270 => 76 | 262 => 77 | 276 => 69 | 277 => 70 | 260 => 86 | 242 => 53 | 313 => 87 | 278 => 71 | 274 => 96 | 275 => 97 | n => n, fun | 9 => 9 | 4 => 4 | 3 => 3 | 5 => 5 | 72 => 76 | 0 => 0 | 76 => 71 | 75 => 49 | 107 => 91 | 70 => 73 | 20 => 20 | 37 => 74 | 127 => 88 | 21 => 21 | 105 => 104 | 164 => 98 | 162 => 123 | 203 => 121 | 119 => 134 | 46 => 111 | 139 => 137 | 138 => 136 | 51 => 101 | 160 => 138 | 208 => 146 | 206 => 144 | 80 => 57 | n => n, fun | 13 => 7 | 3 => 9 | 4 => 10 | n => n⟩
theorem Tryz.lays159 : Go.Proofs.Lays.n159 Tryz.prog Tryz.lays159_ren := {
  mixed := by kernel_rfl
  f118 := Tryz.func75.trans (congrArg some (by kernel_rfl))
  f159 := Tryz.func48.trans (congrArg some (by kernel_rfl))
  f165 := Tryz.func36.trans (congrArg some (by kernel_rfl))
  f166 := Tryz.func37.trans (congrArg some (by kernel_rfl))
  f167 := Tryz.func61.trans (congrArg some (by kernel_rfl))
  f168 := Tryz.func38.trans (congrArg some (by kernel_rfl))
  f169 := Tryz.func44.trans (congrArg some (by kernel_rfl))
  f197 := Tryz.func74.trans (congrArg some (by kernel_rfl))
  f204 := Tryz.func63.trans (congrArg some (by kernel_rfl))
  f230 := Tryz.func62.trans (congrArg some (by kernel_rfl))
  f240 := Tryz.func51.trans (congrArg some (by kernel_rfl))
  f241 := Tryz.func52.trans (congrArg some (by kernel_rfl))
  f242 := Tryz.func53.trans (congrArg some (by kernel_rfl))
  f260 := Tryz.func86.trans (congrArg some (by kernel_rfl))
  f262 := Tryz.func77.trans (congrArg some (by kernel_rfl))
  f270 := Tryz.func76.trans (congrArg some (by kernel_rfl))
  f274 := Tryz.func96.trans (congrArg some (by kernel_rfl))
  f275 := Tryz.func97.trans (congrArg some (by kernel_rfl))
  f276 := Tryz.func69.trans (congrArg some (by kernel_rfl))
  f277 := Tryz.func70.trans (congrArg some (by kernel_rfl))
  f278 := Tryz.func71.trans (congrArg some (by kernel_rfl))
  f313 := Tryz.func87.trans (congrArg some (by kernel_rfl))
  t0 := Tryz.underlying0
  a0 := Tryz.isAgg0
  z0 := Tryz.sizeOf0
  v0 := Tryz.zeroValue0
  t3 := Tryz.underlying3
  a3 := Tryz.isAgg3
  z3 := Tryz.sizeOf3
  v3 := Tryz.zeroValue3
  t4 := Tryz.underlying4
  a4 := Tryz.isAgg4
  z4 := Tryz.sizeOf4
  v4 := Tryz.zeroValue4
  t5 := Tryz.underlying5
  a5 := Tryz.isAgg5
  z5 := Tryz.sizeOf5
  v5 := Tryz.zeroValue5
  t9 := Tryz.underlying9
  a9 := Tryz.isAgg9
  z9 := Tryz.sizeOf9
  v9 := Tryz.zeroValue9
  t20 := Tryz.underlying20
  a20 := Tryz.isAgg20
  z20 := Tryz.sizeOf20
  v20 := Tryz.zeroValue20
  t21 := Tryz.underlying21
  a21 := Tryz.isAgg21
  z21 := Tryz.sizeOf21
  v21 := Tryz.zeroValue21
  t37 := Tryz.underlying74
  a37 := Tryz.isAgg74
  z37 := Tryz.sizeOf74
  v37 := Tryz.zeroValue74
  t46 := Tryz.underlying111
  a46 := Tryz.isAgg111
  z46 := Tryz.sizeOf111
  v46 := Tryz.zeroValue111
  t51 := Tryz.underlying101
  a51 := Tryz.isAgg101
  z51 := Tryz.sizeOf101
  v51 := Tryz.zeroValue101
  t70 := Tryz.underlying73
  a70 := Tryz.isAgg73
  z70 := Tryz.sizeOf73
  v70 := Tryz.zeroValue73
  t72 := Tryz.underlying76
  a72 := Tryz.isAgg76
  z72 := Tryz.sizeOf76
  v72 := Tryz.zeroValue76
  t75 := Tryz.underlying49
  a75 := Tryz.isAgg49
  z75 := Tryz.sizeOf49
  v75 := Tryz.zeroValue49
  t76 := Tryz.underlying71
  a76 := Tryz.isAgg71
  z76 := Tryz.sizeOf71
  v76 := Tryz.zeroValue71
  t105 := Tryz.underlying104
  a105 := Tryz.isAgg104
  z105 := Tryz.sizeOf104
  v105 := Tryz.zeroValue104
  t107 := Tryz.underlying91
  a107 := Tryz.isAgg91
  z107 := Tryz.sizeOf91
  v107 := Tryz.zeroValue91
  t119 := Tryz.underlying134
  a119 := Tryz.isAgg134
  z119 := Tryz.sizeOf134
  t127 := Tryz.underlying88
  a127 := Tryz.isAgg88
  z127 := Tryz.sizeOf88
  v127 := Tryz.zeroValue88
  t138 := Tryz.underlying136
  a138 := Tryz.isAgg136
  z138 := Tryz.sizeOf136
  v138 := Tryz.zeroValue136
  t139 := Tryz.underlying137
  a139 := Tryz.isAgg137
  z139 := Tryz.sizeOf137
  v139 := Tryz.zeroValue137
  t160 := Tryz.underlying138
  a160 := Tryz.isAgg138
  z160 := Tryz.sizeOf138
  v160 := Tryz.zeroValue138
  t162 := Tryz.underlying123
  a162 := Tryz.isAgg123
  z162 := Tryz.sizeOf123
  v162 := Tryz.zeroValue123
  t164 := Tryz.underlying98
  a164 := Tryz.isAgg98
  z164 := Tryz.sizeOf98
  v164 := Tryz.zeroValue98
  t203 := Tryz.underlying121
  a203 := Tryz.isAgg121
  z203 := Tryz.sizeOf121
  v203 := Tryz.zeroValue121
  t206 := Tryz.underlying144
  a206 := Tryz.isAgg144
  z206 := Tryz.sizeOf144
  v206 := Tryz.zeroValue144
  t208 := Tryz.underlying146
  a208 := Tryz.isAgg146
  z208 := Tryz.sizeOf146
  v208 := Tryz.zeroValue146
  g3 := by kernel_rfl
  g4 := by kernel_rfl
  g13 := by kernel_rfl }
theorem Tryz.Builder_Extra_159 : Builder.Extra Tryz.prog Tryz.lays159_ren := {
  sizeBuilder := by kernel_rfl
  liesBuilder := by kernel_rfl
  t5 := Tryz.underlying5
  a5 := Tryz.isAgg5
  z5 := Tryz.sizeOf5
  v5 := Tryz.zeroValue5
  infoByte := by kernel_rfl
  cellsByte := by kernel_rfl
  sizeByte := by kernel_rfl
  neB5 := by decide }
open Go.RowKit in
theorem Tryz.strings_ToLower_ascii (s : ByteArray) (w : World) (hs : s.size ≤ 140737488355328) (hascii : ∀ (j : Nat) (b : UInt8), s.data.toList[j]? = some b → b.toNat < 128) :
    Calls Tryz.prog 48 #[.string s] w fun e w' => e = .returned (.string ⟨(Lib.toLowerA s.data.toList).toArray⟩) ∧ Below w.heap.size w w' := Any.strings_ToLower_ascii Tryz.lays159 Tryz.Builder_Extra_159 s w hs hascii
def Tryz.lays283_ren : Go.Shelf.Ren := ⟨fun | 283 => 82 | n => n, fun | 3 => 3 | 9 => 9 | 4 => 4 | n => n, fun | n => n⟩
theorem Tryz.lays283 : Go.Proofs.Lays.n283 Tryz.prog Tryz.lays283_ren := {
  mixed := by kernel_rfl
  f283 := Tryz.func82.trans (congrArg some (by kernel_rfl))
  t3 := Tryz.underlying3
  a3 := Tryz.isAgg3
  z3 := Tryz.sizeOf3
  v3 := Tryz.zeroValue3
  t4 := Tryz.underlying4
  a4 := Tryz.isAgg4
  z4 := Tryz.sizeOf4
  v4 := Tryz.zeroValue4
  t9 := Tryz.underlying9
  a9 := Tryz.isAgg9
  z9 := Tryz.sizeOf9
  v9 := Tryz.zeroValue9 }
open Go.Lib in
theorem Tryz.internal_strconv_small (i : Nat) (h : i < 100) (w : World) :
    Calls Tryz.prog 82 #[.int .i64 i] w fun e w' => e = .returned (.string ⟨(Lib.decDigits i).toArray⟩) ∧ w' = w := Any.internal_strconv_small Tryz.lays283 i h w
def Tryz.laysM284_ren : Go.Shelf.Ren := ⟨fun | 284 => 83 | 129 => 92 | 317 => 91 | 318 => 93 | n => n, fun | 53 => 102 | 3 => 3 | 212 => 130 | 0 => 0 | 4 => 4 | 46 => 111 | 5 => 5 | 9 => 9 | n => n, fun | 17 => 8 | n => n⟩
theorem Tryz.laysM284 : Go.Proofs.LaysM.n284 Tryz.prog Tryz.laysM284_ren := {
  mixed := by kernel_rfl
  f129 := Tryz.func92.trans (congrArg some (by kernel_rfl))
  f284 := Tryz.func83.trans (congrArg some (by kernel_rfl))
  f317 := Tryz.func91.trans (congrArg some (by kernel_rfl))
  f318 := Tryz.func93.trans (congrArg some (by kernel_rfl))
  t0 := Tryz.underlying0
  a0 := Tryz.isAgg0
  z0 := Tryz.sizeOf0
  v0 := Tryz.zeroValue0
  t3 := Tryz.underlying3
  a3 := Tryz.isAgg3
  z3 := Tryz.sizeOf3
  v3 := Tryz.zeroValue3
  t4 := Tryz.underlying4
  a4 := Tryz.isAgg4
  z4 := Tryz.sizeOf4
  v4 := Tryz.zeroValue4
  t5 := Tryz.underlying5
  a5 := Tryz.isAgg5
  z5 := Tryz.sizeOf5
  v5 := Tryz.zeroValue5
  t9 := Tryz.underlying9
  a9 := Tryz.isAgg9
  z9 := Tryz.sizeOf9
  v9 := Tryz.zeroValue9
  t46 := Tryz.underlying111
  a46 := Tryz.isAgg111
  z46 := Tryz.sizeOf111
  v46 := Tryz.zeroValue111
  t53 := Tryz.underlying102
  a53 := Tryz.isAgg102
  z53 := Tryz.sizeOf102
  v53 := Tryz.zeroValue102
  t212 := Tryz.underlying130
  a212 := Tryz.isAgg130
  z212 := Tryz.sizeOf130
  v212 := Tryz.zeroValue130
  g17 := by kernel_rfl
  i0 := by kernel_rfl
  i3 := by kernel_rfl
  i4 := by kernel_rfl
  i5 := by kernel_rfl
  i9 := by kernel_rfl
  i46 := by kernel_rfl
  i53 := by kernel_rfl
  i212 := by kernel_rfl
  m17 := by kernel_rfl }
open Go.Lib in
theorem Tryz.internal_strconv_numDigits (u : Nat) (h1 : 1 ≤ u) (h2 : u < 18446744073709551616) (w : World) (htab : Lib.TabIs Tryz.prog w "internal/strconv.uint64pow10" .u64 Lib.pow10Tab) :
    Calls Tryz.prog 83 #[.int .u64 u] w fun e w' => e = .returned (.int .i64 (Lib.nDigits u)) ∧ w' = w := Any.internal_strconv_numDigits Tryz.laysM284 u h1 h2 w htab
def Tryz.lays285_ren : Go.Shelf.Ren := ⟨fun | 285 => 84 | n => n, fun | 37 => 74 | 53 => 102 | 3 => 3 | 4 => 4 | 51 => 101 | 9 => 9 | 5 => 5 | 0 => 0 | n => n, fun | n => n⟩
theorem Tryz.lays285 : Go.Proofs.Lays.n285 Tryz.prog Tryz.lays285_ren := {
  mixed := by kernel_rfl
  f285 := Tryz.func84.trans (congrArg some (by kernel_rfl))
  t0 := Tryz.underlying0
  a0 := Tryz.isAgg0
  z0 := Tryz.sizeOf0
  v0 := Tryz.zeroValue0
  t3 := Tryz.underlying3
  a3 := Tryz.isAgg3
  z3 := Tryz.sizeOf3
  v3 := Tryz.zeroValue3
  t4 := Tryz.underlying4
  a4 := Tryz.isAgg4
  z4 := Tryz.sizeOf4
  v4 := Tryz.zeroValue4
  t5 := Tryz.underlying5
  a5 := Tryz.isAgg5
  z5 := Tryz.sizeOf5
  v5 := Tryz.zeroValue5
  t9 := Tryz.underlying9
  a9 := Tryz.isAgg9
  z9 := Tryz.sizeOf9
  v9 := Tryz.zeroValue9
  t37 := Tryz.underlying74
  a37 := Tryz.isAgg74
  z37 := Tryz.sizeOf74
  v37 := Tryz.zeroValue74
  t51 := Tryz.underlying101
  a51 := Tryz.isAgg101
  z51 := Tryz.sizeOf101
  v51 := Tryz.zeroValue101
  t53 := Tryz.underlying102
  a53 := Tryz.isAgg102
  z53 := Tryz.sizeOf102
  v53 := Tryz.zeroValue102 }
open Go.RowKit Go.Sort Go.Lib in
theorem Tryz.internal_strconv_formatBase10 (blk off cap : Nat) (u : Nat) (d : Array UInt8) (w : World) (hH : Holds (fun (b : UInt8) => Value.int .u8 (b.toNat : Int)) w blk off d) (hu : u < 10 ^ d.size) (hu64 : u < 18446744073709551616) (hsz : d.size < 4611686018427387904) :
    Calls Tryz.prog 84 #[.slice (some ⟨blk, off, none⟩) d.size cap, .int .u64 u] w fun e w' =>
      e = .returned (.tuple #[]) ∧ ∃ (n v' : Nat) (dk : Array UInt8), w' = (putRow (fun (b : UInt8) => Value.int .u8 (b.toNat : Int)) w blk off dk).drewN n ∧ FmtInv d.size u 0 v' dk := Any.internal_strconv_formatBase10 Tryz.lays285 blk off cap u d w hH hu hu64 hsz
end Go.Proofs