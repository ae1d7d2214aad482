/-
  DERIVED: THE SHELF's CONTRACTS AT THIS DUMP, IN PLAIN WORDS (tools/lay-plain.mjs out of 'YtmkpkpkcoieeiabDoorShelf.lean', which tools/lay-shelf.mjs wrote): THE SAME DECLARATIONS UNDER THE SAME NAMES: 'import', 'namespace', 'open', 'def', 'theorem' AND NOTHING ELSE: no command of the shelf's: FOR A HAND-IN. Each laying: the table of numbers ('.._ren') and one theorem, a field a fact of the dump's own or the kernel's comparison; each contract: ONE APPLICATION.
-/
import Derived.Shelf.Small.Utf8
import Derived.Shelf.Strconv.Atoi
import Derived.Shelf.Strconv.Itoa0
import Derived.Shelf.Strconv.Itoa1
import Derived.Shelf.LaysM
import Derived.Shelf.Strconv.Itoa2
import Derived.Shelf.Bytes.Len
import Derived.Shelf.Bytes.TryGrow
import Derived.Shelf.Bytes.GrowSliceCatch
import Derived.Shelf.Bytes.GrowSlice
import Derived.Shelf.Bytes.String
import Derived.Shelf.Strconv.AtoiErrFast
import Derived.Shelf.Strconv.ParseIntEmpty
import Derived.Shelf.Strconv.AtoiFail
import Derived.Shelf.Strconv.Clone
import Derived.Shelf.Strconv.SyntaxError
import Derived.Shelf.LaysC
import Derived.Shelf.Strconv.ToError
import Derived.Shelf.Strconv.Lower
import Derived.Shelf.Strconv.ParseUint10
import Derived.Shelf.Strconv.ParseUint10Empty
import Derived.Shelf.Strconv.ParseUint10Any
import Derived.Shelf.Strconv.ParseInt10
import Derived.Shelf.Strconv.AtoiLong
import Derived.Shelf.Strconv.AtoiInnerAll
import Derived.Shelf.Strconv.RangeError
import Derived.Shelf.Strconv.ToErrorRange
import Derived.Shelf.Strconv.AtoiAll
import Derived.Shelf.Strconv.ErrVarAll
import Derived.Shelf.Strconv.ParseUintEmpty
import Derived.Shelf.Strconv.ParseUint10b64
import Derived.Shelf.Strconv.ParseUint10b32
import Derived.Shelf.Strconv.ParseUint10b16
import Derived.Shelf.Strconv.ParseUint10b8
import Derived.Shelf.Strconv.ParseUint10At
import Derived.Shelf.Strconv.ParseInt10At64
import Derived.Shelf.Strconv.ParseInt10At32
import Derived.Shelf.Strconv.ParseInt10At16
import Derived.Shelf.Strconv.ParseInt10At8
import Derived.Shelf.Strconv.ParseInt10All
import Derived.Shelf.Bytes.GrowRow0Kept
import Derived.Shelf.Bytes.GrowRowKept
import Derived.Shelf.Bytes.GrowNilKept
import Derived.Shelf.Bytes.GrowKept
import Derived.Shelf.Bytes.WriteByteKept
import Derived.Shelf.Bytes.ResetKept
import Derived.Shelf.Bytes.BufferK
import Derived.Shelf.Unicode.DecodeSlow
import Derived.Test.YtmkpkpkcoieeiabDoorProg
namespace Go.Proofs
open Go.Shelf
def Tryd.lays129_ren : Go.Shelf.Ren := ⟨fun | 129 => 48 | n => n, fun | 53 => 43 | 3 => 3 | 4 => 4 | 46 => 79 | 5 => 5 | 9 => 9 | n => n, fun | n => n⟩
theorem Tryd.lays129 : Go.Proofs.Lays.n129 Tryd.prog Tryd.lays129_ren := {
  mixed := by kernel_rfl
  f129 := Tryd.func48.trans (congrArg some (by kernel_rfl))
  t3 := Tryd.underlying3
  a3 := Tryd.isAgg3
  z3 := Tryd.sizeOf3
  v3 := Tryd.zeroValue3
  t4 := Tryd.underlying4
  a4 := Tryd.isAgg4
  z4 := Tryd.sizeOf4
  v4 := Tryd.zeroValue4
  t5 := Tryd.underlying5
  a5 := Tryd.isAgg5
  z5 := Tryd.sizeOf5
  v5 := Tryd.zeroValue5
  t9 := Tryd.underlying9
  a9 := Tryd.isAgg9
  z9 := Tryd.sizeOf9
  v9 := Tryd.zeroValue9
  t46 := Tryd.underlying79
  a46 := Tryd.isAgg79
  z46 := Tryd.sizeOf79
  v46 := Tryd.zeroValue79
  t53 := Tryd.underlying43
  a53 := Tryd.isAgg43
  z53 := Tryd.sizeOf43
  v53 := Tryd.zeroValue43 }
/-- bits.Len64: "Len64 returns the minimum number of bits required to represent x; the result is 0 for x == 0.": IT RETURNS 'Lib.bitLen x'; the world is as it was. ('h0', 'h1': x is a uint64.) (LAID: no walk: one application.) -/
theorem Tryd.bits_Len64 (x : Int) (w : World) (h0 : 0 ≤ x) (h1 : x ≤ 18446744073709551615) :
    Calls Tryd.prog 48 #[.int .u64 x] w fun e w' => e = .returned (.int .i64 (Lib.bitLen x.toNat)) ∧ w' = w := Any.bits_Len64 Tryd.lays129 x w h0 h1
def Tryd.laysC172_ren : Go.Shelf.Ren := ⟨fun | 172 => 41 | 244 => 52 | 245 => 53 | 247 => 60 | 279 => 61 | 280 => 62 | 281 => 63 | 282 => 64 | 287 => 66 | 316 => 67 | 171 => 68 | 205 => 36 | 321 => 69 | 322 => 70 | 243 => 71 | 246 => 72 | 283 => 73 | 284 => 74 | 285 => 75 | 286 => 76 | 129 => 48 | 317 => 77 | 318 => 78 | 319 => 79 | 320 => 80 | 337 => 81 | 338 => 82 | n => n, fun | 9 => 9 | 3 => 3 | 75 => 47 | 76 => 71 | 4 => 4 | 5 => 5 | 167 => 102 | 37 => 27 | 0 => 0 | 85 => 103 | 2 => 2 | 168 => 105 | 53 => 43 | 175 => 112 | 46 => 79 | 210 => 115 | 127 => 117 | 145 => 96 | 143 => 94 | 21 => 21 | 171 => 119 | 173 => 121 | 212 => 124 | 51 => 87 | 20 => 20 | 213 => 125 | 232 => 129 | 233 => 130 | 80 => 77 | n => n, fun | 15 => 7 | 16 => 8 | 17 => 9 | 18 => 10 | 19 => 11 | n => n⟩
theorem Tryd.laysC172 : Go.Proofs.LaysC.n172 Tryd.prog Tryd.laysC172_ren := {
  mixed := by kernel_rfl
  f129 := Tryd.func48.trans (congrArg some (by kernel_rfl))
  f171 := Tryd.func68.trans (congrArg some (by kernel_rfl))
  f172 := Tryd.func41.trans (congrArg some (by kernel_rfl))
  f205 := Tryd.func36.trans (congrArg some (by kernel_rfl))
  f243 := Tryd.func71.trans (congrArg some (by kernel_rfl))
  f244 := Tryd.func52.trans (congrArg some (by kernel_rfl))
  f245 := Tryd.func53.trans (congrArg some (by kernel_rfl))
  f246 := Tryd.func72.trans (congrArg some (by kernel_rfl))
  f247 := Tryd.func60.trans (congrArg some (by kernel_rfl))
  f279 := Tryd.func61.trans (congrArg some (by kernel_rfl))
  f280 := Tryd.func62.trans (congrArg some (by kernel_rfl))
  f281 := Tryd.func63.trans (congrArg some (by kernel_rfl))
  f282 := Tryd.func64.trans (congrArg some (by kernel_rfl))
  f283 := Tryd.func73.trans (congrArg some (by kernel_rfl))
  f284 := Tryd.func74.trans (congrArg some (by kernel_rfl))
  f285 := Tryd.func75.trans (congrArg some (by kernel_rfl))
  f286 := Tryd.func76.trans (congrArg some (by kernel_rfl))
  f287 := Tryd.func66.trans (congrArg some (by kernel_rfl))
  f316 := Tryd.func67.trans (congrArg some (by kernel_rfl))
  f317 := Tryd.func77.trans (congrArg some (by kernel_rfl))
  f318 := Tryd.func78.trans (congrArg some (by kernel_rfl))
  f319 := Tryd.func79.trans (congrArg some (by kernel_rfl))
  f320 := Tryd.func80.trans (congrArg some (by kernel_rfl))
  f321 := Tryd.func69.trans (congrArg some (by kernel_rfl))
  f322 := Tryd.func70.trans (congrArg some (by kernel_rfl))
  f337 := Tryd.func81.trans (congrArg some (by kernel_rfl))
  f338 := Tryd.func82.trans (congrArg some (by kernel_rfl))
  t0 := Tryd.underlying0
  a0 := Tryd.isAgg0
  z0 := Tryd.sizeOf0
  v0 := Tryd.zeroValue0
  t2 := Tryd.underlying2
  a2 := Tryd.isAgg2
  z2 := Tryd.sizeOf2
  v2 := Tryd.zeroValue2
  t3 := Tryd.underlying3
  a3 := Tryd.isAgg3
  z3 := Tryd.sizeOf3
  v3 := Tryd.zeroValue3
  t4 := Tryd.underlying4
  a4 := Tryd.isAgg4
  z4 := Tryd.sizeOf4
  v4 := Tryd.zeroValue4
  t5 := Tryd.underlying5
  a5 := Tryd.isAgg5
  z5 := Tryd.sizeOf5
  v5 := Tryd.zeroValue5
  t9 := Tryd.underlying9
  a9 := Tryd.isAgg9
  z9 := Tryd.sizeOf9
  v9 := Tryd.zeroValue9
  t20 := Tryd.underlying20
  a20 := Tryd.isAgg20
  z20 := Tryd.sizeOf20
  v20 := Tryd.zeroValue20
  t21 := Tryd.underlying21
  a21 := Tryd.isAgg21
  z21 := Tryd.sizeOf21
  v21 := Tryd.zeroValue21
  t37 := Tryd.underlying27
  a37 := Tryd.isAgg27
  z37 := Tryd.sizeOf27
  v37 := Tryd.zeroValue27
  t46 := Tryd.underlying79
  a46 := Tryd.isAgg79
  z46 := Tryd.sizeOf79
  v46 := Tryd.zeroValue79
  t51 := Tryd.underlying87
  a51 := Tryd.isAgg87
  z51 := Tryd.sizeOf87
  v51 := Tryd.zeroValue87
  t53 := Tryd.underlying43
  a53 := Tryd.isAgg43
  z53 := Tryd.sizeOf43
  v53 := Tryd.zeroValue43
  t75 := Tryd.underlying47
  a75 := Tryd.isAgg47
  z75 := Tryd.sizeOf47
  v75 := Tryd.zeroValue47
  t76 := Tryd.underlying71
  a76 := Tryd.isAgg71
  z76 := Tryd.sizeOf71
  v76 := Tryd.zeroValue71
  t85 := Tryd.underlying103
  a85 := Tryd.isAgg103
  z85 := Tryd.sizeOf103
  v85 := Tryd.zeroValue103
  t127 := Tryd.underlying117
  a127 := Tryd.isAgg117
  z127 := Tryd.sizeOf117
  v127 := Tryd.zeroValue117
  t143 := Tryd.underlying94
  a143 := Tryd.isAgg94
  z143 := Tryd.sizeOf94
  v143 := Tryd.zeroValue94
  t145 := Tryd.underlying96
  a145 := Tryd.isAgg96
  z145 := Tryd.sizeOf96
  v145 := Tryd.zeroValue96
  t167 := Tryd.underlying102
  a167 := Tryd.isAgg102
  z167 := Tryd.sizeOf102
  v167 := Tryd.zeroValue102
  t168 := Tryd.underlying105
  a168 := Tryd.isAgg105
  z168 := Tryd.sizeOf105
  v168 := Tryd.zeroValue105
  t171 := Tryd.underlying119
  a171 := Tryd.isAgg119
  z171 := Tryd.sizeOf119
  v171 := Tryd.zeroValue119
  t173 := Tryd.underlying121
  a173 := Tryd.isAgg121
  z173 := Tryd.sizeOf121
  v173 := Tryd.zeroValue121
  t175 := Tryd.underlying112
  a175 := Tryd.isAgg112
  z175 := Tryd.sizeOf112
  v175 := Tryd.zeroValue112
  t210 := Tryd.underlying115
  a210 := Tryd.isAgg115
  z210 := Tryd.sizeOf115
  v210 := Tryd.zeroValue115
  t212 := Tryd.underlying124
  a212 := Tryd.isAgg124
  z212 := Tryd.sizeOf124
  v212 := Tryd.zeroValue124
  t213 := Tryd.underlying125
  a213 := Tryd.isAgg125
  z213 := Tryd.sizeOf125
  t232 := Tryd.underlying129
  a232 := Tryd.isAgg129
  z232 := Tryd.sizeOf129
  v232 := Tryd.zeroValue129
  t233 := Tryd.underlying130
  a233 := Tryd.isAgg130
  z233 := Tryd.sizeOf130
  v233 := Tryd.zeroValue130
  g15 := by kernel_rfl
  g16 := by kernel_rfl
  g17 := by kernel_rfl
  g18 := by kernel_rfl
  g19 := by kernel_rfl
  t80 := Tryd.underlying77
  a80 := Tryd.isAgg77
  z80 := Tryd.sizeOf77
  v80 := Tryd.zeroValue77
  i0 := by kernel_rfl
  i2 := by kernel_rfl
  i3 := by kernel_rfl
  i4 := by kernel_rfl
  i5 := by kernel_rfl
  i9 := by kernel_rfl
  i20 := by kernel_rfl
  i21 := by kernel_rfl
  i37 := by kernel_rfl
  i46 := by kernel_rfl
  i51 := by kernel_rfl
  i53 := by kernel_rfl
  i75 := by kernel_rfl
  i76 := by kernel_rfl
  i80 := by kernel_rfl
  i85 := by kernel_rfl
  i127 := by kernel_rfl
  i143 := by kernel_rfl
  i145 := by kernel_rfl
  i167 := by kernel_rfl
  i168 := by kernel_rfl
  i171 := by kernel_rfl
  i173 := by kernel_rfl
  i175 := by kernel_rfl
  i210 := by kernel_rfl
  i212 := by kernel_rfl
  i232 := by kernel_rfl
  i233 := by kernel_rfl
  m15 := by kernel_rfl
  m16 := by kernel_rfl
  m17 := by kernel_rfl
  m18 := by kernel_rfl
  m19 := by kernel_rfl
  c0 := by kernel_rfl
  c2 := by kernel_rfl
  c3 := by kernel_rfl
  c4 := by kernel_rfl
  c5 := by kernel_rfl
  c9 := by kernel_rfl
  c20 := by kernel_rfl
  c21 := by kernel_rfl
  c37 := by kernel_rfl
  c46 := by kernel_rfl
  c51 := by kernel_rfl
  c53 := by kernel_rfl
  c75 := by kernel_rfl
  c76 := by kernel_rfl
  c80 := by kernel_rfl
  c85 := by kernel_rfl
  c127 := by kernel_rfl
  c143 := by kernel_rfl
  c145 := by kernel_rfl
  c167 := by kernel_rfl
  c168 := by kernel_rfl
  c171 := by kernel_rfl
  c173 := by kernel_rfl
  c175 := by kernel_rfl
  c210 := by kernel_rfl
  c212 := by kernel_rfl
  c213 := by kernel_rfl
  c232 := by kernel_rfl
  c233 := by kernel_rfl }
open Go.RowKit in
/-- strconv.Atoi, AT EVERY STRING THAT SPELLS AN int ('Lib.atoiAll .. = .ok v'; of whatever length: leading zeros count): v, AND NO ERROR. The world: as it was, or with the one new row that '[]byte(..)' lays. (LAID: no walk: one application.) -/
theorem Tryd.strconv_Atoi_ok (s : ByteArray) (hmax : s.size ≤ 9223372036854775806) (v : Int) (h : Lib.atoiAll s.data.toList = .ok v) (w : World) :
    Calls Tryd.prog 41 #[.string s] w fun e w' => e = .returned (.tuple #[.int .i64 v, .nilIface]) ∧ (w' = w ∨ ∃ t, w' = Lib.bytesWorld w 5 t) := Any.strconv_Atoi_ok Tryd.laysC172 s hmax v h w
end Go.Proofs
