/-
 DERIVED: THE SHELF's CONTRACTS AT THIS DUMP, IN PLAIN WORDS (tools/lay-plain.mjs out of 'YtmfgkidppchobaaDoorShelf.lean', which tools/lay-shelf.mjs wrote): THE SAME DECLARATIONS UNDER THE SAME NAMES: 'import', 'namespace', 'open', 'def', 'theorem' AND NOTHING ELSE: no command of the shelf's: FOR A HAND-IN. Each laying: the table of numbers ('.._ren') and one theorem, a field a fact of the dump's own or the kernel's comparison; each contract: ONE APPLICATION.
-/
import Derived.Shelf.Small.Strs
import Derived.Shelf.Strconv.Atoi
import Derived.Shelf.Strconv.Itoa0
import Derived.Shelf.Strconv.Itoa1
import Derived.Shelf.LaysM
import Derived.Shelf.Strconv.Itoa2
import Derived.Shelf.Bytes.Len
import Derived.Shelf.Bytes.TryGrow
import Derived.Shelf.Bytes.GrowSliceCatch
import Derived.Shelf.Bytes.GrowSlice
import Derived.Shelf.Bytes.String
import Derived.Shelf.Strconv.AtoiErrFast
import Derived.Shelf.Strconv.ParseIntEmpty
import Derived.Shelf.Strconv.AtoiFail
import Derived.Shelf.Strconv.Clone
import Derived.Shelf.Strconv.SyntaxError
import Derived.Shelf.LaysC
import Derived.Shelf.Strconv.ToError
import Derived.Shelf.Strconv.Lower
import Derived.Shelf.Strconv.ParseUint10
import Derived.Shelf.Strconv.ParseUint10Empty
import Derived.Shelf.Strconv.ParseUint10Any
import Derived.Shelf.Strconv.ParseInt10
import Derived.Shelf.Strconv.AtoiLong
import Derived.Shelf.Strconv.AtoiInnerAll
import Derived.Shelf.Strconv.RangeError
import Derived.Shelf.Strconv.ToErrorRange
import Derived.Shelf.Strconv.AtoiAll
import Derived.Shelf.Strconv.ErrVarAll
import Derived.Shelf.Strconv.ParseUintEmpty
import Derived.Shelf.Strconv.ParseUint10b64
import Derived.Shelf.Strconv.ParseUint10b32
import Derived.Shelf.Strconv.ParseUint10b16
import Derived.Shelf.Strconv.ParseUint10b8
import Derived.Shelf.Strconv.ParseUint10At
import Derived.Shelf.Strconv.ParseInt10At64
import Derived.Shelf.Strconv.ParseInt10At32
import Derived.Shelf.Strconv.ParseInt10At16
import Derived.Shelf.Strconv.ParseInt10At8
import Derived.Shelf.Strconv.ParseInt10All
import Derived.Ground.MpProg
import Derived.Shelf.Pu.ParseUintPublic10
import Derived.Shelf.Pu.ErrVarParseUint
import Derived.Shelf.Bytes.GrowRow0Kept
import Derived.Shelf.Bytes.GrowRowKept
import Derived.Shelf.Bytes.GrowNilKept
import Derived.Shelf.Bytes.GrowKept
import Derived.Shelf.Bytes.WriteStringKept
import Derived.Shelf.Bytes.ResetKept
import Derived.Shelf.Bytes.BufferK
import Derived.Shelf.Strings.Prefix
import Derived.Test.YtmfgkidppchobaaDoorProg
namespace Go.Proofs
open Go.Shelf
open Go.RowKit in
def Tryd.lays283_ren : Go.Shelf.Ren := ⟨fun | 283 => 104 | n => n, fun | 3 => 3 | 9 => 9 | 4 => 4 | n => n, fun | n => n⟩
theorem Tryd.lays283 : Go.Proofs.Lays.n283 Tryd.prog Tryd.lays283_ren := {
 mixed := by kernel_rfl
 f283 := Tryd.func104.trans (congrArg some (by kernel_rfl))
 t3 := Tryd.underlying3
 a3 := Tryd.isAgg3
 z3 := Tryd.sizeOf3
 v3 := Tryd.zeroValue3
 t4 := Tryd.underlying4
 a4 := Tryd.isAgg4
 z4 := Tryd.sizeOf4
 v4 := Tryd.zeroValue4
 t9 := Tryd.underlying9
 a9 := Tryd.isAgg9
 z9 := Tryd.sizeOf9
 v9 := Tryd.zeroValue9 }
open Go.Lib in
theorem Tryd.internal_strconv_small (i : Nat) (h : i < 100) (w : World) :
  Calls Tryd.prog 104 #[.int .i64 i] w fun e w' => e = .returned (.string ⟨(Lib.decDigits i).toArray⟩) ∧ w' = w := Any.internal_strconv_small Tryd.lays283 i h w
def Tryd.laysM284_ren : Go.Shelf.Ren := ⟨fun | 284 => 105 | 129 => 115 | 317 => 114 | 318 => 116 | n => n, fun | 53 => 94 | 3 => 3 | 212 => 129 | 0 => 0 | 4 => 4 | 46 => 36 | 5 => 5 | 9 => 9 | n => n, fun | 17 => 4 | n => n⟩
theorem Tryd.laysM284 : Go.Proofs.LaysM.n284 Tryd.prog Tryd.laysM284_ren := {
 mixed := by kernel_rfl
 f129 := Tryd.func115.trans (congrArg some (by kernel_rfl))
 f284 := Tryd.func105.trans (congrArg some (by kernel_rfl))
 f317 := Tryd.func114.trans (congrArg some (by kernel_rfl))
 f318 := Tryd.func116.trans (congrArg some (by kernel_rfl))
 t0 := Tryd.underlying0
 a0 := Tryd.isAgg0
 z0 := Tryd.sizeOf0
 v0 := Tryd.zeroValue0
 t3 := Tryd.underlying3
 a3 := Tryd.isAgg3
 z3 := Tryd.sizeOf3
 v3 := Tryd.zeroValue3
 t4 := Tryd.underlying4
 a4 := Tryd.isAgg4
 z4 := Tryd.sizeOf4
 v4 := Tryd.zeroValue4
 t5 := Tryd.underlying5
 a5 := Tryd.isAgg5
 z5 := Tryd.sizeOf5
 v5 := Tryd.zeroValue5
 t9 := Tryd.underlying9
 a9 := Tryd.isAgg9
 z9 := Tryd.sizeOf9
 v9 := Tryd.zeroValue9
 t46 := Tryd.underlying36
 a46 := Tryd.isAgg36
 z46 := Tryd.sizeOf36
 v46 := Tryd.zeroValue36
 t53 := Tryd.underlying94
 a53 := Tryd.isAgg94
 z53 := Tryd.sizeOf94
 v53 := Tryd.zeroValue94
 t212 := Tryd.underlying129
 a212 := Tryd.isAgg129
 z212 := Tryd.sizeOf129
 v212 := Tryd.zeroValue129
 g17 := by kernel_rfl
 i0 := by kernel_rfl
 i3 := by kernel_rfl
 i4 := by kernel_rfl
 i5 := by kernel_rfl
 i9 := by kernel_rfl
 i46 := by kernel_rfl
 i53 := by kernel_rfl
 i212 := by kernel_rfl
 m17 := by kernel_rfl }
open Go.Lib in
theorem Tryd.internal_strconv_numDigits (u : Nat) (h1 : 1 ≤ u) (h2 : u < 18446744073709551616) (w : World) (htab : Lib.TabIs Tryd.prog w "internal/strconv.uint64pow10" .u64 Lib.pow10Tab) :
  Calls Tryd.prog 105 #[.int .u64 u] w fun e w' => e = .returned (.int .i64 (Lib.nDigits u)) ∧ w' = w := Any.internal_strconv_numDigits Tryd.laysM284 u h1 h2 w htab
def Tryd.lays285_ren : Go.Shelf.Ren := ⟨fun | 285 => 106 | n => n, fun | 37 => 91 | 53 => 94 | 3 => 3 | 4 => 4 | 51 => 37 | 9 => 9 | 5 => 5 | 0 => 0 | n => n, fun | n => n⟩
theorem Tryd.lays285 : Go.Proofs.Lays.n285 Tryd.prog Tryd.lays285_ren := {
 mixed := by kernel_rfl
 f285 := Tryd.func106.trans (congrArg some (by kernel_rfl))
 t0 := Tryd.underlying0
 a0 := Tryd.isAgg0
 z0 := Tryd.sizeOf0
 v0 := Tryd.zeroValue0
 t3 := Tryd.underlying3
 a3 := Tryd.isAgg3
 z3 := Tryd.sizeOf3
 v3 := Tryd.zeroValue3
 t4 := Tryd.underlying4
 a4 := Tryd.isAgg4
 z4 := Tryd.sizeOf4
 v4 := Tryd.zeroValue4
 t5 := Tryd.underlying5
 a5 := Tryd.isAgg5
 z5 := Tryd.sizeOf5
 v5 := Tryd.zeroValue5
 t9 := Tryd.underlying9
 a9 := Tryd.isAgg9
 z9 := Tryd.sizeOf9
 v9 := Tryd.zeroValue9
 t37 := Tryd.underlying91
 a37 := Tryd.isAgg91
 z37 := Tryd.sizeOf91
 v37 := Tryd.zeroValue91
 t51 := Tryd.underlying37
 a51 := Tryd.isAgg37
 z51 := Tryd.sizeOf37
 v51 := Tryd.zeroValue37
 t53 := Tryd.underlying94
 a53 := Tryd.isAgg94
 z53 := Tryd.sizeOf94
 v53 := Tryd.zeroValue94 }
open Go.RowKit Go.Sort Go.Lib in
theorem Tryd.internal_strconv_formatBase10 (blk off cap : Nat) (u : Nat) (d : Array UInt8) (w : World) (hH : Holds (fun (b : UInt8) => Value.int .u8 (b.toNat : Int)) w blk off d) (hu : u < 10 ^ d.size) (hu64 : u < 18446744073709551616) (hsz : d.size < 4611686018427387904) :
  Calls Tryd.prog 106 #[.slice (some ⟨blk, off, none⟩) d.size cap, .int .u64 u] w fun e w' =>
   e = .returned (.tuple #[]) ∧ ∃ (n v' : Nat) (dk : Array UInt8), w' = (putRow (fun (b : UInt8) => Value.int .u8 (b.toNat : Int)) w blk off dk).drewN n ∧ FmtInv d.size u 0 v' dk := Any.internal_strconv_formatBase10 Tryd.lays285 blk off cap u d w hH hu hu64 hsz
def Tryd.laysM182_ren : Go.Shelf.Ren := ⟨fun | 182 => 79 | n => n, fun | 130 => 111 | 9 => 9 | 4 => 4 | 0 => 0 | 93 => 101 | 37 => 91 | 3 => 3 | 91 => 99 | 5 => 5 | n => n, fun | n => n⟩
theorem Tryd.laysM182 : Go.Proofs.LaysM.n182 Tryd.prog Tryd.laysM182_ren := {
 mixed := by kernel_rfl
 f182 := Tryd.func79.trans (congrArg some (by kernel_rfl))
 t0 := Tryd.underlying0
 a0 := Tryd.isAgg0
 z0 := Tryd.sizeOf0
 v0 := Tryd.zeroValue0
 t3 := Tryd.underlying3
 a3 := Tryd.isAgg3
 z3 := Tryd.sizeOf3
 v3 := Tryd.zeroValue3
 t4 := Tryd.underlying4
 a4 := Tryd.isAgg4
 z4 := Tryd.sizeOf4
 v4 := Tryd.zeroValue4
 t9 := Tryd.underlying9
 a9 := Tryd.isAgg9
 z9 := Tryd.sizeOf9
 v9 := Tryd.zeroValue9
 t37 := Tryd.underlying91
 a37 := Tryd.isAgg91
 z37 := Tryd.sizeOf91
 v37 := Tryd.zeroValue91
 t93 := Tryd.underlying101
 a93 := Tryd.isAgg101
 z93 := Tryd.sizeOf101
 v93 := Tryd.zeroValue101
 t130 := Tryd.underlying111
 a130 := Tryd.isAgg111
 z130 := Tryd.sizeOf111
 v130 := Tryd.zeroValue111
 t5 := Tryd.underlying5
 a5 := Tryd.isAgg5
 z5 := Tryd.sizeOf5
 v5 := Tryd.zeroValue5
 t91 := Tryd.underlying99
 a91 := Tryd.isAgg99
 z91 := Tryd.sizeOf99
 v91 := Tryd.zeroValue99
 i0 := by kernel_rfl
 i3 := by kernel_rfl
 i4 := by kernel_rfl
 i5 := by kernel_rfl
 i9 := by kernel_rfl
 i37 := by kernel_rfl
 i91 := by kernel_rfl
 i93 := by kernel_rfl
 i130 := by kernel_rfl }
open Go.RowKit in
theorem Tryd.Buffer_String (B b : Nat) (l : List UInt8) (w : World) (h : Lib.IsBuffer 101 5 B b (Lib.byteCells l) w) :
  Calls Tryd.prog 79 #[.pointer (some ⟨b, 0, none⟩)] w fun e w' => e = .returned (.string ⟨l.toArray⟩) ∧ ∃ n, w' = w.drewN n := Any.Buffer_String Tryd.laysM182 B b l w h
open Go.RowKit in
open Go.RowKit in
open Go.RowKit in
def Tryd.laysPu14_ren : Go.Shelf.Ren := ⟨fun | 14 => 74 | 16 => 86 | 17 => 87 | 19 => 95 | 20 => 96 | 21 => 97 | 22 => 98 | 23 => 99 | 24 => 100 | 25 => 111 | 27 => 112 | 26 => 71 | 28 => 120 | 29 => 123 | 30 => 104 | 31 => 105 | 32 => 106 | 33 => 107 | 35 => 115 | 34 => 114 | 36 => 116 | 37 => 117 | 38 => 118 | 39 => 121 | 40 => 122 | n => n, fun | 9 => 9 | 3 => 3 | 22 => 94 | 24 => 64 | 25 => 95 | 4 => 4 | 34 => 113 | 5 => 5 | 36 => 36 | 37 => 91 | 0 => 0 | 39 => 115 | 21 => 21 | 44 => 127 | 47 => 135 | 50 => 109 | 48 => 107 | 2 => 2 | 52 => 121 | 55 => 124 | 59 => 129 | 60 => 37 | 20 => 20 | 61 => 130 | 65 => 138 | 66 => 139 | 67 => 40 | n => n, fun | 0 => 2 | 1 => 3 | 2 => 4 | 3 => 5 | 4 => 6 | n => n⟩
theorem Tryd.laysPu14 : Go.Proofs.LaysPu.n14 Tryd.prog Tryd.laysPu14_ren := {
 mixed := by kernel_rfl
 f14 := Tryd.func74.trans (congrArg some (by kernel_rfl))
 f16 := Tryd.func86.trans (congrArg some (by kernel_rfl))
 f17 := Tryd.func87.trans (congrArg some (by kernel_rfl))
 f19 := Tryd.func95.trans (congrArg some (by kernel_rfl))
 f20 := Tryd.func96.trans (congrArg some (by kernel_rfl))
 f21 := Tryd.func97.trans (congrArg some (by kernel_rfl))
 f22 := Tryd.func98.trans (congrArg some (by kernel_rfl))
 f23 := Tryd.func99.trans (congrArg some (by kernel_rfl))
 f24 := Tryd.func100.trans (congrArg some (by kernel_rfl))
 f25 := Tryd.func111.trans (congrArg some (by kernel_rfl))
 f26 := Tryd.func71.trans (congrArg some (by kernel_rfl))
 f27 := Tryd.func112.trans (congrArg some (by kernel_rfl))
 f28 := Tryd.func120.trans (congrArg some (by kernel_rfl))
 f29 := Tryd.func123.trans (congrArg some (by kernel_rfl))
 f30 := Tryd.func104.trans (congrArg some (by kernel_rfl))
 f31 := Tryd.func105.trans (congrArg some (by kernel_rfl))
 f32 := Tryd.func106.trans (congrArg some (by kernel_rfl))
 f33 := Tryd.func107.trans (congrArg some (by kernel_rfl))
 f34 := Tryd.func114.trans (congrArg some (by kernel_rfl))
 f35 := Tryd.func115.trans (congrArg some (by kernel_rfl))
 f36 := Tryd.func116.trans (congrArg some (by kernel_rfl))
 f37 := Tryd.func117.trans (congrArg some (by kernel_rfl))
 f38 := Tryd.func118.trans (congrArg some (by kernel_rfl))
 f39 := Tryd.func121.trans (congrArg some (by kernel_rfl))
 f40 := Tryd.func122.trans (congrArg some (by kernel_rfl))
 t0 := Tryd.underlying0
 a0 := Tryd.isAgg0
 z0 := Tryd.sizeOf0
 v0 := Tryd.zeroValue0
 i0 := by kernel_rfl
 t2 := Tryd.underlying2
 a2 := Tryd.isAgg2
 z2 := Tryd.sizeOf2
 v2 := Tryd.zeroValue2
 i2 := by kernel_rfl
 t3 := Tryd.underlying3
 a3 := Tryd.isAgg3
 z3 := Tryd.sizeOf3
 v3 := Tryd.zeroValue3
 i3 := by kernel_rfl
 t4 := Tryd.underlying4
 a4 := Tryd.isAgg4
 z4 := Tryd.sizeOf4
 v4 := Tryd.zeroValue4
 i4 := by kernel_rfl
 t5 := Tryd.underlying5
 a5 := Tryd.isAgg5
 z5 := Tryd.sizeOf5
 v5 := Tryd.zeroValue5
 i5 := by kernel_rfl
 t9 := Tryd.underlying9
 a9 := Tryd.isAgg9
 z9 := Tryd.sizeOf9
 v9 := Tryd.zeroValue9
 i9 := by kernel_rfl
 t20 := Tryd.underlying20
 a20 := Tryd.isAgg20
 z20 := Tryd.sizeOf20
 v20 := Tryd.zeroValue20
 i20 := by kernel_rfl
 t21 := Tryd.underlying21
 a21 := Tryd.isAgg21
 z21 := Tryd.sizeOf21
 v21 := Tryd.zeroValue21
 i21 := by kernel_rfl
 t22 := Tryd.underlying94
 a22 := Tryd.isAgg94
 z22 := Tryd.sizeOf94
 v22 := Tryd.zeroValue94
 i22 := by kernel_rfl
 t24 := Tryd.underlying64
 a24 := Tryd.isAgg64
 z24 := Tryd.sizeOf64
 v24 := Tryd.zeroValue64
 i24 := by kernel_rfl
 t25 := Tryd.underlying95
 a25 := Tryd.isAgg95
 z25 := Tryd.sizeOf95
 v25 := Tryd.zeroValue95
 i25 := by kernel_rfl
 t34 := Tryd.underlying113
 a34 := Tryd.isAgg113
 z34 := Tryd.sizeOf113
 v34 := Tryd.zeroValue113
 i34 := by kernel_rfl
 c34 := by kernel_rfl
 t36 := Tryd.underlying36
 a36 := Tryd.isAgg36
 z36 := Tryd.sizeOf36
 v36 := Tryd.zeroValue36
 i36 := by kernel_rfl
 t37 := Tryd.underlying91
 a37 := Tryd.isAgg91
 z37 := Tryd.sizeOf91
 v37 := Tryd.zeroValue91
 i37 := by kernel_rfl
 t39 := Tryd.underlying115
 a39 := Tryd.isAgg115
 z39 := Tryd.sizeOf115
 v39 := Tryd.zeroValue115
 i39 := by kernel_rfl
 t44 := Tryd.underlying127
 a44 := Tryd.isAgg127
 z44 := Tryd.sizeOf127
 v44 := Tryd.zeroValue127
 i44 := by kernel_rfl
 t47 := Tryd.underlying135
 a47 := Tryd.isAgg135
 z47 := Tryd.sizeOf135
 v47 := Tryd.zeroValue135
 i47 := by kernel_rfl
 t48 := Tryd.underlying107
 a48 := Tryd.isAgg107
 z48 := Tryd.sizeOf107
 v48 := Tryd.zeroValue107
 i48 := by kernel_rfl
 t50 := Tryd.underlying109
 a50 := Tryd.isAgg109
 z50 := Tryd.sizeOf109
 v50 := Tryd.zeroValue109
 i50 := by kernel_rfl
 t52 := Tryd.underlying121
 a52 := Tryd.isAgg121
 z52 := Tryd.sizeOf121
 v52 := Tryd.zeroValue121
 i52 := by kernel_rfl
 t55 := Tryd.underlying124
 a55 := Tryd.isAgg124
 z55 := Tryd.sizeOf124
 v55 := Tryd.zeroValue124
 i55 := by kernel_rfl
 t59 := Tryd.underlying129
 a59 := Tryd.isAgg129
 z59 := Tryd.sizeOf129
 v59 := Tryd.zeroValue129
 i59 := by kernel_rfl
 t60 := Tryd.underlying37
 a60 := Tryd.isAgg37
 z60 := Tryd.sizeOf37
 v60 := Tryd.zeroValue37
 i60 := by kernel_rfl
 t61 := Tryd.underlying130
 a61 := Tryd.isAgg130
 z61 := Tryd.sizeOf130
 t65 := Tryd.underlying138
 a65 := Tryd.isAgg138
 z65 := Tryd.sizeOf138
 v65 := Tryd.zeroValue138
 i65 := by kernel_rfl
 t66 := Tryd.underlying139
 a66 := Tryd.isAgg139
 z66 := Tryd.sizeOf139
 v66 := Tryd.zeroValue139
 i66 := by kernel_rfl
 t67 := Tryd.underlying40
 a67 := Tryd.isAgg40
 z67 := Tryd.sizeOf40
 v67 := Tryd.zeroValue40
 i67 := by kernel_rfl
 g0 := by kernel_rfl
 m0 := by kernel_rfl
 g1 := by kernel_rfl
 m1 := by kernel_rfl
 g2 := by kernel_rfl
 m2 := by kernel_rfl
 g3 := by kernel_rfl
 m3 := by kernel_rfl
 g4 := by kernel_rfl
 m4 := by kernel_rfl }
open Go.RowKit in
theorem Tryd.strconv_ParseUint_10_at0_ok (s : ByteArray) (hmax : s.size ≤ 9223372036854775806) (u : Nat) (h : Lib.parseUintB 64 s.data.toList = .ok u) (w : World) :
  Calls Tryd.prog 74 #[.string s, .int .i64 10, .int .i64 0] w fun e w' => e = .returned (.tuple #[.int .u64 u, .nilIface]) ∧ (w' = w ∨ w' = Lib.bytesWorld w 5 s) := Any.strconv_ParseUint_10_at0_ok Tryd.laysPu14 s hmax u h w
open Go.RowKit in
theorem Tryd.strconv_ParseUint_10_at0_syntax (s : ByteArray) (hlim : s.size ≤ 281474976710656) (h : (∀ v, Lib.parseUintB 64 s.data.toList ≠ .ok v) ∧ Lib.parseUintB 64 s.data.toList ≠ .range) (ev : Value) (w : World) (hv : w.cell? ⟨2, 0, none⟩ = some ev) (hev : ev = .nilIface ∨ ∃ te pe, ev = .iface te pe) :
  Calls Tryd.prog 74 #[.string s, .int .i64 10, .int .i64 0] w fun e w' => ∃ N, e = .returned (.tuple #[.int .u64 0, .iface 115 (.pointer (some ⟨N, 0, none⟩))]) ∧ w.heap.size ≤ N ∧ w'.heap[N]? = some (.cells #[.string ⟨#[80, 97, 114, 115, 101, 85, 105, 110, 116]⟩, .string s, ev] 127 (0, 0)) ∧ Below w.heap.size w w' := by
 cases hq : Lib.parseUintB 64 s.data.toList with
 | ok v => exact absurd hq (h.1 v)
 | range => exact absurd hq h.2
 | _ => exact Any.strconv_ParseUint_10_at0_syntax Tryd.laysPu14 s hlim hq ev w hv hev
open Go.RowKit in
theorem Tryd.strconv_ParseUint_10_at0_range (s : ByteArray) (hlim : s.size ≤ 281474976710656) (h : Lib.parseUintB 64 s.data.toList = .range) (ev : Value) (w : World) (hv : w.cell? ⟨3, 0, none⟩ = some ev) (hev : ev = .nilIface ∨ ∃ te pe, ev = .iface te pe) :
  Calls Tryd.prog 74 #[.string s, .int .i64 10, .int .i64 0] w fun e w' => ∃ N, e = .returned (.tuple #[.int .u64 18446744073709551615, .iface 115 (.pointer (some ⟨N, 0, none⟩))]) ∧ w.heap.size ≤ N ∧ w'.heap[N]? = some (.cells #[.string ⟨#[80, 97, 114, 115, 101, 85, 105, 110, 116]⟩, .string s, ev] 127 (0, 0)) ∧ Below w.heap.size w w' := Any.strconv_ParseUint_10_at0_range Tryd.laysPu14 s hlim h ev w hv hev
def Tryd.laysM178_ren : Go.Shelf.Ren := ⟨fun | 178 => 77 | 251 => 89 | 252 => 90 | 181 => 101 | 184 => 102 | 290 => 103 | 324 => 113 | n => n, fun | 130 => 111 | 9 => 9 | 3 => 3 | 75 => 64 | 0 => 0 | 93 => 101 | 91 => 99 | 131 => 28 | 4 => 4 | 37 => 91 | 20 => 20 | 80 => 40 | 5 => 5 | n => n, fun | 14 => 0 | n => n⟩
theorem Tryd.laysM178 : Go.Proofs.LaysM.n178 Tryd.prog Tryd.laysM178_ren := {
 mixed := by kernel_rfl
 f178 := Tryd.func77.trans (congrArg some (by kernel_rfl))
 f181 := Tryd.func101.trans (congrArg some (by kernel_rfl))
 f184 := Tryd.func102.trans (congrArg some (by kernel_rfl))
 f251 := Tryd.func89.trans (congrArg some (by kernel_rfl))
 f252 := Tryd.func90.trans (congrArg some (by kernel_rfl))
 f290 := Tryd.func103.trans (congrArg some (by kernel_rfl))
 f324 := Tryd.func113.trans (congrArg some (by kernel_rfl))
 t0 := Tryd.underlying0
 a0 := Tryd.isAgg0
 z0 := Tryd.sizeOf0
 v0 := Tryd.zeroValue0
 t3 := Tryd.underlying3
 a3 := Tryd.isAgg3
 z3 := Tryd.sizeOf3
 v3 := Tryd.zeroValue3
 t4 := Tryd.underlying4
 a4 := Tryd.isAgg4
 z4 := Tryd.sizeOf4
 v4 := Tryd.zeroValue4
 t9 := Tryd.underlying9
 a9 := Tryd.isAgg9
 z9 := Tryd.sizeOf9
 v9 := Tryd.zeroValue9
 t20 := Tryd.underlying20
 a20 := Tryd.isAgg20
 z20 := Tryd.sizeOf20
 v20 := Tryd.zeroValue20
 t37 := Tryd.underlying91
 a37 := Tryd.isAgg91
 z37 := Tryd.sizeOf91
 v37 := Tryd.zeroValue91
 t75 := Tryd.underlying64
 a75 := Tryd.isAgg64
 z75 := Tryd.sizeOf64
 v75 := Tryd.zeroValue64
 t91 := Tryd.underlying99
 a91 := Tryd.isAgg99
 z91 := Tryd.sizeOf99
 v91 := Tryd.zeroValue99
 t93 := Tryd.underlying101
 a93 := Tryd.isAgg101
 z93 := Tryd.sizeOf101
 v93 := Tryd.zeroValue101
 t130 := Tryd.underlying111
 a130 := Tryd.isAgg111
 z130 := Tryd.sizeOf111
 v130 := Tryd.zeroValue111
 t131 := Tryd.underlying28
 a131 := Tryd.isAgg28
 z131 := Tryd.sizeOf28
 v131 := Tryd.zeroValue28
 g14 := by kernel_rfl
 t5 := Tryd.underlying5
 a5 := Tryd.isAgg5
 z5 := Tryd.sizeOf5
 v5 := Tryd.zeroValue5
 t80 := Tryd.underlying40
 a80 := Tryd.isAgg40
 z80 := Tryd.sizeOf40
 v80 := Tryd.zeroValue40
 i0 := by kernel_rfl
 i3 := by kernel_rfl
 i4 := by kernel_rfl
 i5 := by kernel_rfl
 i9 := by kernel_rfl
 i20 := by kernel_rfl
 i37 := by kernel_rfl
 i75 := by kernel_rfl
 i80 := by kernel_rfl
 i91 := by kernel_rfl
 i93 := by kernel_rfl
 i130 := by kernel_rfl
 i131 := by kernel_rfl
 m14 := by kernel_rfl }
open Go.RowKit in
theorem Tryd.Buffer_WriteString_k (B b : Nat) (bs : List Value) (s : ByteArray) (w : World) (h : Lib.IsBuffer 101 5 B b bs w) (hBw : B ≤ w.heap.size) (h1 : ∀ v ∈ bs, v.oneCell' = true) (hlim : bs.length + s.size ≤ 140737488355328) :
  Calls Tryd.prog 77 #[.pointer (some ⟨b, 0, none⟩), .string s] w fun e w' => e = .returned (.tuple #[.int .i64 s.size, .nilIface]) ∧ Lib.IsBuffer 101 5 B b (bs ++ Lib.byteCells s.data.toList) w' ∧ Below B w w' ∧ Lib.OthersKept 5 (some b) w w' := Any.Buffer_WriteString_k Tryd.laysM178 B b bs s w h hBw h1 hlim
def Tryd.lays99_ren : Go.Shelf.Ren := ⟨fun | 99 => 73 | 206 => 85 | n => n, fun | 9 => 9 | 4 => 4 | 3 => 3 | n => n, fun | n => n⟩
theorem Tryd.lays99 : Go.Proofs.Lays.n99 Tryd.prog Tryd.lays99_ren := {
 mixed := by kernel_rfl
 f99 := Tryd.func73.trans (congrArg some (by kernel_rfl))
 f206 := Tryd.func85.trans (congrArg some (by kernel_rfl))
 t3 := Tryd.underlying3
 a3 := Tryd.isAgg3
 z3 := Tryd.sizeOf3
 v3 := Tryd.zeroValue3
 t4 := Tryd.underlying4
 a4 := Tryd.isAgg4
 z4 := Tryd.sizeOf4
 v4 := Tryd.zeroValue4
 t9 := Tryd.underlying9
 a9 := Tryd.isAgg9
 z9 := Tryd.sizeOf9
 v9 := Tryd.zeroValue9 }
open Go.RowKit Go.Lib in
theorem Tryd.strings_HasPrefix (s p : ByteArray) (w : World) :
  Calls Tryd.prog 73 #[.string s, .string p] w fun e w' => e = .returned (.bool (Lib.hasPrefix s.data.toList p.data.toList)) ∧ w' = w := Any.strings_HasPrefix Tryd.lays99 s p w
end Go.Proofs

