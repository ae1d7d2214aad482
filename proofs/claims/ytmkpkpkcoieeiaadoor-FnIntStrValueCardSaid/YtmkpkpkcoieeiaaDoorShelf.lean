/-
  DERIVED: THE SHELF's CONTRACTS AT THIS DUMP, IN PLAIN WORDS (tools/lay-plain.mjs out of 'YtmkpkpkcoieeiaaDoorShelf.lean', which tools/lay-shelf.mjs wrote): THE SAME DECLARATIONS UNDER THE SAME NAMES: 'import', 'namespace', 'open', 'def', 'theorem' AND NOTHING ELSE: no command of the shelf's: FOR A HAND-IN. Each laying: the table of numbers ('.._ren') and one theorem, a field a fact of the dump's own or the kernel's comparison; each contract: ONE APPLICATION.
-/
import Derived.Shelf.Small.Strs
import Derived.Shelf.Strconv.Atoi
import Derived.Shelf.Strconv.AtoiErrFast
import Derived.Shelf.Strconv.ParseIntEmpty
import Derived.Shelf.Strconv.AtoiFail
import Derived.Shelf.LaysM
import Derived.Shelf.Strconv.Clone
import Derived.Shelf.Strconv.SyntaxError
import Derived.Shelf.LaysC
import Derived.Shelf.Strconv.ToError
import Derived.Shelf.Strconv.Lower
import Derived.Shelf.Strconv.ParseUint10
import Derived.Shelf.Strconv.ParseUint10Empty
import Derived.Shelf.Strconv.ParseUint10Any
import Derived.Shelf.Strconv.ParseInt10
import Derived.Shelf.Strconv.AtoiLong
import Derived.Shelf.Strconv.AtoiInnerAll
import Derived.Shelf.Strconv.RangeError
import Derived.Shelf.Strconv.ToErrorRange
import Derived.Shelf.Strconv.AtoiAll
import Derived.Shelf.Strconv.ErrVarAll
import Derived.Shelf.Strconv.ParseUintEmpty
import Derived.Shelf.Strconv.ParseUint10b64
import Derived.Shelf.Strconv.ParseUint10b32
import Derived.Shelf.Strconv.ParseUint10b16
import Derived.Shelf.Strconv.ParseUint10b8
import Derived.Shelf.Strconv.ParseUint10At
import Derived.Shelf.Strconv.ParseInt10At64
import Derived.Shelf.Strconv.ParseInt10At32
import Derived.Shelf.Strconv.ParseInt10At16
import Derived.Shelf.Strconv.ParseInt10At8
import Derived.Shelf.Strconv.ParseInt10All
import Derived.Shelf.Strconv.ParseIntPublic10
import Derived.Shelf.Strconv.ErrVarParseInt
import Derived.Test.YtmkpkpkcoieeiaaDoorProg
namespace Go.Proofs
open Go.Shelf
def Tryd.lays106_ren : Go.Shelf.Ren := ⟨fun | 106 => 29 | 213 => 37 | 265 => 45 | n => n, fun | 9 => 9 | 3 => 3 | n => n, fun | n => n⟩
theorem Tryd.lays106 : Go.Proofs.Lays.n106 Tryd.prog Tryd.lays106_ren := {
  mixed := by kernel_rfl
  f106 := Tryd.func29.trans (congrArg some (by kernel_rfl))
  f213 := Tryd.func37.trans (congrArg some (by kernel_rfl))
  f265 := Tryd.func45.trans (congrArg some (by kernel_rfl))
  t3 := Tryd.underlying3
  a3 := Tryd.isAgg3
  z3 := Tryd.sizeOf3
  v3 := Tryd.zeroValue3
  t9 := Tryd.underlying9
  a9 := Tryd.isAgg9
  z9 := Tryd.sizeOf9
  v9 := Tryd.zeroValue9 }
open Go.RowKit in
/-- strings.Compare: "Compare returns an integer comparing two strings lexicographically. The result will be 0 if a == b, -1 if a < b, and +1 if a > b.": IT RETURNS 'Lib.compareBytes a b'; the world is as it was. (LAID: no walk: one application.) -/
theorem Tryd.strings_Compare (a b : ByteArray) (w : World) :
    Calls Tryd.prog 29 #[.string a, .string b] w fun e w' => e = .returned (.int .i64 (Lib.compareBytes a.data.toList b.data.toList)) ∧ w' = w := Any.strings_Compare Tryd.lays106 a b w
def Tryd.laysC172_ren : Go.Shelf.Ren := ⟨fun | 172 => 27 | 244 => 35 | 245 => 34 | 247 => 33 | 279 => 40 | 280 => 41 | 281 => 42 | 282 => 43 | 287 => 39 | 316 => 48 | 171 => 50 | 205 => 49 | 321 => 46 | 322 => 47 | 243 => 51 | 246 => 52 | 283 => 53 | 284 => 54 | 285 => 55 | 286 => 56 | 129 => 58 | 317 => 57 | 318 => 59 | 319 => 60 | 320 => 61 | 337 => 62 | 338 => 63 | n => n, fun | 9 => 9 | 3 => 3 | 75 => 50 | 76 => 54 | 4 => 4 | 5 => 5 | 167 => 65 | 37 => 46 | 0 => 0 | 85 => 51 | 2 => 2 | 168 => 69 | 53 => 66 | 175 => 67 | 46 => 32 | 210 => 76 | 127 => 79 | 145 => 82 | 143 => 80 | 21 => 21 | 171 => 84 | 173 => 87 | 212 => 90 | 51 => 30 | 20 => 20 | 213 => 91 | 232 => 95 | 233 => 96 | 80 => 97 | n => n, fun | 15 => 1 | 16 => 2 | 17 => 3 | 18 => 4 | 19 => 5 | n => n⟩
theorem Tryd.laysC172 : Go.Proofs.LaysC.n172 Tryd.prog Tryd.laysC172_ren := {
  mixed := by kernel_rfl
  f129 := Tryd.func58.trans (congrArg some (by kernel_rfl))
  f171 := Tryd.func50.trans (congrArg some (by kernel_rfl))
  f172 := Tryd.func27.trans (congrArg some (by kernel_rfl))
  f205 := Tryd.func49.trans (congrArg some (by kernel_rfl))
  f243 := Tryd.func51.trans (congrArg some (by kernel_rfl))
  f244 := Tryd.func35.trans (congrArg some (by kernel_rfl))
  f245 := Tryd.func34.trans (congrArg some (by kernel_rfl))
  f246 := Tryd.func52.trans (congrArg some (by kernel_rfl))
  f247 := Tryd.func33.trans (congrArg some (by kernel_rfl))
  f279 := Tryd.func40.trans (congrArg some (by kernel_rfl))
  f280 := Tryd.func41.trans (congrArg some (by kernel_rfl))
  f281 := Tryd.func42.trans (congrArg some (by kernel_rfl))
  f282 := Tryd.func43.trans (congrArg some (by kernel_rfl))
  f283 := Tryd.func53.trans (congrArg some (by kernel_rfl))
  f284 := Tryd.func54.trans (congrArg some (by kernel_rfl))
  f285 := Tryd.func55.trans (congrArg some (by kernel_rfl))
  f286 := Tryd.func56.trans (congrArg some (by kernel_rfl))
  f287 := Tryd.func39.trans (congrArg some (by kernel_rfl))
  f316 := Tryd.func48.trans (congrArg some (by kernel_rfl))
  f317 := Tryd.func57.trans (congrArg some (by kernel_rfl))
  f318 := Tryd.func59.trans (congrArg some (by kernel_rfl))
  f319 := Tryd.func60.trans (congrArg some (by kernel_rfl))
  f320 := Tryd.func61.trans (congrArg some (by kernel_rfl))
  f321 := Tryd.func46.trans (congrArg some (by kernel_rfl))
  f322 := Tryd.func47.trans (congrArg some (by kernel_rfl))
  f337 := Tryd.func62.trans (congrArg some (by kernel_rfl))
  f338 := Tryd.func63.trans (congrArg some (by kernel_rfl))
  t0 := Tryd.underlying0
  a0 := Tryd.isAgg0
  z0 := Tryd.sizeOf0
  v0 := Tryd.zeroValue0
  t2 := Tryd.underlying2
  a2 := Tryd.isAgg2
  z2 := Tryd.sizeOf2
  v2 := Tryd.zeroValue2
  t3 := Tryd.underlying3
  a3 := Tryd.isAgg3
  z3 := Tryd.sizeOf3
  v3 := Tryd.zeroValue3
  t4 := Tryd.underlying4
  a4 := Tryd.isAgg4
  z4 := Tryd.sizeOf4
  v4 := Tryd.zeroValue4
  t5 := Tryd.underlying5
  a5 := Tryd.isAgg5
  z5 := Tryd.sizeOf5
  v5 := Tryd.zeroValue5
  t9 := Tryd.underlying9
  a9 := Tryd.isAgg9
  z9 := Tryd.sizeOf9
  v9 := Tryd.zeroValue9
  t20 := Tryd.underlying20
  a20 := Tryd.isAgg20
  z20 := Tryd.sizeOf20
  v20 := Tryd.zeroValue20
  t21 := Tryd.underlying21
  a21 := Tryd.isAgg21
  z21 := Tryd.sizeOf21
  v21 := Tryd.zeroValue21
  t37 := Tryd.underlying46
  a37 := Tryd.isAgg46
  z37 := Tryd.sizeOf46
  v37 := Tryd.zeroValue46
  t46 := Tryd.underlying32
  a46 := Tryd.isAgg32
  z46 := Tryd.sizeOf32
  v46 := Tryd.zeroValue32
  t51 := Tryd.underlying30
  a51 := Tryd.isAgg30
  z51 := Tryd.sizeOf30
  v51 := Tryd.zeroValue30
  t53 := Tryd.underlying66
  a53 := Tryd.isAgg66
  z53 := Tryd.sizeOf66
  v53 := Tryd.zeroValue66
  t75 := Tryd.underlying50
  a75 := Tryd.isAgg50
  z75 := Tryd.sizeOf50
  v75 := Tryd.zeroValue50
  t76 := Tryd.underlying54
  a76 := Tryd.isAgg54
  z76 := Tryd.sizeOf54
  v76 := Tryd.zeroValue54
  t85 := Tryd.underlying51
  a85 := Tryd.isAgg51
  z85 := Tryd.sizeOf51
  v85 := Tryd.zeroValue51
  t127 := Tryd.underlying79
  a127 := Tryd.isAgg79
  z127 := Tryd.sizeOf79
  v127 := Tryd.zeroValue79
  t143 := Tryd.underlying80
  a143 := Tryd.isAgg80
  z143 := Tryd.sizeOf80
  v143 := Tryd.zeroValue80
  t145 := Tryd.underlying82
  a145 := Tryd.isAgg82
  z145 := Tryd.sizeOf82
  v145 := Tryd.zeroValue82
  t167 := Tryd.underlying65
  a167 := Tryd.isAgg65
  z167 := Tryd.sizeOf65
  v167 := Tryd.zeroValue65
  t168 := Tryd.underlying69
  a168 := Tryd.isAgg69
  z168 := Tryd.sizeOf69
  v168 := Tryd.zeroValue69
  t171 := Tryd.underlying84
  a171 := Tryd.isAgg84
  z171 := Tryd.sizeOf84
  v171 := Tryd.zeroValue84
  t173 := Tryd.underlying87
  a173 := Tryd.isAgg87
  z173 := Tryd.sizeOf87
  v173 := Tryd.zeroValue87
  t175 := Tryd.underlying67
  a175 := Tryd.isAgg67
  z175 := Tryd.sizeOf67
  v175 := Tryd.zeroValue67
  t210 := Tryd.underlying76
  a210 := Tryd.isAgg76
  z210 := Tryd.sizeOf76
  v210 := Tryd.zeroValue76
  t212 := Tryd.underlying90
  a212 := Tryd.isAgg90
  z212 := Tryd.sizeOf90
  v212 := Tryd.zeroValue90
  t213 := Tryd.underlying91
  a213 := Tryd.isAgg91
  z213 := Tryd.sizeOf91
  t232 := Tryd.underlying95
  a232 := Tryd.isAgg95
  z232 := Tryd.sizeOf95
  v232 := Tryd.zeroValue95
  t233 := Tryd.underlying96
  a233 := Tryd.isAgg96
  z233 := Tryd.sizeOf96
  v233 := Tryd.zeroValue96
  g15 := by kernel_rfl
  g16 := by kernel_rfl
  g17 := by kernel_rfl
  g18 := by kernel_rfl
  g19 := by kernel_rfl
  t80 := Tryd.underlying97
  a80 := Tryd.isAgg97
  z80 := Tryd.sizeOf97
  v80 := Tryd.zeroValue97
  i0 := by kernel_rfl
  i2 := by kernel_rfl
  i3 := by kernel_rfl
  i4 := by kernel_rfl
  i5 := by kernel_rfl
  i9 := by kernel_rfl
  i20 := by kernel_rfl
  i21 := by kernel_rfl
  i37 := by kernel_rfl
  i46 := by kernel_rfl
  i51 := by kernel_rfl
  i53 := by kernel_rfl
  i75 := by kernel_rfl
  i76 := by kernel_rfl
  i80 := by kernel_rfl
  i85 := by kernel_rfl
  i127 := by kernel_rfl
  i143 := by kernel_rfl
  i145 := by kernel_rfl
  i167 := by kernel_rfl
  i168 := by kernel_rfl
  i171 := by kernel_rfl
  i173 := by kernel_rfl
  i175 := by kernel_rfl
  i210 := by kernel_rfl
  i212 := by kernel_rfl
  i232 := by kernel_rfl
  i233 := by kernel_rfl
  m15 := by kernel_rfl
  m16 := by kernel_rfl
  m17 := by kernel_rfl
  m18 := by kernel_rfl
  m19 := by kernel_rfl
  c0 := by kernel_rfl
  c2 := by kernel_rfl
  c3 := by kernel_rfl
  c4 := by kernel_rfl
  c5 := by kernel_rfl
  c9 := by kernel_rfl
  c20 := by kernel_rfl
  c21 := by kernel_rfl
  c37 := by kernel_rfl
  c46 := by kernel_rfl
  c51 := by kernel_rfl
  c53 := by kernel_rfl
  c75 := by kernel_rfl
  c76 := by kernel_rfl
  c80 := by kernel_rfl
  c85 := by kernel_rfl
  c127 := by kernel_rfl
  c143 := by kernel_rfl
  c145 := by kernel_rfl
  c167 := by kernel_rfl
  c168 := by kernel_rfl
  c171 := by kernel_rfl
  c173 := by kernel_rfl
  c175 := by kernel_rfl
  c210 := by kernel_rfl
  c212 := by kernel_rfl
  c213 := by kernel_rfl
  c232 := by kernel_rfl
  c233 := by kernel_rfl }
open Go.RowKit in
/-- strconv.Atoi, AT EVERY STRING THAT SPELLS AN int ('Lib.atoiAll .. = .ok v'; of whatever length: leading zeros count): v, AND NO ERROR. The world: as it was, or with the one new row that '[]byte(..)' lays. (LAID: no walk: one application.) -/
theorem Tryd.strconv_Atoi_ok (s : ByteArray) (hmax : s.size ≤ 9223372036854775806) (v : Int) (h : Lib.atoiAll s.data.toList = .ok v) (w : World) :
    Calls Tryd.prog 27 #[.string s] w fun e w' => e = .returned (.tuple #[.int .i64 v, .nilIface]) ∧ (w' = w ∨ ∃ t, w' = Lib.bytesWorld w 5 t) := Any.strconv_Atoi_ok Tryd.laysC172 s hmax v h w
open Go.RowKit in
/-- strconv.Atoi, AT EVERY STRING THAT IS NO DECIMAL NUMERAL (neither a number nor out of range): 0, AND AN ERROR THAT IS NOT nil: a *NumError in a new block N: {Func: "Atoi", Num: s's bytes, Err: what the variable ErrSyntax holds}. Of what was there nothing has turned. (LAID: no walk: one application.) -/
theorem Tryd.strconv_Atoi_syntax (s : ByteArray) (hlim : s.size ≤ 281474976710656) (h : (∀ v, Lib.atoiAll s.data.toList ≠ .ok v) ∧ Lib.atoiAll s.data.toList ≠ .range) (ev : Value) (w : World) (hv : w.cell? ⟨1, 0, none⟩ = some ev) (hev : ev = .nilIface ∨ ∃ te pe, ev = .iface te pe) :
    Calls Tryd.prog 27 #[.string s] w fun e w' => ∃ N, e = .returned (.tuple #[.int .i64 (0), .iface 69 (.pointer (some ⟨N, 0, none⟩))]) ∧ w.heap.size ≤ N ∧ w'.heap[N]? = some (.cells #[.string ⟨#[65, 116, 111, 105]⟩, .string s, ev] 76 (0, 0)) ∧ Below w.heap.size w w' := by
  cases hq : Lib.atoiAll s.data.toList with
  | ok v => exact absurd hq (h.1 v)
  | range => exact absurd hq h.2
  | _ => exact Any.strconv_Atoi_syntax Tryd.laysC172 s hlim hq ev w hv hev
open Go.RowKit in
/-- strconv.Atoi, AT EVERY NUMERAL THAT NO int HOLDS ('.range'): THE GREATEST OR THE LEAST int, BY THE SIGN ('Lib.atoiSat'), AND AN ERROR THAT IS NOT nil: a *NumError in a new block N: {Func: "Atoi", Num: s's bytes, Err: what the variable ErrRange holds}. Of what was there nothing has turned. (LAID: no walk: one application.) -/
theorem Tryd.strconv_Atoi_range (s : ByteArray) (hlim : s.size ≤ 281474976710656) (h : Lib.atoiAll s.data.toList = .range) (ev : Value) (w : World) (hv : w.cell? ⟨2, 0, none⟩ = some ev) (hev : ev = .nilIface ∨ ∃ te pe, ev = .iface te pe) :
    Calls Tryd.prog 27 #[.string s] w fun e w' => ∃ N, e = .returned (.tuple #[.int .i64 (Lib.atoiSat s.data.toList), .iface 69 (.pointer (some ⟨N, 0, none⟩))]) ∧ w.heap.size ≤ N ∧ w'.heap[N]? = some (.cells #[.string ⟨#[65, 116, 111, 105]⟩, .string s, ev] 76 (0, 0)) ∧ Below w.heap.size w w' := Any.strconv_Atoi_range Tryd.laysC172 s hlim h ev w hv hev
def Tryd.laysC174_ren : Go.Shelf.Ren := ⟨fun | 174 => 24 | 247 => 33 | 245 => 34 | 287 => 39 | 279 => 40 | 280 => 41 | 281 => 42 | 282 => 43 | 321 => 46 | 322 => 47 | 316 => 48 | 171 => 50 | 205 => 49 | 243 => 51 | 246 => 52 | 283 => 53 | 284 => 54 | 285 => 55 | 286 => 56 | 129 => 58 | 317 => 57 | 318 => 59 | 319 => 60 | 320 => 61 | 337 => 62 | 338 => 63 | n => n, fun | 9 => 9 | 3 => 3 | 2 => 2 | 75 => 50 | 85 => 51 | 4 => 4 | 167 => 65 | 5 => 5 | 53 => 66 | 175 => 67 | 46 => 32 | 168 => 69 | 37 => 46 | 0 => 0 | 210 => 76 | 21 => 21 | 127 => 79 | 145 => 82 | 143 => 80 | 171 => 84 | 173 => 87 | 212 => 90 | 51 => 30 | 20 => 20 | 213 => 91 | 232 => 95 | 233 => 96 | 80 => 97 | n => n, fun | 15 => 1 | 16 => 2 | 17 => 3 | 18 => 4 | 19 => 5 | n => n⟩
theorem Tryd.laysC174 : Go.Proofs.LaysC.n174 Tryd.prog Tryd.laysC174_ren := {
  mixed := by kernel_rfl
  f129 := Tryd.func58.trans (congrArg some (by kernel_rfl))
  f171 := Tryd.func50.trans (congrArg some (by kernel_rfl))
  f174 := Tryd.func24.trans (congrArg some (by kernel_rfl))
  f205 := Tryd.func49.trans (congrArg some (by kernel_rfl))
  f243 := Tryd.func51.trans (congrArg some (by kernel_rfl))
  f245 := Tryd.func34.trans (congrArg some (by kernel_rfl))
  f246 := Tryd.func52.trans (congrArg some (by kernel_rfl))
  f247 := Tryd.func33.trans (congrArg some (by kernel_rfl))
  f279 := Tryd.func40.trans (congrArg some (by kernel_rfl))
  f280 := Tryd.func41.trans (congrArg some (by kernel_rfl))
  f281 := Tryd.func42.trans (congrArg some (by kernel_rfl))
  f282 := Tryd.func43.trans (congrArg some (by kernel_rfl))
  f283 := Tryd.func53.trans (congrArg some (by kernel_rfl))
  f284 := Tryd.func54.trans (congrArg some (by kernel_rfl))
  f285 := Tryd.func55.trans (congrArg some (by kernel_rfl))
  f286 := Tryd.func56.trans (congrArg some (by kernel_rfl))
  f287 := Tryd.func39.trans (congrArg some (by kernel_rfl))
  f316 := Tryd.func48.trans (congrArg some (by kernel_rfl))
  f317 := Tryd.func57.trans (congrArg some (by kernel_rfl))
  f318 := Tryd.func59.trans (congrArg some (by kernel_rfl))
  f319 := Tryd.func60.trans (congrArg some (by kernel_rfl))
  f320 := Tryd.func61.trans (congrArg some (by kernel_rfl))
  f321 := Tryd.func46.trans (congrArg some (by kernel_rfl))
  f322 := Tryd.func47.trans (congrArg some (by kernel_rfl))
  f337 := Tryd.func62.trans (congrArg some (by kernel_rfl))
  f338 := Tryd.func63.trans (congrArg some (by kernel_rfl))
  t0 := Tryd.underlying0
  a0 := Tryd.isAgg0
  z0 := Tryd.sizeOf0
  v0 := Tryd.zeroValue0
  t2 := Tryd.underlying2
  a2 := Tryd.isAgg2
  z2 := Tryd.sizeOf2
  v2 := Tryd.zeroValue2
  t3 := Tryd.underlying3
  a3 := Tryd.isAgg3
  z3 := Tryd.sizeOf3
  v3 := Tryd.zeroValue3
  t4 := Tryd.underlying4
  a4 := Tryd.isAgg4
  z4 := Tryd.sizeOf4
  v4 := Tryd.zeroValue4
  t5 := Tryd.underlying5
  a5 := Tryd.isAgg5
  z5 := Tryd.sizeOf5
  v5 := Tryd.zeroValue5
  t9 := Tryd.underlying9
  a9 := Tryd.isAgg9
  z9 := Tryd.sizeOf9
  v9 := Tryd.zeroValue9
  t20 := Tryd.underlying20
  a20 := Tryd.isAgg20
  z20 := Tryd.sizeOf20
  v20 := Tryd.zeroValue20
  t21 := Tryd.underlying21
  a21 := Tryd.isAgg21
  z21 := Tryd.sizeOf21
  v21 := Tryd.zeroValue21
  t37 := Tryd.underlying46
  a37 := Tryd.isAgg46
  z37 := Tryd.sizeOf46
  v37 := Tryd.zeroValue46
  t46 := Tryd.underlying32
  a46 := Tryd.isAgg32
  z46 := Tryd.sizeOf32
  v46 := Tryd.zeroValue32
  t51 := Tryd.underlying30
  a51 := Tryd.isAgg30
  z51 := Tryd.sizeOf30
  v51 := Tryd.zeroValue30
  t53 := Tryd.underlying66
  a53 := Tryd.isAgg66
  z53 := Tryd.sizeOf66
  v53 := Tryd.zeroValue66
  t75 := Tryd.underlying50
  a75 := Tryd.isAgg50
  z75 := Tryd.sizeOf50
  v75 := Tryd.zeroValue50
  t85 := Tryd.underlying51
  a85 := Tryd.isAgg51
  z85 := Tryd.sizeOf51
  v85 := Tryd.zeroValue51
  t127 := Tryd.underlying79
  a127 := Tryd.isAgg79
  z127 := Tryd.sizeOf79
  v127 := Tryd.zeroValue79
  t143 := Tryd.underlying80
  a143 := Tryd.isAgg80
  z143 := Tryd.sizeOf80
  v143 := Tryd.zeroValue80
  t145 := Tryd.underlying82
  a145 := Tryd.isAgg82
  z145 := Tryd.sizeOf82
  v145 := Tryd.zeroValue82
  t167 := Tryd.underlying65
  a167 := Tryd.isAgg65
  z167 := Tryd.sizeOf65
  v167 := Tryd.zeroValue65
  t168 := Tryd.underlying69
  a168 := Tryd.isAgg69
  z168 := Tryd.sizeOf69
  v168 := Tryd.zeroValue69
  t171 := Tryd.underlying84
  a171 := Tryd.isAgg84
  z171 := Tryd.sizeOf84
  v171 := Tryd.zeroValue84
  t173 := Tryd.underlying87
  a173 := Tryd.isAgg87
  z173 := Tryd.sizeOf87
  v173 := Tryd.zeroValue87
  t175 := Tryd.underlying67
  a175 := Tryd.isAgg67
  z175 := Tryd.sizeOf67
  v175 := Tryd.zeroValue67
  t210 := Tryd.underlying76
  a210 := Tryd.isAgg76
  z210 := Tryd.sizeOf76
  v210 := Tryd.zeroValue76
  t212 := Tryd.underlying90
  a212 := Tryd.isAgg90
  z212 := Tryd.sizeOf90
  v212 := Tryd.zeroValue90
  t213 := Tryd.underlying91
  a213 := Tryd.isAgg91
  z213 := Tryd.sizeOf91
  t232 := Tryd.underlying95
  a232 := Tryd.isAgg95
  z232 := Tryd.sizeOf95
  v232 := Tryd.zeroValue95
  t233 := Tryd.underlying96
  a233 := Tryd.isAgg96
  z233 := Tryd.sizeOf96
  v233 := Tryd.zeroValue96
  g15 := by kernel_rfl
  g16 := by kernel_rfl
  g17 := by kernel_rfl
  g18 := by kernel_rfl
  g19 := by kernel_rfl
  t80 := Tryd.underlying97
  a80 := Tryd.isAgg97
  z80 := Tryd.sizeOf97
  v80 := Tryd.zeroValue97
  i0 := by kernel_rfl
  i2 := by kernel_rfl
  i3 := by kernel_rfl
  i4 := by kernel_rfl
  i5 := by kernel_rfl
  i9 := by kernel_rfl
  i20 := by kernel_rfl
  i21 := by kernel_rfl
  i37 := by kernel_rfl
  i46 := by kernel_rfl
  i51 := by kernel_rfl
  i53 := by kernel_rfl
  i75 := by kernel_rfl
  i80 := by kernel_rfl
  i85 := by kernel_rfl
  i127 := by kernel_rfl
  i143 := by kernel_rfl
  i145 := by kernel_rfl
  i167 := by kernel_rfl
  i168 := by kernel_rfl
  i171 := by kernel_rfl
  i173 := by kernel_rfl
  i175 := by kernel_rfl
  i210 := by kernel_rfl
  i212 := by kernel_rfl
  i232 := by kernel_rfl
  i233 := by kernel_rfl
  m15 := by kernel_rfl
  m16 := by kernel_rfl
  m17 := by kernel_rfl
  m18 := by kernel_rfl
  m19 := by kernel_rfl
  c0 := by kernel_rfl
  c2 := by kernel_rfl
  c3 := by kernel_rfl
  c4 := by kernel_rfl
  c5 := by kernel_rfl
  c9 := by kernel_rfl
  c20 := by kernel_rfl
  c21 := by kernel_rfl
  c37 := by kernel_rfl
  c46 := by kernel_rfl
  c51 := by kernel_rfl
  c53 := by kernel_rfl
  c75 := by kernel_rfl
  c80 := by kernel_rfl
  c85 := by kernel_rfl
  c127 := by kernel_rfl
  c143 := by kernel_rfl
  c145 := by kernel_rfl
  c167 := by kernel_rfl
  c168 := by kernel_rfl
  c171 := by kernel_rfl
  c173 := by kernel_rfl
  c175 := by kernel_rfl
  c210 := by kernel_rfl
  c212 := by kernel_rfl
  c213 := by kernel_rfl
  c232 := by kernel_rfl
  c233 := by kernel_rfl }
open Go.RowKit in
/-- strconv.ParseInt(s, 10, 32), AT EVERY STRING THAT SPELLS AN int32 ('Lib.parseIntB 32 s.data.toList = .ok v'): v, AND NO ERROR. (LAID: no walk: one application.) -/
theorem Tryd.strconv_ParseInt_10_at32_ok (s : ByteArray) (hmax : s.size ≤ 9223372036854775806) (v : Int) (h : Lib.parseIntB 32 s.data.toList = .ok v) (w : World) :
    Calls Tryd.prog 24 #[.string s, .int .i64 10, .int .i64 32] w fun e w' => e = .returned (.tuple #[.int .i64 v, .nilIface]) ∧ (w' = w ∨ ∃ t, w' = Lib.bytesWorld w 5 t) := Any.strconv_ParseInt_10_at32_ok Tryd.laysC174 s hmax v h w
open Go.RowKit in
/-- strconv.ParseInt(s, 10, 32), AT EVERY STRING THAT IS NO DECIMAL NUMERAL: 0, AND AN ERROR THAT IS NOT nil: a *NumError in a new block N: {Func: "ParseInt", Num: s's bytes, Err: what the variable ErrSyntax holds}. Of what was there nothing has turned. (LAID: no walk: one application.) -/
theorem Tryd.strconv_ParseInt_10_at32_syntax (s : ByteArray) (hlim : s.size ≤ 281474976710656) (h : (∀ v, Lib.parseIntB 32 s.data.toList ≠ .ok v) ∧ Lib.parseIntB 32 s.data.toList ≠ .range) (ev : Value) (w : World) (hv : w.cell? ⟨1, 0, none⟩ = some ev) (hev : ev = .nilIface ∨ ∃ te pe, ev = .iface te pe) :
    Calls Tryd.prog 24 #[.string s, .int .i64 10, .int .i64 32] w fun e w' => ∃ N, e = .returned (.tuple #[.int .i64 (0), .iface 69 (.pointer (some ⟨N, 0, none⟩))]) ∧ w.heap.size ≤ N ∧ w'.heap[N]? = some (.cells #[.string ⟨#[80, 97, 114, 115, 101, 73, 110, 116]⟩, .string s, ev] 76 (0, 0)) ∧ Below w.heap.size w w' := by
  cases hq : Lib.parseIntB 32 s.data.toList with
  | ok v => exact absurd hq (h.1 v)
  | range => exact absurd hq h.2
  | _ => exact Any.strconv_ParseInt_10_at32_syntax Tryd.laysC174 s hlim hq ev w hv hev
open Go.RowKit in
/-- strconv.ParseInt(s, 10, 32), AT EVERY NUMERAL THAT NO int32 HOLDS: THE GREATEST OR THE LEAST int32, BY THE SIGN ('Lib.intSat 32'), AND AN ERROR THAT IS NOT nil: a *NumError in a new block N: {Func: "ParseInt", Num: s's bytes, Err: what the variable ErrRange holds}. Of what was there nothing has turned. (LAID: no walk: one application.) -/
theorem Tryd.strconv_ParseInt_10_at32_range (s : ByteArray) (hlim : s.size ≤ 281474976710656) (h : Lib.parseIntB 32 s.data.toList = .range) (ev : Value) (w : World) (hv : w.cell? ⟨2, 0, none⟩ = some ev) (hev : ev = .nilIface ∨ ∃ te pe, ev = .iface te pe) :
    Calls Tryd.prog 24 #[.string s, .int .i64 10, .int .i64 32] w fun e w' => ∃ N, e = .returned (.tuple #[.int .i64 (Lib.intSat 32 s.data.toList), .iface 69 (.pointer (some ⟨N, 0, none⟩))]) ∧ w.heap.size ≤ N ∧ w'.heap[N]? = some (.cells #[.string ⟨#[80, 97, 114, 115, 101, 73, 110, 116]⟩, .string s, ev] 76 (0, 0)) ∧ Below w.heap.size w w' := Any.strconv_ParseInt_10_at32_range Tryd.laysC174 s hlim h ev w hv hev
end Go.Proofs
