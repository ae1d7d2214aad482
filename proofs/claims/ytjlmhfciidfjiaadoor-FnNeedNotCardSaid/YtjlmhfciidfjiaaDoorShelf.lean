/-
  DERIVED: THE SHELF's CONTRACTS AT THIS DUMP, IN PLAIN WORDS (tools/lay-plain.mjs out of 'YtjlmhfciidfjiaaDoorShelf.lean', which tools/lay-shelf.mjs wrote): THE SAME DECLARATIONS UNDER THE SAME NAMES: 'import', 'namespace', 'open', 'def', 'theorem' AND NOTHING ELSE: no command of the shelf's: FOR A HAND-IN. Each laying: the table of numbers ('.._ren') and one theorem, a field a fact of the dump's own or the kernel's comparison; each contract: ONE APPLICATION.
-/
import Derived.Shelf.Strconv.ParseIntEmpty
import Derived.Shelf.LaysM
import Derived.Shelf.Strconv.Clone
import Derived.Shelf.Strconv.SyntaxError
import Derived.Shelf.LaysC
import Derived.Shelf.Strconv.ToError
import Derived.Shelf.Strconv.Lower
import Derived.Shelf.Strconv.ParseUint10
import Derived.Shelf.Strconv.ParseUint10Empty
import Derived.Shelf.Strconv.ParseUint10Any
import Derived.Shelf.Strconv.ParseInt10
import Derived.Shelf.Strconv.RangeError
import Derived.Shelf.Strconv.ToErrorRange
import Derived.Shelf.Strconv.ParseUintEmpty
import Derived.Shelf.Strconv.ParseUint10b64
import Derived.Shelf.Strconv.ParseUint10b32
import Derived.Shelf.Strconv.ParseUint10b16
import Derived.Shelf.Strconv.ParseUint10b8
import Derived.Shelf.Strconv.ParseUint10At
import Derived.Shelf.Strconv.ParseInt10At64
import Derived.Shelf.Strconv.ParseInt10At32
import Derived.Shelf.Strconv.ParseInt10At16
import Derived.Shelf.Strconv.ParseInt10At8
import Derived.Shelf.Strconv.ParseInt10All
import Derived.Shelf.Strconv.ParseIntPublic10
import Derived.Shelf.Strconv.ErrVarParseInt
import Derived.Test.YtjlmhfciidfjiaaDoorProg
namespace Go.Proofs
open Go.Shelf
def Tryd.laysC174_ren : Go.Shelf.Ren := ⟨fun | 174 => 26 | 247 => 33 | 245 => 34 | 287 => 36 | 279 => 37 | 280 => 38 | 281 => 39 | 282 => 40 | 321 => 41 | 322 => 42 | 316 => 43 | 171 => 44 | 205 => 32 | 243 => 45 | 246 => 46 | 283 => 47 | 284 => 48 | 285 => 49 | 286 => 50 | 129 => 52 | 317 => 51 | 318 => 53 | 319 => 54 | 320 => 55 | 337 => 56 | 338 => 57 | n => n, fun | 9 => 9 | 3 => 3 | 2 => 2 | 75 => 40 | 85 => 62 | 4 => 4 | 167 => 72 | 5 => 5 | 53 => 73 | 175 => 74 | 46 => 76 | 168 => 77 | 37 => 64 | 0 => 0 | 210 => 83 | 21 => 21 | 127 => 85 | 145 => 71 | 143 => 69 | 171 => 87 | 173 => 90 | 212 => 94 | 51 => 95 | 20 => 20 | 213 => 96 | 232 => 100 | 233 => 101 | 80 => 102 | n => n, fun | 15 => 0 | 16 => 1 | 17 => 2 | 18 => 3 | 19 => 4 | n => n⟩
theorem Tryd.laysC174 : Go.Proofs.LaysC.n174 Tryd.prog Tryd.laysC174_ren := {
  mixed := by kernel_rfl
  f129 := Tryd.func52.trans (congrArg some (by kernel_rfl))
  f171 := Tryd.func44.trans (congrArg some (by kernel_rfl))
  f174 := Tryd.func26.trans (congrArg some (by kernel_rfl))
  f205 := Tryd.func32.trans (congrArg some (by kernel_rfl))
  f243 := Tryd.func45.trans (congrArg some (by kernel_rfl))
  f245 := Tryd.func34.trans (congrArg some (by kernel_rfl))
  f246 := Tryd.func46.trans (congrArg some (by kernel_rfl))
  f247 := Tryd.func33.trans (congrArg some (by kernel_rfl))
  f279 := Tryd.func37.trans (congrArg some (by kernel_rfl))
  f280 := Tryd.func38.trans (congrArg some (by kernel_rfl))
  f281 := Tryd.func39.trans (congrArg some (by kernel_rfl))
  f282 := Tryd.func40.trans (congrArg some (by kernel_rfl))
  f283 := Tryd.func47.trans (congrArg some (by kernel_rfl))
  f284 := Tryd.func48.trans (congrArg some (by kernel_rfl))
  f285 := Tryd.func49.trans (congrArg some (by kernel_rfl))
  f286 := Tryd.func50.trans (congrArg some (by kernel_rfl))
  f287 := Tryd.func36.trans (congrArg some (by kernel_rfl))
  f316 := Tryd.func43.trans (congrArg some (by kernel_rfl))
  f317 := Tryd.func51.trans (congrArg some (by kernel_rfl))
  f318 := Tryd.func53.trans (congrArg some (by kernel_rfl))
  f319 := Tryd.func54.trans (congrArg some (by kernel_rfl))
  f320 := Tryd.func55.trans (congrArg some (by kernel_rfl))
  f321 := Tryd.func41.trans (congrArg some (by kernel_rfl))
  f322 := Tryd.func42.trans (congrArg some (by kernel_rfl))
  f337 := Tryd.func56.trans (congrArg some (by kernel_rfl))
  f338 := Tryd.func57.trans (congrArg some (by kernel_rfl))
  t0 := Tryd.underlying0
  a0 := Tryd.isAgg0
  z0 := Tryd.sizeOf0
  v0 := Tryd.zeroValue0
  t2 := Tryd.underlying2
  a2 := Tryd.isAgg2
  z2 := Tryd.sizeOf2
  v2 := Tryd.zeroValue2
  t3 := Tryd.underlying3
  a3 := Tryd.isAgg3
  z3 := Tryd.sizeOf3
  v3 := Tryd.zeroValue3
  t4 := Tryd.underlying4
  a4 := Tryd.isAgg4
  z4 := Tryd.sizeOf4
  v4 := Tryd.zeroValue4
  t5 := Tryd.underlying5
  a5 := Tryd.isAgg5
  z5 := Tryd.sizeOf5
  v5 := Tryd.zeroValue5
  t9 := Tryd.underlying9
  a9 := Tryd.isAgg9
  z9 := Tryd.sizeOf9
  v9 := Tryd.zeroValue9
  t20 := Tryd.underlying20
  a20 := Tryd.isAgg20
  z20 := Tryd.sizeOf20
  v20 := Tryd.zeroValue20
  t21 := Tryd.underlying21
  a21 := Tryd.isAgg21
  z21 := Tryd.sizeOf21
  v21 := Tryd.zeroValue21
  t37 := Tryd.underlying64
  a37 := Tryd.isAgg64
  z37 := Tryd.sizeOf64
  v37 := Tryd.zeroValue64
  t46 := Tryd.underlying76
  a46 := Tryd.isAgg76
  z46 := Tryd.sizeOf76
  v46 := Tryd.zeroValue76
  t51 := Tryd.underlying95
  a51 := Tryd.isAgg95
  z51 := Tryd.sizeOf95
  v51 := Tryd.zeroValue95
  t53 := Tryd.underlying73
  a53 := Tryd.isAgg73
  z53 := Tryd.sizeOf73
  v53 := Tryd.zeroValue73
  t75 := Tryd.underlying40
  a75 := Tryd.isAgg40
  z75 := Tryd.sizeOf40
  v75 := Tryd.zeroValue40
  t85 := Tryd.underlying62
  a85 := Tryd.isAgg62
  z85 := Tryd.sizeOf62
  v85 := Tryd.zeroValue62
  t127 := Tryd.underlying85
  a127 := Tryd.isAgg85
  z127 := Tryd.sizeOf85
  v127 := Tryd.zeroValue85
  t143 := Tryd.underlying69
  a143 := Tryd.isAgg69
  z143 := Tryd.sizeOf69
  v143 := Tryd.zeroValue69
  t145 := Tryd.underlying71
  a145 := Tryd.isAgg71
  z145 := Tryd.sizeOf71
  v145 := Tryd.zeroValue71
  t167 := Tryd.underlying72
  a167 := Tryd.isAgg72
  z167 := Tryd.sizeOf72
  v167 := Tryd.zeroValue72
  t168 := Tryd.underlying77
  a168 := Tryd.isAgg77
  z168 := Tryd.sizeOf77
  v168 := Tryd.zeroValue77
  t171 := Tryd.underlying87
  a171 := Tryd.isAgg87
  z171 := Tryd.sizeOf87
  v171 := Tryd.zeroValue87
  t173 := Tryd.underlying90
  a173 := Tryd.isAgg90
  z173 := Tryd.sizeOf90
  v173 := Tryd.zeroValue90
  t175 := Tryd.underlying74
  a175 := Tryd.isAgg74
  z175 := Tryd.sizeOf74
  v175 := Tryd.zeroValue74
  t210 := Tryd.underlying83
  a210 := Tryd.isAgg83
  z210 := Tryd.sizeOf83
  v210 := Tryd.zeroValue83
  t212 := Tryd.underlying94
  a212 := Tryd.isAgg94
  z212 := Tryd.sizeOf94
  v212 := Tryd.zeroValue94
  t213 := Tryd.underlying96
  a213 := Tryd.isAgg96
  z213 := Tryd.sizeOf96
  t232 := Tryd.underlying100
  a232 := Tryd.isAgg100
  z232 := Tryd.sizeOf100
  v232 := Tryd.zeroValue100
  t233 := Tryd.underlying101
  a233 := Tryd.isAgg101
  z233 := Tryd.sizeOf101
  v233 := Tryd.zeroValue101
  g15 := by kernel_rfl
  g16 := by kernel_rfl
  g17 := by kernel_rfl
  g18 := by kernel_rfl
  g19 := by kernel_rfl
  t80 := Tryd.underlying102
  a80 := Tryd.isAgg102
  z80 := Tryd.sizeOf102
  v80 := Tryd.zeroValue102
  i0 := by kernel_rfl
  i2 := by kernel_rfl
  i3 := by kernel_rfl
  i4 := by kernel_rfl
  i5 := by kernel_rfl
  i9 := by kernel_rfl
  i20 := by kernel_rfl
  i21 := by kernel_rfl
  i37 := by kernel_rfl
  i46 := by kernel_rfl
  i51 := by kernel_rfl
  i53 := by kernel_rfl
  i75 := by kernel_rfl
  i80 := by kernel_rfl
  i85 := by kernel_rfl
  i127 := by kernel_rfl
  i143 := by kernel_rfl
  i145 := by kernel_rfl
  i167 := by kernel_rfl
  i168 := by kernel_rfl
  i171 := by kernel_rfl
  i173 := by kernel_rfl
  i175 := by kernel_rfl
  i210 := by kernel_rfl
  i212 := by kernel_rfl
  i232 := by kernel_rfl
  i233 := by kernel_rfl
  m15 := by kernel_rfl
  m16 := by kernel_rfl
  m17 := by kernel_rfl
  m18 := by kernel_rfl
  m19 := by kernel_rfl
  c0 := by kernel_rfl
  c2 := by kernel_rfl
  c3 := by kernel_rfl
  c4 := by kernel_rfl
  c5 := by kernel_rfl
  c9 := by kernel_rfl
  c20 := by kernel_rfl
  c21 := by kernel_rfl
  c37 := by kernel_rfl
  c46 := by kernel_rfl
  c51 := by kernel_rfl
  c53 := by kernel_rfl
  c75 := by kernel_rfl
  c80 := by kernel_rfl
  c85 := by kernel_rfl
  c127 := by kernel_rfl
  c143 := by kernel_rfl
  c145 := by kernel_rfl
  c167 := by kernel_rfl
  c168 := by kernel_rfl
  c171 := by kernel_rfl
  c173 := by kernel_rfl
  c175 := by kernel_rfl
  c210 := by kernel_rfl
  c212 := by kernel_rfl
  c213 := by kernel_rfl
  c232 := by kernel_rfl
  c233 := by kernel_rfl }
open Go.RowKit in
/-- strconv.ParseInt(s, 10, 64), AT EVERY STRING THAT SPELLS AN int64 ('Lib.parseIntB 64 s.data.toList = .ok v'): v, AND NO ERROR. (LAID: no walk: one application.) -/
theorem Tryd.strconv_ParseInt_10_at64_ok (s : ByteArray) (hmax : s.size ≤ 9223372036854775806) (v : Int) (h : Lib.parseIntB 64 s.data.toList = .ok v) (w : World) :
    Calls Tryd.prog 26 #[.string s, .int .i64 10, .int .i64 64] w fun e w' => e = .returned (.tuple #[.int .i64 v, .nilIface]) ∧ (w' = w ∨ ∃ t, w' = Lib.bytesWorld w 5 t) := Any.strconv_ParseInt_10_at64_ok Tryd.laysC174 s hmax v h w
open Go.RowKit in
/-- strconv.ParseInt(s, 10, 64), AT EVERY STRING THAT IS NO DECIMAL NUMERAL: 0, AND AN ERROR THAT IS NOT nil: a *NumError in a new block N: {Func: "ParseInt", Num: s's bytes, Err: what the variable ErrSyntax holds}. Of what was there nothing has turned. (LAID: no walk: one application.) -/
theorem Tryd.strconv_ParseInt_10_at64_syntax (s : ByteArray) (hlim : s.size ≤ 281474976710656) (h : (∀ v, Lib.parseIntB 64 s.data.toList ≠ .ok v) ∧ Lib.parseIntB 64 s.data.toList ≠ .range) (ev : Value) (w : World) (hv : w.cell? ⟨0, 0, none⟩ = some ev) (hev : ev = .nilIface ∨ ∃ te pe, ev = .iface te pe) :
    Calls Tryd.prog 26 #[.string s, .int .i64 10, .int .i64 64] w fun e w' => ∃ N, e = .returned (.tuple #[.int .i64 (0), .iface 77 (.pointer (some ⟨N, 0, none⟩))]) ∧ w.heap.size ≤ N ∧ w'.heap[N]? = some (.cells #[.string ⟨#[80, 97, 114, 115, 101, 73, 110, 116]⟩, .string s, ev] 83 (0, 0)) ∧ Below w.heap.size w w' := by
  cases hq : Lib.parseIntB 64 s.data.toList with
  | ok v => exact absurd hq (h.1 v)
  | range => exact absurd hq h.2
  | _ => exact Any.strconv_ParseInt_10_at64_syntax Tryd.laysC174 s hlim hq ev w hv hev
open Go.RowKit in
/-- strconv.ParseInt(s, 10, 64), AT EVERY NUMERAL THAT NO int64 HOLDS: THE GREATEST OR THE LEAST int64, BY THE SIGN ('Lib.intSat 64'), AND AN ERROR THAT IS NOT nil: a *NumError in a new block N: {Func: "ParseInt", Num: s's bytes, Err: what the variable ErrRange holds}. Of what was there nothing has turned. (LAID: no walk: one application.) -/
theorem Tryd.strconv_ParseInt_10_at64_range (s : ByteArray) (hlim : s.size ≤ 281474976710656) (h : Lib.parseIntB 64 s.data.toList = .range) (ev : Value) (w : World) (hv : w.cell? ⟨1, 0, none⟩ = some ev) (hev : ev = .nilIface ∨ ∃ te pe, ev = .iface te pe) :
    Calls Tryd.prog 26 #[.string s, .int .i64 10, .int .i64 64] w fun e w' => ∃ N, e = .returned (.tuple #[.int .i64 (Lib.intSat 64 s.data.toList), .iface 77 (.pointer (some ⟨N, 0, none⟩))]) ∧ w.heap.size ≤ N ∧ w'.heap[N]? = some (.cells #[.string ⟨#[80, 97, 114, 115, 101, 73, 110, 116]⟩, .string s, ev] 83 (0, 0)) ∧ Below w.heap.size w w' := Any.strconv_ParseInt_10_at64_range Tryd.laysC174 s hlim h ev w hv hev
end Go.Proofs
