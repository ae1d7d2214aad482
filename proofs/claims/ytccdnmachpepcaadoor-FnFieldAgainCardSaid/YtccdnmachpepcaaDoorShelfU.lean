/-
  DERIVED: THE SHELF's CONTRACTS AT THIS DUMP, IN PLAIN WORDS (tools/lay-plain.mjs out of 'YtccdnmachpepcaaDoorShelfU.lean', which tools/lay-shelf.mjs wrote): THE SAME DECLARATIONS UNDER THE SAME NAMES: 'import', 'namespace', 'open', 'def', 'theorem' AND NOTHING ELSE: no command of the shelf's: FOR A HAND-IN. Each laying: the table of numbers ('.._ren') and one theorem, a field a fact of the dump's own or the kernel's comparison; each contract: ONE APPLICATION.
-/
import Derived.Shelf.Strings.Builder1
import Derived.Shelf.Strings.Builder2
import Derived.Shelf.Small.Bits
import Derived.Shelf.Strings.BuilderF
import Derived.Shelf.Strings.BuilderK
import Derived.Shelf.Utf8.AppendRunePlain
import Derived.Shelf.Strconv.Itoa0
import Derived.Shelf.LaysM
import Derived.Shelf.Bytes.Len
import Derived.Shelf.Bytes.TryGrow
import Derived.Shelf.Bytes.GrowSliceCatch
import Derived.Shelf.Bytes.GrowSlice
import Derived.Shelf.Bytes.String
import Derived.Shelf.Bytes.GrowRow0Kept
import Derived.Shelf.Bytes.GrowRowKept
import Derived.Shelf.Bytes.GrowNilKept
import Derived.Shelf.Bytes.GrowKept
import Derived.Shelf.Bytes.WriteByteKept
import Derived.Shelf.Bytes.ResetKept
import Derived.Shelf.Bytes.BufferK
import Derived.Shelf.Bytes.GrowRow0Own
import Derived.Shelf.Bytes.GrowRowOwn
import Derived.Shelf.Bytes.GrowNilOwn
import Derived.Shelf.Bytes.GrowOwn
import Derived.Ground.MzProg
import Derived.Shelf.Wr.WriteRuneAscii
import Derived.Shelf.Wr.WriteRune
import Derived.Ground.GgtProg
import Derived.Shelf.GgSortMore.Iface
import Derived.Shelf.GgSortMore.IfaceD
import Derived.Shelf.GgSortMore.IfacePart
import Derived.Shelf.GgSortMore.IfacePdq
import Derived.Shelf.GgSortMore.SortSort
import Derived.Ground.GguProg
import Derived.Shelf.GgSortLib.LibTypes
import Derived.Shelf.Strings.Prefix
import Derived.Ground.GgsProg
import Derived.Shelf.SlSortFunc.Xorshift
import Derived.Shelf.SlSortIface.SiftDown
import Derived.Shelf.SlSortIface.HeapSort
import Derived.Shelf.SlSortIface.PartialInsertion
import Derived.Test.YtccdnmachpepcaaDoorProg
namespace Go.Proofs
open Go.Shelf
def Tryd.laysM182_ren : Go.Shelf.Ren := ⟨fun | 182 => 36 | n => n, fun | 130 => 92 | 9 => 9 | 4 => 4 | 0 => 0 | 93 => 110 | 37 => 65 | 3 => 3 | 91 => 108 | 5 => 5 | n => n, fun | n => n⟩
theorem Tryd.laysM182 : Go.Proofs.LaysM.n182 Tryd.prog Tryd.laysM182_ren := {
  mixed := by kernel_rfl
  f182 := Tryd.func36.trans (congrArg some (by kernel_rfl))
  t0 := Tryd.underlying0
  a0 := Tryd.isAgg0
  z0 := Tryd.sizeOf0
  v0 := Tryd.zeroValue0
  t3 := Tryd.underlying3
  a3 := Tryd.isAgg3
  z3 := Tryd.sizeOf3
  v3 := Tryd.zeroValue3
  t4 := Tryd.underlying4
  a4 := Tryd.isAgg4
  z4 := Tryd.sizeOf4
  v4 := Tryd.zeroValue4
  t9 := Tryd.underlying9
  a9 := Tryd.isAgg9
  z9 := Tryd.sizeOf9
  v9 := Tryd.zeroValue9
  t37 := Tryd.underlying65
  a37 := Tryd.isAgg65
  z37 := Tryd.sizeOf65
  v37 := Tryd.zeroValue65
  t93 := Tryd.underlying110
  a93 := Tryd.isAgg110
  z93 := Tryd.sizeOf110
  v93 := Tryd.zeroValue110
  t130 := Tryd.underlying92
  a130 := Tryd.isAgg92
  z130 := Tryd.sizeOf92
  v130 := Tryd.zeroValue92
  t5 := Tryd.underlying5
  a5 := Tryd.isAgg5
  z5 := Tryd.sizeOf5
  v5 := Tryd.zeroValue5
  t91 := Tryd.underlying108
  a91 := Tryd.isAgg108
  z91 := Tryd.sizeOf108
  v91 := Tryd.zeroValue108
  i0 := by kernel_rfl
  i3 := by kernel_rfl
  i4 := by kernel_rfl
  i5 := by kernel_rfl
  i9 := by kernel_rfl
  i37 := by kernel_rfl
  i91 := by kernel_rfl
  i93 := by kernel_rfl
  i130 := by kernel_rfl }
open Go.RowKit in
/-- (*bytes.Buffer).String: "String returns the contents of the unread portion of the buffer as a string.": THE BYTES THAT WERE WRITTEN. The world is as it was but for the count of draws (the statement has two reads: its order is drawn). (LAID: no walk: one application.) -/
theorem Tryd.Buffer_String (B b : Nat) (l : List UInt8) (w : World) (h : Lib.IsBuffer 110 5 B b (Lib.byteCells l) w) :
    Calls Tryd.prog 36 #[.pointer (some ⟨b, 0, none⟩)] w fun e w' => e = .returned (.string ⟨l.toArray⟩) ∧ ∃ n, w' = w.drewN n := Any.Buffer_String Tryd.laysM182 B b l w h
def Tryd.laysWr5_ren : Go.Shelf.Ren := ⟨fun | 5 => 35 | 7 => 41 | 8 => 42 | 9 => 43 | 10 => 44 | 11 => 55 | 12 => 56 | 13 => 57 | 14 => 58 | 15 => 64 | n => n, fun | 34 => 92 | 21 => 21 | 3 => 3 | 28 => 54 | 35 => 111 | 4 => 4 | 5 => 5 | 0 => 0 | 26 => 110 | 24 => 108 | 37 => 113 | 22 => 65 | 43 => 104 | 20 => 20 | 31 => 63 | 9 => 9 | n => n, fun | 0 => 0 | n => n⟩
theorem Tryd.laysWr5 : Go.Proofs.LaysWr.n5 Tryd.prog Tryd.laysWr5_ren := {
  mixed := by kernel_rfl
  f5 := Tryd.func35.trans (congrArg some (by kernel_rfl))
  f7 := Tryd.func41.trans (congrArg some (by kernel_rfl))
  f8 := Tryd.func42.trans (congrArg some (by kernel_rfl))
  f9 := Tryd.func43.trans (congrArg some (by kernel_rfl))
  f10 := Tryd.func44.trans (congrArg some (by kernel_rfl))
  f11 := Tryd.func55.trans (congrArg some (by kernel_rfl))
  f12 := Tryd.func56.trans (congrArg some (by kernel_rfl))
  f13 := Tryd.func57.trans (congrArg some (by kernel_rfl))
  f14 := Tryd.func58.trans (congrArg some (by kernel_rfl))
  f15 := Tryd.func64.trans (congrArg some (by kernel_rfl))
  t0 := Tryd.underlying0
  a0 := Tryd.isAgg0
  z0 := Tryd.sizeOf0
  v0 := Tryd.zeroValue0
  i0 := by kernel_rfl
  t3 := Tryd.underlying3
  a3 := Tryd.isAgg3
  z3 := Tryd.sizeOf3
  v3 := Tryd.zeroValue3
  i3 := by kernel_rfl
  t4 := Tryd.underlying4
  a4 := Tryd.isAgg4
  z4 := Tryd.sizeOf4
  v4 := Tryd.zeroValue4
  i4 := by kernel_rfl
  t5 := Tryd.underlying5
  a5 := Tryd.isAgg5
  z5 := Tryd.sizeOf5
  v5 := Tryd.zeroValue5
  i5 := by kernel_rfl
  t9 := Tryd.underlying9
  a9 := Tryd.isAgg9
  z9 := Tryd.sizeOf9
  v9 := Tryd.zeroValue9
  i9 := by kernel_rfl
  t20 := Tryd.underlying20
  a20 := Tryd.isAgg20
  z20 := Tryd.sizeOf20
  v20 := Tryd.zeroValue20
  i20 := by kernel_rfl
  t21 := Tryd.underlying21
  a21 := Tryd.isAgg21
  z21 := Tryd.sizeOf21
  v21 := Tryd.zeroValue21
  i21 := by kernel_rfl
  t22 := Tryd.underlying65
  a22 := Tryd.isAgg65
  z22 := Tryd.sizeOf65
  v22 := Tryd.zeroValue65
  i22 := by kernel_rfl
  t24 := Tryd.underlying108
  a24 := Tryd.isAgg108
  z24 := Tryd.sizeOf108
  v24 := Tryd.zeroValue108
  i24 := by kernel_rfl
  t26 := Tryd.underlying110
  a26 := Tryd.isAgg110
  z26 := Tryd.sizeOf110
  v26 := Tryd.zeroValue110
  i26 := by kernel_rfl
  t28 := Tryd.underlying54
  a28 := Tryd.isAgg54
  z28 := Tryd.sizeOf54
  v28 := Tryd.zeroValue54
  i28 := by kernel_rfl
  t31 := Tryd.underlying63
  a31 := Tryd.isAgg63
  z31 := Tryd.sizeOf63
  v31 := Tryd.zeroValue63
  i31 := by kernel_rfl
  t34 := Tryd.underlying92
  a34 := Tryd.isAgg92
  z34 := Tryd.sizeOf92
  v34 := Tryd.zeroValue92
  i34 := by kernel_rfl
  t35 := Tryd.underlying111
  a35 := Tryd.isAgg111
  z35 := Tryd.sizeOf111
  v35 := Tryd.zeroValue111
  i35 := by kernel_rfl
  t37 := Tryd.underlying113
  a37 := Tryd.isAgg113
  z37 := Tryd.sizeOf113
  v37 := Tryd.zeroValue113
  i37 := by kernel_rfl
  t43 := Tryd.underlying104
  a43 := Tryd.isAgg104
  z43 := Tryd.sizeOf104
  v43 := Tryd.zeroValue104
  i43 := by kernel_rfl
  g0 := by kernel_rfl
  m0 := by kernel_rfl }
open Go.RowKit in
/-- (*bytes.Buffer).WriteRune, AT EVERY RUNE: (the number of its bytes, nil); THE BUFFER HOLDS THEM BEHIND WHAT IT HELD. The frames: as '_k'. NO WALK: the two roads as one. (LAID: no walk: one application.) -/
theorem Tryd.Buffer_WriteRune_k (B b : Nat) (bs : List Value) (r : Int) (hr0 : -2147483648 ≤ r) (hr1 : r ≤ 2147483647) (w : World) (h : Lib.IsBuffer 110 5 B b bs w) (hBw : B ≤ w.heap.size) (h1 : ∀ v ∈ bs, v.oneCell' = true) (hlim : bs.length + 4 ≤ 140737488355328) :
    Calls Tryd.prog 35 #[.pointer (some ⟨b, 0, none⟩), .int .i32 r] w fun e w' => e = .returned (.tuple #[.int .i64 (Lib.runeCells r).length, .nilIface]) ∧ Lib.IsBuffer 110 5 B b (bs ++ Lib.runeCells r) w' ∧ Below B w w' ∧ Lib.OthersKept 5 (some b) w w' := Any.Buffer_WriteRune_k Tryd.laysWr5 B b bs r hr0 hr1 w h hBw h1 hlim
def Tryd.laysGt11_ren : Go.Shelf.Ren := ⟨fun | 11 => 31 | 17 => 37 | 18 => 38 | 31 => 45 | 32 => 46 | 33 => 47 | 34 => 48 | 35 => 49 | 36 => 50 | 37 => 51 | 38 => 52 | 39 => 53 | 40 => 54 | 43 => 59 | 44 => 60 | 45 => 61 | 46 => 62 | 47 => 63 | 50 => 65 | n => n, fun | 45 => 101 | 3 => 3 | 4 => 4 | 47 => 104 | 0 => 0 | 56 => 111 | 58 => 119 | 61 => 122 | 60 => 121 | 65 => 113 | 5 => 5 | 9 => 9 | 67 => 130 | 71 => 134 | 73 => 136 | 74 => 137 | 43 => 102 | 26 => 125 | 38 => 129 | n => n, fun | n => n⟩
theorem Tryd.laysGt11 : Go.Proofs.LaysGt.n11 Tryd.prog Tryd.laysGt11_ren := {
  mixed := by kernel_rfl
  f11 := Tryd.func31.trans (congrArg some (by kernel_rfl))
  f17 := Tryd.func37.trans (congrArg some (by kernel_rfl))
  f18 := Tryd.func38.trans (congrArg some (by kernel_rfl))
  f31 := Tryd.func45.trans (congrArg some (by kernel_rfl))
  f32 := Tryd.func46.trans (congrArg some (by kernel_rfl))
  f33 := Tryd.func47.trans (congrArg some (by kernel_rfl))
  f34 := Tryd.func48.trans (congrArg some (by kernel_rfl))
  f35 := Tryd.func49.trans (congrArg some (by kernel_rfl))
  f36 := Tryd.func50.trans (congrArg some (by kernel_rfl))
  f37 := Tryd.func51.trans (congrArg some (by kernel_rfl))
  f38 := Tryd.func52.trans (congrArg some (by kernel_rfl))
  f39 := Tryd.func53.trans (congrArg some (by kernel_rfl))
  f40 := Tryd.func54.trans (congrArg some (by kernel_rfl))
  f43 := Tryd.func59.trans (congrArg some (by kernel_rfl))
  f44 := Tryd.func60.trans (congrArg some (by kernel_rfl))
  f45 := Tryd.func61.trans (congrArg some (by kernel_rfl))
  f46 := Tryd.func62.trans (congrArg some (by kernel_rfl))
  f47 := Tryd.func63.trans (congrArg some (by kernel_rfl))
  f50 := Tryd.func65.trans (congrArg some (by kernel_rfl))
  t0 := Tryd.underlying0
  a0 := Tryd.isAgg0
  z0 := Tryd.sizeOf0
  v0 := Tryd.zeroValue0
  i0 := by kernel_rfl
  t3 := Tryd.underlying3
  a3 := Tryd.isAgg3
  z3 := Tryd.sizeOf3
  v3 := Tryd.zeroValue3
  i3 := by kernel_rfl
  t4 := Tryd.underlying4
  a4 := Tryd.isAgg4
  z4 := Tryd.sizeOf4
  v4 := Tryd.zeroValue4
  i4 := by kernel_rfl
  t5 := Tryd.underlying5
  a5 := Tryd.isAgg5
  z5 := Tryd.sizeOf5
  v5 := Tryd.zeroValue5
  i5 := by kernel_rfl
  t9 := Tryd.underlying9
  a9 := Tryd.isAgg9
  z9 := Tryd.sizeOf9
  v9 := Tryd.zeroValue9
  i9 := by kernel_rfl
  t26 := Tryd.underlying125
  a26 := Tryd.isAgg125
  z26 := Tryd.sizeOf125
  v26 := Tryd.zeroValue125
  i26 := by kernel_rfl
  t38 := Tryd.underlying129
  a38 := Tryd.isAgg129
  z38 := Tryd.sizeOf129
  v38 := Tryd.zeroValue129
  i38 := by kernel_rfl
  t43 := Tryd.underlying102
  a43 := Tryd.isAgg102
  z43 := Tryd.sizeOf102
  v43 := Tryd.zeroValue102
  i43 := by kernel_rfl
  t45 := Tryd.underlying101
  a45 := Tryd.isAgg101
  z45 := Tryd.sizeOf101
  v45 := Tryd.zeroValue101
  i45 := by kernel_rfl
  t47 := Tryd.underlying104
  a47 := Tryd.isAgg104
  z47 := Tryd.sizeOf104
  v47 := Tryd.zeroValue104
  i47 := by kernel_rfl
  t56 := Tryd.underlying111
  a56 := Tryd.isAgg111
  z56 := Tryd.sizeOf111
  v56 := Tryd.zeroValue111
  i56 := by kernel_rfl
  t58 := Tryd.underlying119
  a58 := Tryd.isAgg119
  z58 := Tryd.sizeOf119
  v58 := Tryd.zeroValue119
  i58 := by kernel_rfl
  t60 := Tryd.underlying121
  a60 := Tryd.isAgg121
  z60 := Tryd.sizeOf121
  v60 := Tryd.zeroValue121
  i60 := by kernel_rfl
  t61 := Tryd.underlying122
  a61 := Tryd.isAgg122
  z61 := Tryd.sizeOf122
  v61 := Tryd.zeroValue122
  i61 := by kernel_rfl
  t65 := Tryd.underlying113
  a65 := Tryd.isAgg113
  z65 := Tryd.sizeOf113
  v65 := Tryd.zeroValue113
  i65 := by kernel_rfl
  t67 := Tryd.underlying130
  a67 := Tryd.isAgg130
  z67 := Tryd.sizeOf130
  v67 := Tryd.zeroValue130
  i67 := by kernel_rfl
  t71 := Tryd.underlying134
  a71 := Tryd.isAgg134
  z71 := Tryd.sizeOf134
  v71 := Tryd.zeroValue134
  i71 := by kernel_rfl
  t73 := Tryd.underlying136
  a73 := Tryd.isAgg136
  z73 := Tryd.sizeOf136
  v73 := Tryd.zeroValue136
  i73 := by kernel_rfl
  t74 := Tryd.underlying137
  a74 := Tryd.isAgg137
  z74 := Tryd.sizeOf137
  v74 := Tryd.zeroValue137
  i74 := by kernel_rfl }
open Go.RowKit Go.Lib Go.Sort in
theorem Tryd.sort_Sort_tiny {α : Type} [Inhabited α] (T : TypeId) (rv : Value) (gn : Nat) (rN : Reaches Tryd.prog T rv "Len" gn) (n : Nat) (hn : n ≤ 1) (w : World) (hlen : LenM Tryd.prog gn rv n w) :
    Calls Tryd.prog 31 #[.iface T rv] w fun e w' => e = .returned (.tuple #[]) ∧ ∃ q, w' = w.drewN q := Any.sort_Sort_tiny Tryd.laysGt11 T rv gn rN n hn w hlen
open Go.RowKit Go.Lib Go.Sort in
/-- **sort.Sort, IN THE DOCUMENTATION's OWN TERMS ("Sort sorts data in ascending order as determined by the Less method. .. The sort is not guaranteed to be stable"): A PERMUTATION OF WHAT THE ROW HELD, SORTED BY 'lt'.** (LAID: no walk: one application.) -/
theorem Tryd.sort_Sort_sorted {α : Type} [Inhabited α] (T : TypeId) (rv : Value) (gn gl gs : Nat) (rN : Reaches Tryd.prog T rv "Len" gn) (rL : Reaches Tryd.prog T rv "Less" gl) (rS : Reaches Tryd.prog T rv "Swap" gs) (enc : α → Value) (lt : α → α → Bool) (hO : SWO lt) (blk off : Nat) (d : Array α) (h2 : 2 ≤ d.size) (hsz : d.size < 4611686018427387904) (w : World) (hlen : LenM Tryd.prog gn rv d.size w) (hless : LessM Tryd.prog gl rv enc lt blk off d.size w) (hswap : SwapM Tryd.prog gs rv enc blk off d.size) (hH : Holds enc w blk off d) (hblk : blk < w.heap.size) :
    Calls Tryd.prog 31 #[.iface T rv] w fun e w' => e = .returned (.tuple #[]) ∧ ∃ d' n os, PermIn 0 d.size d d' ∧ SortedIn lt 0 d.size d' ∧ w' = grow (putRow enc (Sort.ahead w n) blk off d') os := Any.sort_Sort_sorted Tryd.laysGt11 T rv gn gl gs rN rL rS enc lt hO blk off d h2 hsz w hlen hless hswap hH hblk
def Tryd.laysGu48_ren : Go.Shelf.Ren := ⟨fun | 48 => 91 | n => n, fun | 27 => 75 | 3 => 3 | 9 => 9 | n => n, fun | n => n⟩
theorem Tryd.laysGu48 : Go.Proofs.LaysGu.n48 Tryd.prog Tryd.laysGu48_ren := {
  mixed := by kernel_rfl
  f48 := Tryd.func91.trans (congrArg some (by kernel_rfl))
  t3 := Tryd.underlying3
  a3 := Tryd.isAgg3
  z3 := Tryd.sizeOf3
  v3 := Tryd.zeroValue3
  i3 := by kernel_rfl
  t9 := Tryd.underlying9
  a9 := Tryd.isAgg9
  z9 := Tryd.sizeOf9
  v9 := Tryd.zeroValue9
  i9 := by kernel_rfl
  t27 := Tryd.underlying75
  a27 := Tryd.isAgg75
  z27 := Tryd.sizeOf75
  v27 := Tryd.zeroValue75
  i27 := by kernel_rfl }
open Go.RowKit Go.Lib Go.Sort in
theorem Tryd.StringSlice_Len (p : Option Addr) (n c : Nat) (W : World) :
    LenM Tryd.prog 91 (.slice p n c) n W := Any.StringSlice_Len Tryd.laysGu48 p n c W
def Tryd.laysGu49_ren : Go.Shelf.Ren := ⟨fun | 49 => 92 | n => n, fun | 27 => 75 | 3 => 3 | 4 => 4 | 0 => 0 | 9 => 9 | n => n, fun | n => n⟩
theorem Tryd.laysGu49 : Go.Proofs.LaysGu.n49 Tryd.prog Tryd.laysGu49_ren := {
  mixed := by kernel_rfl
  f49 := Tryd.func92.trans (congrArg some (by kernel_rfl))
  t0 := Tryd.underlying0
  a0 := Tryd.isAgg0
  z0 := Tryd.sizeOf0
  v0 := Tryd.zeroValue0
  i0 := by kernel_rfl
  t3 := Tryd.underlying3
  a3 := Tryd.isAgg3
  z3 := Tryd.sizeOf3
  v3 := Tryd.zeroValue3
  i3 := by kernel_rfl
  t4 := Tryd.underlying4
  a4 := Tryd.isAgg4
  z4 := Tryd.sizeOf4
  v4 := Tryd.zeroValue4
  i4 := by kernel_rfl
  t9 := Tryd.underlying9
  a9 := Tryd.isAgg9
  z9 := Tryd.sizeOf9
  v9 := Tryd.zeroValue9
  i9 := by kernel_rfl
  t27 := Tryd.underlying75
  a27 := Tryd.isAgg75
  z27 := Tryd.sizeOf75
  v27 := Tryd.zeroValue75
  i27 := by kernel_rfl }
def Tryd.laysGu51_ren : Go.Shelf.Ren := ⟨fun | 51 => 93 | n => n, fun | 27 => 75 | 3 => 3 | 0 => 0 | 9 => 9 | n => n, fun | n => n⟩
theorem Tryd.laysGu51 : Go.Proofs.LaysGu.n51 Tryd.prog Tryd.laysGu51_ren := {
  mixed := by kernel_rfl
  f51 := Tryd.func93.trans (congrArg some (by kernel_rfl))
  t0 := Tryd.underlying0
  a0 := Tryd.isAgg0
  z0 := Tryd.sizeOf0
  v0 := Tryd.zeroValue0
  i0 := by kernel_rfl
  t3 := Tryd.underlying3
  a3 := Tryd.isAgg3
  z3 := Tryd.sizeOf3
  v3 := Tryd.zeroValue3
  i3 := by kernel_rfl
  t9 := Tryd.underlying9
  a9 := Tryd.isAgg9
  z9 := Tryd.sizeOf9
  v9 := Tryd.zeroValue9
  i9 := by kernel_rfl
  t27 := Tryd.underlying75
  a27 := Tryd.isAgg75
  z27 := Tryd.sizeOf75
  v27 := Tryd.zeroValue75
  i27 := by kernel_rfl }
open Go.RowKit Go.Lib Go.Sort in
theorem Tryd.StringSlice_LessM (blk off c : Nat) (d : Array (List UInt8)) (w : World) (hH : Holds encS w blk off d) (hblk : blk < w.heap.size) (hsz : d.size < 4611686018427387904) :
    LessM Tryd.prog 92 (.slice (some ⟨blk, off, none⟩) d.size c) encS ltStr blk off d.size w := Any.StringSlice_LessM Tryd.laysGu49 blk off c d w hH hblk hsz
open Go.RowKit Go.Lib Go.Sort in
theorem Tryd.StringSlice_SwapM (blk off c size : Nat) (hsz : size < 4611686018427387904) :
    SwapM Tryd.prog 93 (.slice (some ⟨blk, off, none⟩) size c) encS blk off size := Any.StringSlice_SwapM Tryd.laysGu51 blk off c size hsz
end Go.Proofs
