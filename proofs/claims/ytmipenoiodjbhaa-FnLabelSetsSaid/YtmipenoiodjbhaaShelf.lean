/-
  DERIVED: THE SHELF's CONTRACTS AT THIS DUMP, IN PLAIN WORDS (tools/lay-plain.mjs out of 'YtmipenoiodjbhaaShelf.lean', which tools/lay-shelf.mjs wrote): THE SAME DECLARATIONS UNDER THE SAME NAMES: 'import', 'namespace', 'open', 'def', 'theorem' AND NOTHING ELSE: no command of the shelf's: FOR A HAND-IN. Each laying: the table of numbers ('.._ren') and one theorem, a field a fact of the dump's own or the kernel's comparison; each contract: ONE APPLICATION.
-/
import Derived.Shelf.Sort.Plain
import Derived.Shelf.Slices.In.SortNone
import Derived.Test.YtmipenoiodjbhaaProg
namespace Go.Proofs
open Go.Shelf
def Try.lays189_ren : Go.Shelf.Ren := ⟨fun | 189 => 95 | 125 => 104 | 257 => 103 | 128 => 117 | 129 => 118 | 294 => 108 | 295 => 109 | 296 => 110 | 297 => 111 | 298 => 112 | 299 => 113 | 216 => 114 | 300 => 115 | 301 => 116 | 328 => 128 | 329 => 129 | 330 => 130 | 331 => 131 | 332 => 132 | 215 => 133 | 343 => 138 | n => n, fun | 28 => 22 | 3 => 3 | 46 => 53 | 0 => 0 | 51 => 138 | 53 => 140 | 4 => 4 | 183 => 131 | 182 => 130 | 131 => 77 | 5 => 5 | 9 => 9 | 218 => 147 | 222 => 151 | 228 => 155 | 229 => 156 | n => n, fun | n => n⟩
theorem Try.lays189 : Go.Proofs.Lays.n189 Try.prog Try.lays189_ren := {
  mixed := by kernel_rfl
  f125 := Try.func104.trans (congrArg some (by kernel_rfl))
  f128 := Try.func117.trans (congrArg some (by kernel_rfl))
  f129 := Try.func118.trans (congrArg some (by kernel_rfl))
  f189 := Try.func95.trans (congrArg some (by kernel_rfl))
  f215 := Try.func133.trans (congrArg some (by kernel_rfl))
  f216 := Try.func114.trans (congrArg some (by kernel_rfl))
  f257 := Try.func103.trans (congrArg some (by kernel_rfl))
  f294 := Try.func108.trans (congrArg some (by kernel_rfl))
  f295 := Try.func109.trans (congrArg some (by kernel_rfl))
  f296 := Try.func110.trans (congrArg some (by kernel_rfl))
  f297 := Try.func111.trans (congrArg some (by kernel_rfl))
  f298 := Try.func112.trans (congrArg some (by kernel_rfl))
  f299 := Try.func113.trans (congrArg some (by kernel_rfl))
  f300 := Try.func115.trans (congrArg some (by kernel_rfl))
  f301 := Try.func116.trans (congrArg some (by kernel_rfl))
  f328 := Try.func128.trans (congrArg some (by kernel_rfl))
  f329 := Try.func129.trans (congrArg some (by kernel_rfl))
  f330 := Try.func130.trans (congrArg some (by kernel_rfl))
  f331 := Try.func131.trans (congrArg some (by kernel_rfl))
  f332 := Try.func132.trans (congrArg some (by kernel_rfl))
  f343 := Try.func138.trans (congrArg some (by kernel_rfl))
  t0 := Try.underlying0
  a0 := Try.isAgg0
  z0 := Try.sizeOf0
  v0 := Try.zeroValue0
  t3 := Try.underlying3
  a3 := Try.isAgg3
  z3 := Try.sizeOf3
  v3 := Try.zeroValue3
  t4 := Try.underlying4
  a4 := Try.isAgg4
  z4 := Try.sizeOf4
  v4 := Try.zeroValue4
  t5 := Try.underlying5
  a5 := Try.isAgg5
  z5 := Try.sizeOf5
  v5 := Try.zeroValue5
  t9 := Try.underlying9
  a9 := Try.isAgg9
  z9 := Try.sizeOf9
  v9 := Try.zeroValue9
  t28 := Try.underlying22
  a28 := Try.isAgg22
  z28 := Try.sizeOf22
  v28 := Try.zeroValue22
  t46 := Try.underlying53
  a46 := Try.isAgg53
  z46 := Try.sizeOf53
  v46 := Try.zeroValue53
  t51 := Try.underlying138
  a51 := Try.isAgg138
  z51 := Try.sizeOf138
  v51 := Try.zeroValue138
  t53 := Try.underlying140
  a53 := Try.isAgg140
  z53 := Try.sizeOf140
  v53 := Try.zeroValue140
  t131 := Try.underlying77
  a131 := Try.isAgg77
  z131 := Try.sizeOf77
  v131 := Try.zeroValue77
  t182 := Try.underlying130
  a182 := Try.isAgg130
  z182 := Try.sizeOf130
  v182 := Try.zeroValue130
  t183 := Try.underlying131
  a183 := Try.isAgg131
  z183 := Try.sizeOf131
  v183 := Try.zeroValue131
  t218 := Try.underlying147
  a218 := Try.isAgg147
  z218 := Try.sizeOf147
  v218 := Try.zeroValue147
  t222 := Try.underlying151
  a222 := Try.isAgg151
  z222 := Try.sizeOf151
  v222 := Try.zeroValue151
  t228 := Try.underlying155
  a228 := Try.isAgg155
  z228 := Try.sizeOf155
  v228 := Try.zeroValue155
  t229 := Try.underlying156
  a229 := Try.isAgg156
  z229 := Try.sizeOf156
  v229 := Try.zeroValue156 }
open Go.Sort Go.RowKit in
theorem Try.slices_Sort_int (blk off cap : Nat) (zs : List Int) (w : World) (hH : Holds (Value.int .i64) w blk off zs.toArray) (hblk : blk < w.heap.size) (hsz : zs.length < 4611686018427387904) :
    Calls Try.prog 95 #[.slice (some ⟨blk, off, none⟩) zs.length cap] w fun e w' =>
      e = .returned (.tuple #[]) ∧ ∃ n os, w' = grow (putRow (Value.int .i64) (Sort.ahead w n) blk off (zs.mergeSort fun x y => decide (x ≤ y)).toArray) os := Any.slices_Sort_int Try.lays189 blk off cap zs w hH hblk hsz
def Try.lays190_ren : Go.Shelf.Ren := ⟨fun | 190 => 97 | 125 => 104 | 258 => 105 | 128 => 117 | 129 => 118 | 302 => 119 | 303 => 120 | 304 => 121 | 305 => 122 | 306 => 123 | 307 => 124 | 308 => 125 | 309 => 126 | 310 => 127 | 333 => 134 | 329 => 129 | 330 => 130 | 334 => 135 | 335 => 136 | 336 => 137 | 344 => 139 | n => n, fun | 31 => 27 | 9 => 9 | 3 => 3 | 46 => 53 | 0 => 0 | 51 => 138 | 53 => 140 | 4 => 4 | 183 => 131 | 182 => 130 | 131 => 77 | 5 => 5 | 218 => 147 | 222 => 151 | 228 => 155 | 229 => 156 | n => n, fun | n => n⟩
theorem Try.lays190 : Go.Proofs.Lays.n190 Try.prog Try.lays190_ren := {
  mixed := by kernel_rfl
  f125 := Try.func104.trans (congrArg some (by kernel_rfl))
  f128 := Try.func117.trans (congrArg some (by kernel_rfl))
  f129 := Try.func118.trans (congrArg some (by kernel_rfl))
  f190 := Try.func97.trans (congrArg some (by kernel_rfl))
  f258 := Try.func105.trans (congrArg some (by kernel_rfl))
  f302 := Try.func119.trans (congrArg some (by kernel_rfl))
  f303 := Try.func120.trans (congrArg some (by kernel_rfl))
  f304 := Try.func121.trans (congrArg some (by kernel_rfl))
  f305 := Try.func122.trans (congrArg some (by kernel_rfl))
  f306 := Try.func123.trans (congrArg some (by kernel_rfl))
  f307 := Try.func124.trans (congrArg some (by kernel_rfl))
  f308 := Try.func125.trans (congrArg some (by kernel_rfl))
  f309 := Try.func126.trans (congrArg some (by kernel_rfl))
  f310 := Try.func127.trans (congrArg some (by kernel_rfl))
  f329 := Try.func129.trans (congrArg some (by kernel_rfl))
  f330 := Try.func130.trans (congrArg some (by kernel_rfl))
  f333 := Try.func134.trans (congrArg some (by kernel_rfl))
  f334 := Try.func135.trans (congrArg some (by kernel_rfl))
  f335 := Try.func136.trans (congrArg some (by kernel_rfl))
  f336 := Try.func137.trans (congrArg some (by kernel_rfl))
  f344 := Try.func139.trans (congrArg some (by kernel_rfl))
  t0 := Try.underlying0
  a0 := Try.isAgg0
  z0 := Try.sizeOf0
  v0 := Try.zeroValue0
  t3 := Try.underlying3
  a3 := Try.isAgg3
  z3 := Try.sizeOf3
  v3 := Try.zeroValue3
  t4 := Try.underlying4
  a4 := Try.isAgg4
  z4 := Try.sizeOf4
  v4 := Try.zeroValue4
  t5 := Try.underlying5
  a5 := Try.isAgg5
  z5 := Try.sizeOf5
  v5 := Try.zeroValue5
  t9 := Try.underlying9
  a9 := Try.isAgg9
  z9 := Try.sizeOf9
  v9 := Try.zeroValue9
  t31 := Try.underlying27
  a31 := Try.isAgg27
  z31 := Try.sizeOf27
  v31 := Try.zeroValue27
  t46 := Try.underlying53
  a46 := Try.isAgg53
  z46 := Try.sizeOf53
  v46 := Try.zeroValue53
  t51 := Try.underlying138
  a51 := Try.isAgg138
  z51 := Try.sizeOf138
  v51 := Try.zeroValue138
  t53 := Try.underlying140
  a53 := Try.isAgg140
  z53 := Try.sizeOf140
  v53 := Try.zeroValue140
  t131 := Try.underlying77
  a131 := Try.isAgg77
  z131 := Try.sizeOf77
  v131 := Try.zeroValue77
  t182 := Try.underlying130
  a182 := Try.isAgg130
  z182 := Try.sizeOf130
  v182 := Try.zeroValue130
  t183 := Try.underlying131
  a183 := Try.isAgg131
  z183 := Try.sizeOf131
  v183 := Try.zeroValue131
  t218 := Try.underlying147
  a218 := Try.isAgg147
  z218 := Try.sizeOf147
  v218 := Try.zeroValue147
  t222 := Try.underlying151
  a222 := Try.isAgg151
  z222 := Try.sizeOf151
  v222 := Try.zeroValue151
  t228 := Try.underlying155
  a228 := Try.isAgg155
  z228 := Try.sizeOf155
  v228 := Try.zeroValue155
  t229 := Try.underlying156
  a229 := Try.isAgg156
  z229 := Try.sizeOf156
  v229 := Try.zeroValue156 }
open Go.Sort Go.RowKit in
theorem Try.slices_Sort_string (blk off cap : Nat) (ss : List (List UInt8)) (w : World) (hH : Holds encStr w blk off ss.toArray) (hblk : blk < w.heap.size) (hsz : ss.length < 4611686018427387904) :
    Calls Try.prog 97 #[.slice (some ⟨blk, off, none⟩) ss.length cap] w fun e w' =>
      e = .returned (.tuple #[]) ∧ ∃ n os, w' = grow (putRow encStr (Sort.ahead w n) blk off (ss.mergeSort fun x y => decide (x ≤ y)).toArray) os := Any.slices_Sort_string Try.lays190 blk off cap ss w hH hblk hsz
open Go.RowKit Go.Sort in
/-- .. and plain. (LAID: no walk: one application.) -/
theorem Try.slices_Sort_string_none (p : Option Addr) (cap : Nat) (w : World) :
    Calls Try.prog 97 #[.slice p 0 cap] w fun e w' => e = .returned (.tuple #[]) ∧ w' = w := Any.slices_Sort_string_none Try.lays190 p cap w
end Go.Proofs
