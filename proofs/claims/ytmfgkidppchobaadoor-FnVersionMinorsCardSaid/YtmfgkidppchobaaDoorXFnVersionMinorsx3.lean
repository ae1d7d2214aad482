/- A text of this session: the functions of the law FnVersionMinors, by a program that calls the kit's print and lays this session's own contracts of single functions beside. -/
import Derived.Test.YtmfgkidppchobaaDoorXFnVersionMinorsx0
import Derived.Test.YtmfgkidppchobaaDoorXFnVersionMinorsx1
import Derived.Test.YtmfgkidppchobaaDoorXFnVersionMinorsx2
namespace Go.Proofs.YtmfgkidppchobaaDoor.XFnVersionMinors
open Go.Proofs.YtmfgkidppchobaaDoor.Ver5 Go.RowKit Go.Proofs.YtmfgkidppchobaaDoorW.PrintWords Go.Proofs.YtmfgkidppchobaaDoorW.PrintLast Go.Proofs.YtmfgkidppchobaaDoorW.PrintMore
attribute [local go_sem] max2_int min2_int max_two min_two max_three min_three max_four min_four
set_option linter.unusedVariables false
set_option linter.unusedSimpArgs false
def laws_FnVersionMinors.f (k : Nat) (a0 : Int) (a1 : Int) (a2 : Int) : Option (Bool) := (some (([a0, IntKind.u64.wrap (a1)] : List Int) : List Int)).bind fun y123 => ((spec_Version_Text.f k y123 false (⟨#[]⟩ : ByteArray) (⟨#[]⟩ : ByteArray)).bind fun t127 => ((impl_VersionSteps.f k 1 t127 (([(⟨5, IntKind.u64.wrap (Int.tmod a2 2147483648), 0, (⟨#[]⟩ : ByteArray)⟩ : S42), (⟨6, IntKind.u64.wrap (Int.tmod a2 2147483648), 0, (⟨#[]⟩ : ByteArray)⟩ : S42), (⟨7, 0, wrap64 (IntKind.u64.wrap (Int.tmod a2 2147483648)), (⟨#[]⟩ : ByteArray)⟩ : S42), (⟨7, 0, wrap64 (-(wrap64 (IntKind.u64.wrap (Int.tmod a2 2147483648)))), (⟨#[]⟩ : ByteArray)⟩ : S42)] : List (S42)))).bind fun t131 => (if (t131.length : Int) = 5 then ((some (([a0, IntKind.u64.wrap ((IntKind.u64.wrap (a1)) + (IntKind.u64.wrap (Int.tmod a2 2147483648)))] : List Int) : List Int)).bind fun y134 => (if 0 < (t131.length : Int) then ((spec_SameVer.f k y123 false (⟨#[]⟩ : ByteArray) (⟨#[]⟩ : ByteArray) ((rd_T46 t131 0).f0) ((rd_T46 t131 0).f1) ((rd_T46 t131 0).f2) ((rd_T46 t131 0).f3) ((rd_T46 t131 0).f4) ((rd_T46 t131 0).f5) ((rd_T46 t131 0).f6) ((rd_T46 t131 0).f7)).bind fun t139 => (if t139 = true then (if 1 < (t131.length : Int) then ((spec_SameVer.f k y134 false (⟨#[]⟩ : ByteArray) (⟨#[]⟩ : ByteArray) ((rd_T46 t131 1).f0) ((rd_T46 t131 1).f1) ((rd_T46 t131 1).f2) ((rd_T46 t131 1).f3) ((rd_T46 t131 1).f4) ((rd_T46 t131 1).f5) ((rd_T46 t131 1).f6) ((rd_T46 t131 1).f7)).bind fun t141 => (if t141 = true then (if 2 < (t131.length : Int) then ((spec_SameVer.f k y123 false (⟨#[]⟩ : ByteArray) (⟨#[]⟩ : ByteArray) ((rd_T46 t131 2).f0) ((rd_T46 t131 2).f1) ((rd_T46 t131 2).f2) ((rd_T46 t131 2).f3) ((rd_T46 t131 2).f4) ((rd_T46 t131 2).f5) ((rd_T46 t131 2).f6) ((rd_T46 t131 2).f7)).bind fun t143 => (if t143 = true then (if 3 < (t131.length : Int) then ((spec_SameVer.f k y134 false (⟨#[]⟩ : ByteArray) (⟨#[]⟩ : ByteArray) ((rd_T46 t131 3).f0) ((rd_T46 t131 3).f1) ((rd_T46 t131 3).f2) ((rd_T46 t131 3).f3) ((rd_T46 t131 3).f4) ((rd_T46 t131 3).f5) ((rd_T46 t131 3).f6) ((rd_T46 t131 3).f7)).bind fun t145 => (if t145 = true then (if 4 < (t131.length : Int) then ((spec_SameVer.f k y123 false (⟨#[]⟩ : ByteArray) (⟨#[]⟩ : ByteArray) ((rd_T46 t131 4).f0) ((rd_T46 t131 4).f1) ((rd_T46 t131 4).f2) ((rd_T46 t131 4).f3) ((rd_T46 t131 4).f4) ((rd_T46 t131 4).f5) ((rd_T46 t131 4).f6) ((rd_T46 t131 4).f7)).bind fun t147 => (some t147)) else (none)) else (some false))) else (none)) else (some false))) else (none)) else (some false))) else (none)) else (some false))) else (none))) else (some false))))
def laws_FnVersionMinors.T7 : Bool × List (List Nat × List Nat) := (true, [([], []), ([], []), ([1], [1]), ([2], [2]), ([0, 3], [0, 3]), ([4, 4], [4]), ([5], [5]), ([5], [5]), ([7, 5], [5, 7]), ([8, 5], [5, 8]), ([6, 9, 5, 5], [5, 6, 9]), ([5, 10], [5, 10]), ([11, 10], [11]), ([12], [12]), ([12], [12]), ([14, 12], [12, 14]), ([15, 12], [12, 15]), ([13, 16, 12, 12], [12, 13, 16]), ([12, 17], [12, 17]), ([18, 17], [18]), ([19], [19]), ([19], [19]), ([21, 19], [19, 21]), ([22, 19], [19, 22]), ([20, 23, 19, 19], [19, 20, 23]), ([19, 24], [19, 24]), ([25, 24], [25]), ([26], [26]), ([26], [26]), ([28, 26], [26, 28]), ([29, 26], [26, 29]), ([27, 30, 26, 26], [26, 27, 30]), ([26, 31], [26, 31]), ([32, 31, 0, 1, 2, 3, 4, 5, 6, 7, 8, 9, 10, 11, 12, 13, 14, 15, 16, 17, 18, 19, 20, 21, 22, 23, 24, 25, 26, 27, 28, 29, 30, 31, 32], [32])])
def laws_FnVersionMinors.B7 : List Nat := [0, 0, 2, 6, 15, 31, 63, 63, 191, 447, 1023, 2047, 4095, 8191, 8191, 24575, 57343, 131071, 262143, 524287, 1048575, 1048575, 3145727, 7340031, 16777215, 33554431, 67108863, 134217727, 134217727, 402653183, 939524095, 2147483647, 4294967295, 8589934591]
theorem laws_FnVersionMinors.tab7 : rtab .any (opsOf Tryd.f5 7) = laws_FnVersionMinors.T7 := by kernel_rfl
theorem laws_FnVersionMinors.bits7 : waitsOk laws_FnVersionMinors.T7.2 laws_FnVersionMinors.B7 = true := by kernel_rfl
set_option maxHeartbeats 8000000 in
set_option maxRecDepth 100000 in
theorem laws_FnVersionMinors.calls (k : Nat) (a0 : Int) (a1 : Int) (a2 : Int) (r : Bool) (w : World) (h : laws_FnVersionMinors.f k a0 a1 a2 = some r) (hV : VT.V w := by first | assumption | exact VT.V.below hV (by repeat (first | exact HB.out | exact HB | exact Below.refl _ _ | apply below_alloc | apply pw_below_drewN | apply below_drew1))) (hrt : r = true := by first | rfl | assumption | exact hrt.out) :
  Calls Tryd.prog 5 #[.int .u64 a0, .int .u32 a1, .int .u32 a2] w fun e w' => e = .returned (.bool r) ∧ Below w.heap.size w w' := by
 have hrt := Aside0.mk hrt
 have hu25 := Tryd.underlying25
 have hu42 := Tryd.underlying42
 have hu46 := Tryd.underlying46
 have HB := Aside0.mk (Below.refl w.heap.size w)
 have H : ((some (([a0, IntKind.u64.wrap (a1)] : List Int) : List Int)).bind fun y123 => ((spec_Version_Text.f k y123 false (⟨#[]⟩ : ByteArray) (⟨#[]⟩ : ByteArray)).bind fun t127 => ((impl_VersionSteps.f k 1 t127 (([(⟨5, IntKind.u64.wrap (Int.tmod a2 2147483648), 0, (⟨#[]⟩ : ByteArray)⟩ : S42), (⟨6, IntKind.u64.wrap (Int.tmod a2 2147483648), 0, (⟨#[]⟩ : ByteArray)⟩ : S42), (⟨7, 0, wrap64 (IntKind.u64.wrap (Int.tmod a2 2147483648)), (⟨#[]⟩ : ByteArray)⟩ : S42), (⟨7, 0, wrap64 (-(wrap64 (IntKind.u64.wrap (Int.tmod a2 2147483648)))), (⟨#[]⟩ : ByteArray)⟩ : S42)] : List (S42)))).bind fun t131 => (if (t131.length : Int) = 5 then ((some (([a0, IntKind.u64.wrap ((IntKind.u64.wrap (a1)) + (IntKind.u64.wrap (Int.tmod a2 2147483648)))] : List Int) : List Int)).bind fun y134 => (if 0 < (t131.length : Int) then ((spec_SameVer.f k y123 false (⟨#[]⟩ : ByteArray) (⟨#[]⟩ : ByteArray) ((rd_T46 t131 0).f0) ((rd_T46 t131 0).f1) ((rd_T46 t131 0).f2) ((rd_T46 t131 0).f3) ((rd_T46 t131 0).f4) ((rd_T46 t131 0).f5) ((rd_T46 t131 0).f6) ((rd_T46 t131 0).f7)).bind fun t139 => (if t139 = true then (if 1 < (t131.length : Int) then ((spec_SameVer.f k y134 false (⟨#[]⟩ : ByteArray) (⟨#[]⟩ : ByteArray) ((rd_T46 t131 1).f0) ((rd_T46 t131 1).f1) ((rd_T46 t131 1).f2) ((rd_T46 t131 1).f3) ((rd_T46 t131 1).f4) ((rd_T46 t131 1).f5) ((rd_T46 t131 1).f6) ((rd_T46 t131 1).f7)).bind fun t141 => (if t141 = true then (if 2 < (t131.length : Int) then ((spec_SameVer.f k y123 false (⟨#[]⟩ : ByteArray) (⟨#[]⟩ : ByteArray) ((rd_T46 t131 2).f0) ((rd_T46 t131 2).f1) ((rd_T46 t131 2).f2) ((rd_T46 t131 2).f3) ((rd_T46 t131 2).f4) ((rd_T46 t131 2).f5) ((rd_T46 t131 2).f6) ((rd_T46 t131 2).f7)).bind fun t143 => (if t143 = true then (if 3 < (t131.length : Int) then ((spec_SameVer.f k y134 false (⟨#[]⟩ : ByteArray) (⟨#[]⟩ : ByteArray) ((rd_T46 t131 3).f0) ((rd_T46 t131 3).f1) ((rd_T46 t131 3).f2) ((rd_T46 t131 3).f3) ((rd_T46 t131 3).f4) ((rd_T46 t131 3).f5) ((rd_T46 t131 3).f6) ((rd_T46 t131 3).f7)).bind fun t145 => (if t145 = true then (if 4 < (t131.length : Int) then ((spec_SameVer.f k y123 false (⟨#[]⟩ : ByteArray) (⟨#[]⟩ : ByteArray) ((rd_T46 t131 4).f0) ((rd_T46 t131 4).f1) ((rd_T46 t131 4).f2) ((rd_T46 t131 4).f3) ((rd_T46 t131 4).f4) ((rd_T46 t131 4).f5) ((rd_T46 t131 4).f6) ((rd_T46 t131 4).f7)).bind fun t147 => (some t147)) else (none)) else (some false))) else (none)) else (some false))) else (none)) else (some false))) else (none)) else (some false))) else (none))) else (some false))))) = some r := h
 clear h
 obtain ⟨y123, hy123⟩ : ∃ y_ : List Int, y_ = (([a0, IntKind.u64.wrap (a1)] : List Int)) := ⟨_, rfl⟩
 replace H : ((spec_Version_Text.f k y123 false (⟨#[]⟩ : ByteArray) (⟨#[]⟩ : ByteArray)).bind fun t127 => ((impl_VersionSteps.f k 1 t127 (([(⟨5, IntKind.u64.wrap (Int.tmod a2 2147483648), 0, (⟨#[]⟩ : ByteArray)⟩ : S42), (⟨6, IntKind.u64.wrap (Int.tmod a2 2147483648), 0, (⟨#[]⟩ : ByteArray)⟩ : S42), (⟨7, 0, wrap64 (IntKind.u64.wrap (Int.tmod a2 2147483648)), (⟨#[]⟩ : ByteArray)⟩ : S42), (⟨7, 0, wrap64 (-(wrap64 (IntKind.u64.wrap (Int.tmod a2 2147483648)))), (⟨#[]⟩ : ByteArray)⟩ : S42)] : List (S42)))).bind fun t131 => (if (t131.length : Int) = 5 then ((some (([a0, IntKind.u64.wrap ((IntKind.u64.wrap (a1)) + (IntKind.u64.wrap (Int.tmod a2 2147483648)))] : List Int) : List Int)).bind fun y134 => (if 0 < (t131.length : Int) then ((spec_SameVer.f k y123 false (⟨#[]⟩ : ByteArray) (⟨#[]⟩ : ByteArray) ((rd_T46 t131 0).f0) ((rd_T46 t131 0).f1) ((rd_T46 t131 0).f2) ((rd_T46 t131 0).f3) ((rd_T46 t131 0).f4) ((rd_T46 t131 0).f5) ((rd_T46 t131 0).f6) ((rd_T46 t131 0).f7)).bind fun t139 => (if t139 = true then (if 1 < (t131.length : Int) then ((spec_SameVer.f k y134 false (⟨#[]⟩ : ByteArray) (⟨#[]⟩ : ByteArray) ((rd_T46 t131 1).f0) ((rd_T46 t131 1).f1) ((rd_T46 t131 1).f2) ((rd_T46 t131 1).f3) ((rd_T46 t131 1).f4) ((rd_T46 t131 1).f5) ((rd_T46 t131 1).f6) ((rd_T46 t131 1).f7)).bind fun t141 => (if t141 = true then (if 2 < (t131.length : Int) then ((spec_SameVer.f k y123 false (⟨#[]⟩ : ByteArray) (⟨#[]⟩ : ByteArray) ((rd_T46 t131 2).f0) ((rd_T46 t131 2).f1) ((rd_T46 t131 2).f2) ((rd_T46 t131 2).f3) ((rd_T46 t131 2).f4) ((rd_T46 t131 2).f5) ((rd_T46 t131 2).f6) ((rd_T46 t131 2).f7)).bind fun t143 => (if t143 = true then (if 3 < (t131.length : Int) then ((spec_SameVer.f k y134 false (⟨#[]⟩ : ByteArray) (⟨#[]⟩ : ByteArray) ((rd_T46 t131 3).f0) ((rd_T46 t131 3).f1) ((rd_T46 t131 3).f2) ((rd_T46 t131 3).f3) ((rd_T46 t131 3).f4) ((rd_T46 t131 3).f5) ((rd_T46 t131 3).f6) ((rd_T46 t131 3).f7)).bind fun t145 => (if t145 = true then (if 4 < (t131.length : Int) then ((spec_SameVer.f k y123 false (⟨#[]⟩ : ByteArray) (⟨#[]⟩ : ByteArray) ((rd_T46 t131 4).f0) ((rd_T46 t131 4).f1) ((rd_T46 t131 4).f2) ((rd_T46 t131 4).f3) ((rd_T46 t131 4).f4) ((rd_T46 t131 4).f5) ((rd_T46 t131 4).f6) ((rd_T46 t131 4).f7)).bind fun t147 => (some t147)) else (none)) else (some false))) else (none)) else (some false))) else (none)) else (some false))) else (none)) else (some false))) else (none))) else (some false)))) = some r := by first | (rw [hy123]; with_reducible exact H) | (have H2_ := (Option.bind_some _ _).symm.trans H; rw [hy123]; with_reducible exact H2_) | (have H2_ := (Option.bind_some _ _).symm.trans H; with_reducible exact H2_) | with_reducible exact H | (rw [hy123]; exact H) | exact H
 have Ny123 := Aside0.mk hy123
 clear hy123
 replace H := Option.bind_eq_some_iff.mp H
 obtain ⟨t127, A40, H⟩ := H
 replace H : ((impl_VersionSteps.f k 1 t127 (([(⟨5, IntKind.u64.wrap (Int.tmod a2 2147483648), 0, (⟨#[]⟩ : ByteArray)⟩ : S42), (⟨6, IntKind.u64.wrap (Int.tmod a2 2147483648), 0, (⟨#[]⟩ : ByteArray)⟩ : S42), (⟨7, 0, wrap64 (IntKind.u64.wrap (Int.tmod a2 2147483648)), (⟨#[]⟩ : ByteArray)⟩ : S42), (⟨7, 0, wrap64 (-(wrap64 (IntKind.u64.wrap (Int.tmod a2 2147483648)))), (⟨#[]⟩ : ByteArray)⟩ : S42)] : List (S42)))).bind fun t131 => (if (t131.length : Int) = 5 then ((some (([a0, IntKind.u64.wrap ((IntKind.u64.wrap (a1)) + (IntKind.u64.wrap (Int.tmod a2 2147483648)))] : List Int) : List Int)).bind fun y134 => (if 0 < (t131.length : Int) then ((spec_SameVer.f k y123 false (⟨#[]⟩ : ByteArray) (⟨#[]⟩ : ByteArray) ((rd_T46 t131 0).f0) ((rd_T46 t131 0).f1) ((rd_T46 t131 0).f2) ((rd_T46 t131 0).f3) ((rd_T46 t131 0).f4) ((rd_T46 t131 0).f5) ((rd_T46 t131 0).f6) ((rd_T46 t131 0).f7)).bind fun t139 => (if t139 = true then (if 1 < (t131.length : Int) then ((spec_SameVer.f k y134 false (⟨#[]⟩ : ByteArray) (⟨#[]⟩ : ByteArray) ((rd_T46 t131 1).f0) ((rd_T46 t131 1).f1) ((rd_T46 t131 1).f2) ((rd_T46 t131 1).f3) ((rd_T46 t131 1).f4) ((rd_T46 t131 1).f5) ((rd_T46 t131 1).f6) ((rd_T46 t131 1).f7)).bind fun t141 => (if t141 = true then (if 2 < (t131.length : Int) then ((spec_SameVer.f k y123 false (⟨#[]⟩ : ByteArray) (⟨#[]⟩ : ByteArray) ((rd_T46 t131 2).f0) ((rd_T46 t131 2).f1) ((rd_T46 t131 2).f2) ((rd_T46 t131 2).f3) ((rd_T46 t131 2).f4) ((rd_T46 t131 2).f5) ((rd_T46 t131 2).f6) ((rd_T46 t131 2).f7)).bind fun t143 => (if t143 = true then (if 3 < (t131.length : Int) then ((spec_SameVer.f k y134 false (⟨#[]⟩ : ByteArray) (⟨#[]⟩ : ByteArray) ((rd_T46 t131 3).f0) ((rd_T46 t131 3).f1) ((rd_T46 t131 3).f2) ((rd_T46 t131 3).f3) ((rd_T46 t131 3).f4) ((rd_T46 t131 3).f5) ((rd_T46 t131 3).f6) ((rd_T46 t131 3).f7)).bind fun t145 => (if t145 = true then (if 4 < (t131.length : Int) then ((spec_SameVer.f k y123 false (⟨#[]⟩ : ByteArray) (⟨#[]⟩ : ByteArray) ((rd_T46 t131 4).f0) ((rd_T46 t131 4).f1) ((rd_T46 t131 4).f2) ((rd_T46 t131 4).f3) ((rd_T46 t131 4).f4) ((rd_T46 t131 4).f5) ((rd_T46 t131 4).f6) ((rd_T46 t131 4).f7)).bind fun t147 => (some t147)) else (none)) else (some false))) else (none)) else (some false))) else (none)) else (some false))) else (none)) else (some false))) else (none))) else (some false))) = some r := H
 have A4 := Aside0.mk A40
 clear A40
 obtain ⟨y128, hy128⟩ : ∃ y_ : List (S42), y_ = (([(⟨5, IntKind.u64.wrap (Int.tmod a2 2147483648), 0, (⟨#[]⟩ : ByteArray)⟩ : S42), (⟨6, IntKind.u64.wrap (Int.tmod a2 2147483648), 0, (⟨#[]⟩ : ByteArray)⟩ : S42), (⟨7, 0, wrap64 (IntKind.u64.wrap (Int.tmod a2 2147483648)), (⟨#[]⟩ : ByteArray)⟩ : S42), (⟨7, 0, wrap64 (-(wrap64 (IntKind.u64.wrap (Int.tmod a2 2147483648)))), (⟨#[]⟩ : ByteArray)⟩ : S42)] : List (S42))) := ⟨_, rfl⟩
 replace H : ((impl_VersionSteps.f k 1 t127 y128).bind fun t131 => (if (t131.length : Int) = 5 then ((some (([a0, IntKind.u64.wrap ((IntKind.u64.wrap (a1)) + (IntKind.u64.wrap (Int.tmod a2 2147483648)))] : List Int) : List Int)).bind fun y134 => (if 0 < (t131.length : Int) then ((spec_SameVer.f k y123 false (⟨#[]⟩ : ByteArray) (⟨#[]⟩ : ByteArray) ((rd_T46 t131 0).f0) ((rd_T46 t131 0).f1) ((rd_T46 t131 0).f2) ((rd_T46 t131 0).f3) ((rd_T46 t131 0).f4) ((rd_T46 t131 0).f5) ((rd_T46 t131 0).f6) ((rd_T46 t131 0).f7)).bind fun t139 => (if t139 = true then (if 1 < (t131.length : Int) then ((spec_SameVer.f k y134 false (⟨#[]⟩ : ByteArray) (⟨#[]⟩ : ByteArray) ((rd_T46 t131 1).f0) ((rd_T46 t131 1).f1) ((rd_T46 t131 1).f2) ((rd_T46 t131 1).f3) ((rd_T46 t131 1).f4) ((rd_T46 t131 1).f5) ((rd_T46 t131 1).f6) ((rd_T46 t131 1).f7)).bind fun t141 => (if t141 = true then (if 2 < (t131.length : Int) then ((spec_SameVer.f k y123 false (⟨#[]⟩ : ByteArray) (⟨#[]⟩ : ByteArray) ((rd_T46 t131 2).f0) ((rd_T46 t131 2).f1) ((rd_T46 t131 2).f2) ((rd_T46 t131 2).f3) ((rd_T46 t131 2).f4) ((rd_T46 t131 2).f5) ((rd_T46 t131 2).f6) ((rd_T46 t131 2).f7)).bind fun t143 => (if t143 = true then (if 3 < (t131.length : Int) then ((spec_SameVer.f k y134 false (⟨#[]⟩ : ByteArray) (⟨#[]⟩ : ByteArray) ((rd_T46 t131 3).f0) ((rd_T46 t131 3).f1) ((rd_T46 t131 3).f2) ((rd_T46 t131 3).f3) ((rd_T46 t131 3).f4) ((rd_T46 t131 3).f5) ((rd_T46 t131 3).f6) ((rd_T46 t131 3).f7)).bind fun t145 => (if t145 = true then (if 4 < (t131.length : Int) then ((spec_SameVer.f k y123 false (⟨#[]⟩ : ByteArray) (⟨#[]⟩ : ByteArray) ((rd_T46 t131 4).f0) ((rd_T46 t131 4).f1) ((rd_T46 t131 4).f2) ((rd_T46 t131 4).f3) ((rd_T46 t131 4).f4) ((rd_T46 t131 4).f5) ((rd_T46 t131 4).f6) ((rd_T46 t131 4).f7)).bind fun t147 => (some t147)) else (none)) else (some false))) else (none)) else (some false))) else (none)) else (some false))) else (none)) else (some false))) else (none))) else (some false))) = some r := by first | (rw [hy128]; with_reducible exact H) | (have H2_ := (Option.bind_some _ _).symm.trans H; rw [hy128]; with_reducible exact H2_) | (have H2_ := (Option.bind_some _ _).symm.trans H; with_reducible exact H2_) | with_reducible exact H | (rw [hy128]; exact H) | exact H
 have Ny128 := Aside0.mk hy128
 clear hy128
 replace H := Option.bind_eq_some_iff.mp H
 obtain ⟨t131, A50, H⟩ := H
 replace H : (if (t131.length : Int) = 5 then ((some (([a0, IntKind.u64.wrap ((IntKind.u64.wrap (a1)) + (IntKind.u64.wrap (Int.tmod a2 2147483648)))] : List Int) : List Int)).bind fun y134 => (if 0 < (t131.length : Int) then ((spec_SameVer.f k y123 false (⟨#[]⟩ : ByteArray) (⟨#[]⟩ : ByteArray) ((rd_T46 t131 0).f0) ((rd_T46 t131 0).f1) ((rd_T46 t131 0).f2) ((rd_T46 t131 0).f3) ((rd_T46 t131 0).f4) ((rd_T46 t131 0).f5) ((rd_T46 t131 0).f6) ((rd_T46 t131 0).f7)).bind fun t139 => (if t139 = true then (if 1 < (t131.length : Int) then ((spec_SameVer.f k y134 false (⟨#[]⟩ : ByteArray) (⟨#[]⟩ : ByteArray) ((rd_T46 t131 1).f0) ((rd_T46 t131 1).f1) ((rd_T46 t131 1).f2) ((rd_T46 t131 1).f3) ((rd_T46 t131 1).f4) ((rd_T46 t131 1).f5) ((rd_T46 t131 1).f6) ((rd_T46 t131 1).f7)).bind fun t141 => (if t141 = true then (if 2 < (t131.length : Int) then ((spec_SameVer.f k y123 false (⟨#[]⟩ : ByteArray) (⟨#[]⟩ : ByteArray) ((rd_T46 t131 2).f0) ((rd_T46 t131 2).f1) ((rd_T46 t131 2).f2) ((rd_T46 t131 2).f3) ((rd_T46 t131 2).f4) ((rd_T46 t131 2).f5) ((rd_T46 t131 2).f6) ((rd_T46 t131 2).f7)).bind fun t143 => (if t143 = true then (if 3 < (t131.length : Int) then ((spec_SameVer.f k y134 false (⟨#[]⟩ : ByteArray) (⟨#[]⟩ : ByteArray) ((rd_T46 t131 3).f0) ((rd_T46 t131 3).f1) ((rd_T46 t131 3).f2) ((rd_T46 t131 3).f3) ((rd_T46 t131 3).f4) ((rd_T46 t131 3).f5) ((rd_T46 t131 3).f6) ((rd_T46 t131 3).f7)).bind fun t145 => (if t145 = true then (if 4 < (t131.length : Int) then ((spec_SameVer.f k y123 false (⟨#[]⟩ : ByteArray) (⟨#[]⟩ : ByteArray) ((rd_T46 t131 4).f0) ((rd_T46 t131 4).f1) ((rd_T46 t131 4).f2) ((rd_T46 t131 4).f3) ((rd_T46 t131 4).f4) ((rd_T46 t131 4).f5) ((rd_T46 t131 4).f6) ((rd_T46 t131 4).f7)).bind fun t147 => (some t147)) else (none)) else (some false))) else (none)) else (some false))) else (none)) else (some false))) else (none)) else (some false))) else (none))) else (some false)) = some r := H
 have A5 := Aside0.mk A50
 clear A50
 by_cases c6 : (t131.length : Int) = 5
 ·rw [if_pos c6] at H
  have c6b0 : ((t131.length : Int) == 5) = true := beq_iff_eq.mpr c6
  have c6b1 : ((t131.length : Int) != 5) = false := bne_eq_false_iff_eq.mpr c6
  clear c6
  obtain ⟨y134, hy134⟩ : ∃ y_ : List Int, y_ = (([a0, IntKind.u64.wrap ((IntKind.u64.wrap (a1)) + (IntKind.u64.wrap (Int.tmod a2 2147483648)))] : List Int)) := ⟨_, rfl⟩
  replace H : (if 0 < (t131.length : Int) then ((spec_SameVer.f k y123 false (⟨#[]⟩ : ByteArray) (⟨#[]⟩ : ByteArray) ((rd_T46 t131 0).f0) ((rd_T46 t131 0).f1) ((rd_T46 t131 0).f2) ((rd_T46 t131 0).f3) ((rd_T46 t131 0).f4) ((rd_T46 t131 0).f5) ((rd_T46 t131 0).f6) ((rd_T46 t131 0).f7)).bind fun t139 => (if t139 = true then (if 1 < (t131.length : Int) then ((spec_SameVer.f k y134 false (⟨#[]⟩ : ByteArray) (⟨#[]⟩ : ByteArray) ((rd_T46 t131 1).f0) ((rd_T46 t131 1).f1) ((rd_T46 t131 1).f2) ((rd_T46 t131 1).f3) ((rd_T46 t131 1).f4) ((rd_T46 t131 1).f5) ((rd_T46 t131 1).f6) ((rd_T46 t131 1).f7)).bind fun t141 => (if t141 = true then (if 2 < (t131.length : Int) then ((spec_SameVer.f k y123 false (⟨#[]⟩ : ByteArray) (⟨#[]⟩ : ByteArray) ((rd_T46 t131 2).f0) ((rd_T46 t131 2).f1) ((rd_T46 t131 2).f2) ((rd_T46 t131 2).f3) ((rd_T46 t131 2).f4) ((rd_T46 t131 2).f5) ((rd_T46 t131 2).f6) ((rd_T46 t131 2).f7)).bind fun t143 => (if t143 = true then (if 3 < (t131.length : Int) then ((spec_SameVer.f k y134 false (⟨#[]⟩ : ByteArray) (⟨#[]⟩ : ByteArray) ((rd_T46 t131 3).f0) ((rd_T46 t131 3).f1) ((rd_T46 t131 3).f2) ((rd_T46 t131 3).f3) ((rd_T46 t131 3).f4) ((rd_T46 t131 3).f5) ((rd_T46 t131 3).f6) ((rd_T46 t131 3).f7)).bind fun t145 => (if t145 = true then (if 4 < (t131.length : Int) then ((spec_SameVer.f k y123 false (⟨#[]⟩ : ByteArray) (⟨#[]⟩ : ByteArray) ((rd_T46 t131 4).f0) ((rd_T46 t131 4).f1) ((rd_T46 t131 4).f2) ((rd_T46 t131 4).f3) ((rd_T46 t131 4).f4) ((rd_T46 t131 4).f5) ((rd_T46 t131 4).f6) ((rd_T46 t131 4).f7)).bind fun t147 => (some t147)) else (none)) else (some false))) else (none)) else (some false))) else (none)) else (some false))) else (none)) else (some false))) else (none)) = some r := by first | (rw [hy134]; with_reducible exact H) | (have H2_ := (Option.bind_some _ _).symm.trans H; rw [hy134]; with_reducible exact H2_) | (have H2_ := (Option.bind_some _ _).symm.trans H; with_reducible exact H2_) | with_reducible exact H | (rw [hy134]; exact H) | exact H
  have Ny134 := Aside0.mk hy134
  clear hy134
  by_cases c7 : 0 < (t131.length : Int)
  ·rw [if_pos c7] at H
   have c7b0 : decide (0 < (t131.length : Int)) = true := decide_eq_true c7
   have c7b1 : decide (0 < t131.length) = true := decide_eq_true (by omega)
   clear c7
   replace H := Option.bind_eq_some_iff.mp H
   obtain ⟨t139, A80, H⟩ := H
   replace H : (if t139 = true then (if 1 < (t131.length : Int) then ((spec_SameVer.f k y134 false (⟨#[]⟩ : ByteArray) (⟨#[]⟩ : ByteArray) ((rd_T46 t131 1).f0) ((rd_T46 t131 1).f1) ((rd_T46 t131 1).f2) ((rd_T46 t131 1).f3) ((rd_T46 t131 1).f4) ((rd_T46 t131 1).f5) ((rd_T46 t131 1).f6) ((rd_T46 t131 1).f7)).bind fun t141 => (if t141 = true then (if 2 < (t131.length : Int) then ((spec_SameVer.f k y123 false (⟨#[]⟩ : ByteArray) (⟨#[]⟩ : ByteArray) ((rd_T46 t131 2).f0) ((rd_T46 t131 2).f1) ((rd_T46 t131 2).f2) ((rd_T46 t131 2).f3) ((rd_T46 t131 2).f4) ((rd_T46 t131 2).f5) ((rd_T46 t131 2).f6) ((rd_T46 t131 2).f7)).bind fun t143 => (if t143 = true then (if 3 < (t131.length : Int) then ((spec_SameVer.f k y134 false (⟨#[]⟩ : ByteArray) (⟨#[]⟩ : ByteArray) ((rd_T46 t131 3).f0) ((rd_T46 t131 3).f1) ((rd_T46 t131 3).f2) ((rd_T46 t131 3).f3) ((rd_T46 t131 3).f4) ((rd_T46 t131 3).f5) ((rd_T46 t131 3).f6) ((rd_T46 t131 3).f7)).bind fun t145 => (if t145 = true then (if 4 < (t131.length : Int) then ((spec_SameVer.f k y123 false (⟨#[]⟩ : ByteArray) (⟨#[]⟩ : ByteArray) ((rd_T46 t131 4).f0) ((rd_T46 t131 4).f1) ((rd_T46 t131 4).f2) ((rd_T46 t131 4).f3) ((rd_T46 t131 4).f4) ((rd_T46 t131 4).f5) ((rd_T46 t131 4).f6) ((rd_T46 t131 4).f7)).bind fun t147 => (some t147)) else (none)) else (some false))) else (none)) else (some false))) else (none)) else (some false))) else (none)) else (some false)) = some r := H
   have A8 := Aside0.mk A80
   clear A80
   by_cases c9 : t139 = true
   ·subst c9
    have H1 : (if 1 < (t131.length : Int) then ((spec_SameVer.f k y134 false (⟨#[]⟩ : ByteArray) (⟨#[]⟩ : ByteArray) ((rd_T46 t131 1).f0) ((rd_T46 t131 1).f1) ((rd_T46 t131 1).f2) ((rd_T46 t131 1).f3) ((rd_T46 t131 1).f4) ((rd_T46 t131 1).f5) ((rd_T46 t131 1).f6) ((rd_T46 t131 1).f7)).bind fun t141 => (if t141 = true then (if 2 < (t131.length : Int) then ((spec_SameVer.f k y123 false (⟨#[]⟩ : ByteArray) (⟨#[]⟩ : ByteArray) ((rd_T46 t131 2).f0) ((rd_T46 t131 2).f1) ((rd_T46 t131 2).f2) ((rd_T46 t131 2).f3) ((rd_T46 t131 2).f4) ((rd_T46 t131 2).f5) ((rd_T46 t131 2).f6) ((rd_T46 t131 2).f7)).bind fun t143 => (if t143 = true then (if 3 < (t131.length : Int) then ((spec_SameVer.f k y134 false (⟨#[]⟩ : ByteArray) (⟨#[]⟩ : ByteArray) ((rd_T46 t131 3).f0) ((rd_T46 t131 3).f1) ((rd_T46 t131 3).f2) ((rd_T46 t131 3).f3) ((rd_T46 t131 3).f4) ((rd_T46 t131 3).f5) ((rd_T46 t131 3).f6) ((rd_T46 t131 3).f7)).bind fun t145 => (if t145 = true then (if 4 < (t131.length : Int) then ((spec_SameVer.f k y123 false (⟨#[]⟩ : ByteArray) (⟨#[]⟩ : ByteArray) ((rd_T46 t131 4).f0) ((rd_T46 t131 4).f1) ((rd_T46 t131 4).f2) ((rd_T46 t131 4).f3) ((rd_T46 t131 4).f4) ((rd_T46 t131 4).f5) ((rd_T46 t131 4).f6) ((rd_T46 t131 4).f7)).bind fun t147 => (some t147)) else (none)) else (some false))) else (none)) else (some false))) else (none)) else (some false))) else (none)) = some r := by rw [if_pos rfl] at H; exact H
    clear H
    have H := H1
    clear H1
    by_cases c10 : 1 < (t131.length : Int)
    ·rw [if_pos c10] at H
     have c10b0 : decide (1 < (t131.length : Int)) = true := decide_eq_true c10
     have c10b1 : decide (1 < t131.length) = true := decide_eq_true (by omega)
     clear c10
     replace H := Option.bind_eq_some_iff.mp H
     obtain ⟨t141, A110, H⟩ := H
     replace H : (if t141 = true then (if 2 < (t131.length : Int) then ((spec_SameVer.f k y123 false (⟨#[]⟩ : ByteArray) (⟨#[]⟩ : ByteArray) ((rd_T46 t131 2).f0) ((rd_T46 t131 2).f1) ((rd_T46 t131 2).f2) ((rd_T46 t131 2).f3) ((rd_T46 t131 2).f4) ((rd_T46 t131 2).f5) ((rd_T46 t131 2).f6) ((rd_T46 t131 2).f7)).bind fun t143 => (if t143 = true then (if 3 < (t131.length : Int) then ((spec_SameVer.f k y134 false (⟨#[]⟩ : ByteArray) (⟨#[]⟩ : ByteArray) ((rd_T46 t131 3).f0) ((rd_T46 t131 3).f1) ((rd_T46 t131 3).f2) ((rd_T46 t131 3).f3) ((rd_T46 t131 3).f4) ((rd_T46 t131 3).f5) ((rd_T46 t131 3).f6) ((rd_T46 t131 3).f7)).bind fun t145 => (if t145 = true then (if 4 < (t131.length : Int) then ((spec_SameVer.f k y123 false (⟨#[]⟩ : ByteArray) (⟨#[]⟩ : ByteArray) ((rd_T46 t131 4).f0) ((rd_T46 t131 4).f1) ((rd_T46 t131 4).f2) ((rd_T46 t131 4).f3) ((rd_T46 t131 4).f4) ((rd_T46 t131 4).f5) ((rd_T46 t131 4).f6) ((rd_T46 t131 4).f7)).bind fun t147 => (some t147)) else (none)) else (some false))) else (none)) else (some false))) else (none)) else (some false)) = some r := H
     have A11 := Aside0.mk A110
     clear A110
     by_cases c12 : t141 = true
     ·subst c12
      have H1 : (if 2 < (t131.length : Int) then ((spec_SameVer.f k y123 false (⟨#[]⟩ : ByteArray) (⟨#[]⟩ : ByteArray) ((rd_T46 t131 2).f0) ((rd_T46 t131 2).f1) ((rd_T46 t131 2).f2) ((rd_T46 t131 2).f3) ((rd_T46 t131 2).f4) ((rd_T46 t131 2).f5) ((rd_T46 t131 2).f6) ((rd_T46 t131 2).f7)).bind fun t143 => (if t143 = true then (if 3 < (t131.length : Int) then ((spec_SameVer.f k y134 false (⟨#[]⟩ : ByteArray) (⟨#[]⟩ : ByteArray) ((rd_T46 t131 3).f0) ((rd_T46 t131 3).f1) ((rd_T46 t131 3).f2) ((rd_T46 t131 3).f3) ((rd_T46 t131 3).f4) ((rd_T46 t131 3).f5) ((rd_T46 t131 3).f6) ((rd_T46 t131 3).f7)).bind fun t145 => (if t145 = true then (if 4 < (t131.length : Int) then ((spec_SameVer.f k y123 false (⟨#[]⟩ : ByteArray) (⟨#[]⟩ : ByteArray) ((rd_T46 t131 4).f0) ((rd_T46 t131 4).f1) ((rd_T46 t131 4).f2) ((rd_T46 t131 4).f3) ((rd_T46 t131 4).f4) ((rd_T46 t131 4).f5) ((rd_T46 t131 4).f6) ((rd_T46 t131 4).f7)).bind fun t147 => (some t147)) else (none)) else (some false))) else (none)) else (some false))) else (none)) = some r := by rw [if_pos rfl] at H; exact H
      clear H
      have H := H1
      clear H1
      by_cases c13 : 2 < (t131.length : Int)
      ·rw [if_pos c13] at H
       have c13b0 : decide (2 < (t131.length : Int)) = true := decide_eq_true c13
       have c13b1 : decide (2 < t131.length) = true := decide_eq_true (by omega)
       clear c13
       replace H := Option.bind_eq_some_iff.mp H
       obtain ⟨t143, A140, H⟩ := H
       replace H : (if t143 = true then (if 3 < (t131.length : Int) then ((spec_SameVer.f k y134 false (⟨#[]⟩ : ByteArray) (⟨#[]⟩ : ByteArray) ((rd_T46 t131 3).f0) ((rd_T46 t131 3).f1) ((rd_T46 t131 3).f2) ((rd_T46 t131 3).f3) ((rd_T46 t131 3).f4) ((rd_T46 t131 3).f5) ((rd_T46 t131 3).f6) ((rd_T46 t131 3).f7)).bind fun t145 => (if t145 = true then (if 4 < (t131.length : Int) then ((spec_SameVer.f k y123 false (⟨#[]⟩ : ByteArray) (⟨#[]⟩ : ByteArray) ((rd_T46 t131 4).f0) ((rd_T46 t131 4).f1) ((rd_T46 t131 4).f2) ((rd_T46 t131 4).f3) ((rd_T46 t131 4).f4) ((rd_T46 t131 4).f5) ((rd_T46 t131 4).f6) ((rd_T46 t131 4).f7)).bind fun t147 => (some t147)) else (none)) else (some false))) else (none)) else (some false)) = some r := H
       have A14 := Aside0.mk A140
       clear A140
       by_cases c15 : t143 = true
       ·subst c15
        have H1 : (if 3 < (t131.length : Int) then ((spec_SameVer.f k y134 false (⟨#[]⟩ : ByteArray) (⟨#[]⟩ : ByteArray) ((rd_T46 t131 3).f0) ((rd_T46 t131 3).f1) ((rd_T46 t131 3).f2) ((rd_T46 t131 3).f3) ((rd_T46 t131 3).f4) ((rd_T46 t131 3).f5) ((rd_T46 t131 3).f6) ((rd_T46 t131 3).f7)).bind fun t145 => (if t145 = true then (if 4 < (t131.length : Int) then ((spec_SameVer.f k y123 false (⟨#[]⟩ : ByteArray) (⟨#[]⟩ : ByteArray) ((rd_T46 t131 4).f0) ((rd_T46 t131 4).f1) ((rd_T46 t131 4).f2) ((rd_T46 t131 4).f3) ((rd_T46 t131 4).f4) ((rd_T46 t131 4).f5) ((rd_T46 t131 4).f6) ((rd_T46 t131 4).f7)).bind fun t147 => (some t147)) else (none)) else (some false))) else (none)) = some r := by rw [if_pos rfl] at H; exact H
        clear H
        have H := H1
        clear H1
        by_cases c16 : 3 < (t131.length : Int)
        ·rw [if_pos c16] at H
         have c16b0 : decide (3 < (t131.length : Int)) = true := decide_eq_true c16
         have c16b1 : decide (3 < t131.length) = true := decide_eq_true (by omega)
         clear c16
         replace H := Option.bind_eq_some_iff.mp H
         obtain ⟨t145, A170, H⟩ := H
         replace H : (if t145 = true then (if 4 < (t131.length : Int) then ((spec_SameVer.f k y123 false (⟨#[]⟩ : ByteArray) (⟨#[]⟩ : ByteArray) ((rd_T46 t131 4).f0) ((rd_T46 t131 4).f1) ((rd_T46 t131 4).f2) ((rd_T46 t131 4).f3) ((rd_T46 t131 4).f4) ((rd_T46 t131 4).f5) ((rd_T46 t131 4).f6) ((rd_T46 t131 4).f7)).bind fun t147 => (some t147)) else (none)) else (some false)) = some r := H
         have A17 := Aside0.mk A170
         clear A170
         by_cases c18 : t145 = true
         ·subst c18
          have H1 : (if 4 < (t131.length : Int) then ((spec_SameVer.f k y123 false (⟨#[]⟩ : ByteArray) (⟨#[]⟩ : ByteArray) ((rd_T46 t131 4).f0) ((rd_T46 t131 4).f1) ((rd_T46 t131 4).f2) ((rd_T46 t131 4).f3) ((rd_T46 t131 4).f4) ((rd_T46 t131 4).f5) ((rd_T46 t131 4).f6) ((rd_T46 t131 4).f7)).bind fun t147 => (some t147)) else (none)) = some r := by rw [if_pos rfl] at H; exact H
          clear H
          have H := H1
          clear H1
          by_cases c19 : 4 < (t131.length : Int)
          ·rw [if_pos c19] at H
           have c19b0 : decide (4 < (t131.length : Int)) = true := decide_eq_true c19
           have c19b1 : decide (4 < t131.length) = true := decide_eq_true (by omega)
           clear c19
           replace H := Option.bind_eq_some_iff.mp H
           obtain ⟨t147, A200, H⟩ := H
           replace H : (some t147) = some r := H
           have A20 := Aside0.mk A200
           clear A200
           obtain rfl := Option.some.inj H
           go_enter Tryd.func5, Tryd.ntmps5
           try go_wp2_with (first | ((with_reducible refine gate_dst (N := 14) rfl ?_); refine Kd.R_lit (Kd.int .u64) _ 36 ?hg (N := 14) ?hd (xs := ([a0, IntKind.u64.wrap (a1)] : List Int)) (inner := [.int .u64 a0, .int .u64 (IntKind.u64.wrap (a1))]) (ok := fun _ => True) (okp := fun _ => True) ?hr ?hp (fun _ hk => hk) trivial (Below.refl _ _) (Nat.le_refl _) (by simp) ?_; (case hd => rfl); (case hg => rfl); (case hr => first | (go_simp; done) | (go_simp; rfl)); (case hp => exact (Reps.one (show Kd.M (Kd.int .u64) _ _ _ a0 [.int .u64 a0] from rfl) (Reps.one (show Kd.M (Kd.int .u64) _ _ _ (IntKind.u64.wrap (a1)) [.int .u64 (IntKind.u64.wrap (a1))] from rfl) (Reps.none _ _)))); intro v124 w21 ho22 hb hg_ hnew_; clear hg_ hnew_; (first | rw [← Ny123.out] at ho22 | (simp only [Int.reduceToNat] at ho22; rw [← Ny123.out] at ho22)); have n0_ := Aside0.mk (Kd.R_lower ho22 (below_size (by repeat (first | (with_reducible first | exact HB.out | apply below_alloc | apply pw_below_drewN | apply below_drew1) | exact HB.out)))); have n1_ := Aside0.mk (below_step (by repeat (first | (with_reducible first | exact HB.out | apply below_alloc | apply pw_below_drewN | apply below_drew1) | exact HB.out)) hb); clear HB; have HO125 := n0_; have HB := n1_; clear n0_ n1_; clear hb ho22; obtain ⟨Ao23, co23, eo23⟩ := Kd.R_slice HO125.out; subst eo23) | ((with_reducible refine gate_dst (N := 7) rfl ?_); refine box_event ?hg (N := 7) ?hd (cs := #[.slice none 0 0, .bool false, .string (⟨#[]⟩ : ByteArray), .string (⟨#[]⟩ : ByteArray)]) (t := 25) ?hr ?_; (case hd => rfl); (case hg => rfl); (case hr => first | (go_simp; done) | (go_simp; rfl)); intro gb126 hg w24 hbox hb; have n0_ := Aside0.mk (Kd.R_below (by (with_reducible repeat (first | apply Kd.R_alloc | apply Kd.R_drewN | apply Kd.R_drew)); exact HO125.out) hb); have n1_ := Aside0.mk (below_step (by repeat (first | (with_reducible first | exact HB.out | apply below_alloc | apply pw_below_drewN | apply below_drew1) | exact HB.out)) hb); have n2_ := Aside0.mk (hbox); have n3_ := Aside0.mk ((by rw [hg]; exact (below_size (by repeat (first | (with_reducible first | exact HB.out | apply below_alloc | apply pw_below_drewN | apply below_drew1) | exact HB.out))) : w.heap.size ≤ gb126)); have n4_ := Aside0.mk ((by rw [hg]; exact (below_size (by repeat (first | (with_reducible first | exact HB.out | apply below_alloc | apply pw_below_drewN | apply below_drew1) | exact HB.out))) : w.heap.size ≤ gb126)); clear HO125; clear HB; have HO125 := n0_; have HB := n1_; have BK126 := n2_; have GW126 := n3_; have GE126 := n4_; clear n0_ n1_ n2_ n3_ n4_; clear hb hbox hg; have hcz25_0 : w24.cell? ⟨gb126, 0, none⟩ = some (.slice none 0 0) := (blk_cell BK126.out 0).trans rfl; have hcz25_1 : w24.cell? ⟨gb126, 1, none⟩ = some (.bool false) := (blk_cell BK126.out 1).trans rfl; have hcz25_2 : w24.cell? ⟨gb126, 2, none⟩ = some (.string (⟨#[]⟩ : ByteArray)) := (blk_cell BK126.out 2).trans rfl; have hcz25_3 : w24.cell? ⟨gb126, 3, none⟩ = some (.string (⟨#[]⟩ : ByteArray)) := (blk_cell BK126.out 3).trans rfl; have hfz25_0 := blk_frozen BK126.out 0; have hfz25_1 := blk_frozen BK126.out 1; have hfz25_2 := blk_frozen BK126.out 2; have hfz25_3 := blk_frozen BK126.out 3) | ((with_reducible refine gate_callee (f := 15) rfl ?_); refine goesL_ (some 20) rfl rfl Tryd.func15 (by kernel_rfl) rfl #[.agg #[.slice Ao23 y123.length co23, .bool false, .string (⟨#[]⟩ : ByteArray), .string (⟨#[]⟩ : ByteArray)]] rfl (by (try simp only [List.map_toArray, List.map_cons, List.map_nil]); first | done | rfl | (simp only [List.length_drop, List.length_take]; rfl)) ?_; (with_reducible refine (spec_Version_Text.calls k _ _ y123 false (⟨#[]⟩ : ByteArray) (⟨#[]⟩ : ByteArray) t127 _ ?side1 ?side2 A4.out).mono ?_); (case side1 => refine (Kd.R_reads' (e := 36) (base := w.heap.size) (ok := fun k_ => True) (n := y123.length) (c := co23) ?_).2.2; exact (by (with_reducible repeat (first | apply Kd.R_alloc | apply Kd.R_drewN | apply Kd.R_drew)); exact (Kd.R_mono (Kd.R_far (p := ⟨gb126, 3, none⟩) (Kd.R_far (p := ⟨gb126, 2, none⟩) (Kd.R_far (p := ⟨gb126, 1, none⟩) (Kd.R_far (p := ⟨gb126, 0, none⟩) (Kd.R_types HO125.out BK126.out (by decide)) (fun _ hk => hk.2) (.slice Ao23 y123.length co23)) (fun _ hk => hk.2) (.bool false)) (fun _ hk => hk.2) (.string (⟨#[]⟩ : ByteArray))) (fun _ hk => hk.2) (.string (⟨#[]⟩ : ByteArray))) (fun _ h_ => h_.1)))); (case side2 => exact (Kd.R_reads' HO125.out).2.1); rintro e w26 ⟨rfl, hb⟩; refine ⟨_, rfl, ?_⟩; have n0_ := Aside0.mk (Kd.R_below (by (with_reducible repeat (first | apply Kd.R_alloc | apply Kd.R_drewN | apply Kd.R_drew)); exact (Kd.R_mono (Kd.R_far (p := ⟨gb126, 3, none⟩) (Kd.R_far (p := ⟨gb126, 2, none⟩) (Kd.R_far (p := ⟨gb126, 1, none⟩) (Kd.R_far (p := ⟨gb126, 0, none⟩) (Kd.R_types HO125.out BK126.out (by decide)) (fun _ hk => hk.2) (.slice Ao23 y123.length co23)) (fun _ hk => hk.2) (.bool false)) (fun _ hk => hk.2) (.string (⟨#[]⟩ : ByteArray))) (fun _ hk => hk.2) (.string (⟨#[]⟩ : ByteArray))) (fun _ h_ => h_.1))) hb); have n1_ := Aside0.mk (blk_below (g := gb126) (o := .cells #[.slice Ao23 y123.length co23, .bool false, .string (⟨#[]⟩ : ByteArray), .string (⟨#[]⟩ : ByteArray)] 25 (0, 0)) (by (with_reducible repeat (first | refine blk_drewN ?_ _ | refine blk_drew ?_ | refine blk_alloc ?_ _)); refine blk_put (cs := #[.slice Ao23 y123.length co23, .bool false, .string (⟨#[]⟩ : ByteArray), .string (⟨#[]⟩ : ByteArray)]) ?_ 3 _ rfl; (with_reducible repeat (first | refine blk_drewN ?_ _ | refine blk_drew ?_ | refine blk_alloc ?_ _)); refine blk_put (cs := #[.slice Ao23 y123.length co23, .bool false, .string (⟨#[]⟩ : ByteArray), .string (⟨#[]⟩ : ByteArray)]) ?_ 2 _ rfl; (with_reducible repeat (first | refine blk_drewN ?_ _ | refine blk_drew ?_ | refine blk_alloc ?_ _)); refine blk_put (cs := #[.slice Ao23 y123.length co23, .bool false, .string (⟨#[]⟩ : ByteArray), .string (⟨#[]⟩ : ByteArray)]) ?_ 1 _ rfl; (with_reducible repeat (first | refine blk_drewN ?_ _ | refine blk_drew ?_ | refine blk_alloc ?_ _)); refine blk_put (cs := #[.slice none 0 0, .bool false, .string (⟨#[]⟩ : ByteArray), .string (⟨#[]⟩ : ByteArray)]) ?_ 0 _ rfl; (with_reducible repeat (first | refine blk_drewN ?_ _ | refine blk_drew ?_ | refine blk_alloc ?_ _)); exact BK126.out) hb); have n2_ := Aside0.mk (below_step (by repeat (first | (with_reducible first | exact HB.out | apply below_alloc | apply pw_below_drewN | apply below_drew1 | refine below_set ?_ GE126.out) | exact HB.out)) hb); clear HO125; clear BK126; clear HB; have HO125 := n0_; have BK126 := n1_; have HB := n2_; clear n0_ n1_ n2_; (try clear hb); (try clear hb2); (try clear hk); (try clear hi)) | ((with_reducible refine gate_dst (N := 32) rfl ?_); refine Kd.R_lit k42 _ 42 ?hg (N := 32) ?hd (xs := ([(⟨5, IntKind.u64.wrap (Int.tmod a2 2147483648), 0, (⟨#[]⟩ : ByteArray)⟩ : S42), (⟨6, IntKind.u64.wrap (Int.tmod a2 2147483648), 0, (⟨#[]⟩ : ByteArray)⟩ : S42), (⟨7, 0, wrap64 (IntKind.u64.wrap (Int.tmod a2 2147483648)), (⟨#[]⟩ : ByteArray)⟩ : S42), (⟨7, 0, wrap64 (-(wrap64 (IntKind.u64.wrap (Int.tmod a2 2147483648)))), (⟨#[]⟩ : ByteArray)⟩ : S42)] : List (S42))) (inner := [.int .i64 5, .int .u64 (IntKind.u64.wrap (Int.tmod a2 2147483648)), .int .i64 0, .string (⟨#[]⟩ : ByteArray), .int .i64 6, .int .u64 (IntKind.u64.wrap (Int.tmod a2 2147483648)), .int .i64 0, .string (⟨#[]⟩ : ByteArray), .int .i64 7, .int .u64 0, .int .i64 (wrap64 (IntKind.u64.wrap (Int.tmod a2 2147483648))), .string (⟨#[]⟩ : ByteArray), .int .i64 7, .int .u64 0, .int .i64 (wrap64 (-(wrap64 (IntKind.u64.wrap (Int.tmod a2 2147483648))))), .string (⟨#[]⟩ : ByteArray)]) (ok := fun _ => True) (okp := fun _ => True) ?hr ?hp (fun _ hk => hk) trivial (Below.refl _ _) (Nat.le_refl _) (by simp) ?_; (case hd => rfl); (case hg => rfl); (case hr => first | (go_simp; done) | (go_simp; rfl)); (case hp => exact (Reps.c4 (show Kd.M k42 _ _ _ (⟨5, IntKind.u64.wrap (Int.tmod a2 2147483648), 0, (⟨#[]⟩ : ByteArray)⟩ : S42) [.int .i64 5, .int .u64 (IntKind.u64.wrap (Int.tmod a2 2147483648)), .int .i64 0, .string (⟨#[]⟩ : ByteArray)] from (k42_mkM _ _ _ (⟨5, IntKind.u64.wrap (Int.tmod a2 2147483648), 0, (⟨#[]⟩ : ByteArray)⟩ : S42) )) (Reps.c4 (show Kd.M k42 _ _ _ (⟨6, IntKind.u64.wrap (Int.tmod a2 2147483648), 0, (⟨#[]⟩ : ByteArray)⟩ : S42) [.int .i64 6, .int .u64 (IntKind.u64.wrap (Int.tmod a2 2147483648)), .int .i64 0, .string (⟨#[]⟩ : ByteArray)] from (k42_mkM _ _ _ (⟨6, IntKind.u64.wrap (Int.tmod a2 2147483648), 0, (⟨#[]⟩ : ByteArray)⟩ : S42) )) (Reps.c4 (show Kd.M k42 _ _ _ (⟨7, 0, wrap64 (IntKind.u64.wrap (Int.tmod a2 2147483648)), (⟨#[]⟩ : ByteArray)⟩ : S42) [.int .i64 7, .int .u64 0, .int .i64 (wrap64 (IntKind.u64.wrap (Int.tmod a2 2147483648))), .string (⟨#[]⟩ : ByteArray)] from (k42_mkM _ _ _ (⟨7, 0, wrap64 (IntKind.u64.wrap (Int.tmod a2 2147483648)), (⟨#[]⟩ : ByteArray)⟩ : S42) )) (Reps.c4 (show Kd.M k42 _ _ _ (⟨7, 0, wrap64 (-(wrap64 (IntKind.u64.wrap (Int.tmod a2 2147483648)))), (⟨#[]⟩ : ByteArray)⟩ : S42) [.int .i64 7, .int .u64 0, .int .i64 (wrap64 (-(wrap64 (IntKind.u64.wrap (Int.tmod a2 2147483648))))), .string (⟨#[]⟩ : ByteArray)] from (k42_mkM _ _ _ (⟨7, 0, wrap64 (-(wrap64 (IntKind.u64.wrap (Int.tmod a2 2147483648)))), (⟨#[]⟩ : ByteArray)⟩ : S42) )) (Reps.none _ _)))))); intro v129 w27 ho28 hb hg_ hnew_; clear hg_ hnew_; (first | rw [← Ny128.out] at ho28 | (simp only [Int.reduceToNat] at ho28; rw [← Ny128.out] at ho28)); have n0_ := Aside0.mk (Kd.R_below (by (with_reducible repeat (first | apply Kd.R_alloc | apply Kd.R_drewN | apply Kd.R_drew)); exact HO125.out) hb); have n1_ := Aside0.mk (Kd.R_lower ho28 (below_size (by repeat (first | (with_reducible first | exact HB.out | apply below_alloc | apply pw_below_drewN | apply below_drew1 | refine below_set ?_ GE126.out) | exact HB.out)))); have n2_ := Aside0.mk (blk_below (g := gb126) (o := .cells #[.slice Ao23 y123.length co23, .bool false, .string (⟨#[]⟩ : ByteArray), .string (⟨#[]⟩ : ByteArray)] 25 (0, 0)) (by (with_reducible repeat (first | refine blk_drewN ?_ _ | refine blk_drew ?_ | refine blk_alloc ?_ _)); exact BK126.out) hb); have n3_ := Aside0.mk (below_step (by repeat (first | (with_reducible first | exact HB.out | apply below_alloc | apply pw_below_drewN | apply below_drew1 | refine below_set ?_ GE126.out) | exact HB.out)) hb); clear HO125; clear BK126; clear HB; have HO125 := n0_; have HO130 := n1_; have BK126 := n2_; have HB := n3_; clear n0_ n1_ n2_ n3_; clear hb ho28; obtain ⟨Ao29, co29, eo29⟩ := Kd.R_slice HO130.out; subst eo29) | ((with_reducible refine gate_callee (f := 14) rfl ?_); refine goesL_ (some 33) rfl rfl Tryd.func14 (by kernel_rfl) rfl #[.int .i64 1, .string t127, .slice Ao29 y128.length co29] rfl (by (try simp only [List.map_toArray, List.map_cons, List.map_nil]); first | done | rfl | (simp only [List.length_drop, List.length_take]; rfl)) ?_; (with_reducible refine (impl_VersionSteps.calls k 1 t127 _ _ y128 t131 _ ?side1 ?side2 A5.out (by first | exact VT.V.below hV HB.out | exact VT.V.below hV ((((HB.out.setCell GE126.out _).setCell GE126.out _).setCell GE126.out _).setCell GE126.out _) | exact VT.V.below hV ((((HB.out.setCell GE137.out _).setCell GE137.out _).setCell GE137.out _).setCell GE137.out _))).mono ?_); (case side1 => repeat (first | exact (Kd.R_reads' HO130.out).2.2 | (with_reducible refine Kd.C_alloc ?_ _) | (with_reducible refine Kd.C_drewN ?_ _) | (with_reducible refine Kd.C_drew ?_))); (case side2 => exact (Kd.R_reads' HO130.out).2.1); rintro e w30 ⟨v132, rfl, ho0, hb⟩; refine ⟨_, rfl, ?_⟩; have n0_ := Aside0.mk (Kd.R_below (by (with_reducible repeat (first | apply Kd.R_alloc | apply Kd.R_drewN | apply Kd.R_drew)); exact HO125.out) hb); have n1_ := Aside0.mk (Kd.R_below (by (with_reducible repeat (first | apply Kd.R_alloc | apply Kd.R_drewN | apply Kd.R_drew)); exact HO130.out) hb); have n2_ := Aside0.mk (Kd.S_lower (Kd.S_new' ho0 (Kd.R_lt (by (with_reducible repeat (first | apply Kd.R_alloc | apply Kd.R_drewN | apply Kd.R_drew)); exact HO125.out))) (below_size (by repeat (first | (with_reducible first | exact HB.out | apply below_alloc | apply pw_below_drewN | apply below_drew1 | refine below_set ?_ GE126.out) | exact HB.out)))); have n3_ := Aside0.mk (blk_below (g := gb126) (o := .cells #[.slice Ao23 y123.length co23, .bool false, .string (⟨#[]⟩ : ByteArray), .string (⟨#[]⟩ : ByteArray)] 25 (0, 0)) (by (with_reducible repeat (first | refine blk_drewN ?_ _ | refine blk_drew ?_ | refine blk_alloc ?_ _)); exact BK126.out) hb); have n4_ := Aside0.mk (below_step (by repeat (first | (with_reducible first | exact HB.out | apply below_alloc | apply pw_below_drewN | apply below_drew1 | refine below_set ?_ GE126.out) | exact HB.out)) hb); clear HO125; clear HO130; clear BK126; clear HB; have HO125 := n0_; have HO130 := n1_; have HO133 := n2_; have BK126 := n3_; have HB := n4_; clear n0_ n1_ n2_ n3_ n4_; (try clear hb); (try clear hb2); (try clear hk); (try clear hi); (try clear ho0); obtain ⟨Ao31, co31, eo31⟩ := Kd.S_slice HO133.out; subst eo31) | ((with_reducible refine gate_dst (N := 42) rfl ?_); refine Kd.R_lit (Kd.int .u64) _ 36 ?hg (N := 42) ?hd (xs := ([a0, IntKind.u64.wrap ((IntKind.u64.wrap (a1)) + (IntKind.u64.wrap (Int.tmod a2 2147483648)))] : List Int)) (inner := [.int .u64 a0, .int .u64 (IntKind.u64.wrap ((IntKind.u64.wrap (a1)) + (IntKind.u64.wrap (Int.tmod a2 2147483648))))]) (ok := fun _ => True) (okp := fun _ => True) ?hr ?hp (fun _ hk => hk) trivial (Below.refl _ _) (Nat.le_refl _) (by simp) ?_; (case hd => rfl); (case hg => rfl); (case hr => first | (go_simp; done) | (go_simp; rfl)); (case hp => exact (Reps.one (show Kd.M (Kd.int .u64) _ _ _ a0 [.int .u64 a0] from rfl) (Reps.one (show Kd.M (Kd.int .u64) _ _ _ (IntKind.u64.wrap ((IntKind.u64.wrap (a1)) + (IntKind.u64.wrap (Int.tmod a2 2147483648)))) [.int .u64 (IntKind.u64.wrap ((IntKind.u64.wrap (a1)) + (IntKind.u64.wrap (Int.tmod a2 2147483648))))] from rfl) (Reps.none _ _)))); intro v135 w32 ho33 hb hg_ hnew_; clear hg_ hnew_; (first | rw [← Ny134.out] at ho33 | (simp only [Int.reduceToNat] at ho33; rw [← Ny134.out] at ho33)); have n0_ := Aside0.mk (Kd.R_elder' (by (with_reducible repeat (first | apply Kd.R_alloc | apply Kd.R_drewN | apply Kd.R_drew)); exact HO125.out) (Kd.R_base ho33) hb); have n1_ := Aside0.mk (Kd.R_below (by (with_reducible repeat (first | apply Kd.R_alloc | apply Kd.R_drewN | apply Kd.R_drew)); exact HO130.out) hb); have n2_ := Aside0.mk (Kd.S_elder' (by (with_reducible repeat (first | apply Kd.S_alloc | apply Kd.S_drewN | apply Kd.S_drew)); exact HO133.out) (Kd.R_base ho33) hb); have n3_ := Aside0.mk (Kd.R_lower (Kd.R_new' ho33 (Kd.R_lt (by (with_reducible repeat (first | apply Kd.R_alloc | apply Kd.R_drewN | apply Kd.R_drew)); exact HO125.out))) (below_size (by repeat (first | (with_reducible first | exact HB.out | apply below_alloc | apply pw_below_drewN | apply below_drew1 | refine below_set ?_ GE126.out) | exact HB.out)))); have n4_ := Aside0.mk (blk_below (g := gb126) (o := .cells #[.slice Ao23 y123.length co23, .bool false, .string (⟨#[]⟩ : ByteArray), .string (⟨#[]⟩ : ByteArray)] 25 (0, 0)) (by (with_reducible repeat (first | refine blk_drewN ?_ _ | refine blk_drew ?_ | refine blk_alloc ?_ _)); exact BK126.out) hb); have n5_ := Aside0.mk (below_step (by repeat (first | (with_reducible first | exact HB.out | apply below_alloc | apply pw_below_drewN | apply below_drew1 | refine below_set ?_ GE126.out) | exact HB.out)) hb); clear HO125; clear HO130; clear HO133; clear BK126; clear HB; have HO125 := n0_; have HO130 := n1_; have HO133 := n2_; have HO136 := n3_; have BK126 := n4_; have HB := n5_; clear n0_ n1_ n2_ n3_ n4_ n5_; clear hb ho33; obtain ⟨Ao34, co34, eo34⟩ := Kd.R_slice HO136.out; subst eo34) | ((with_reducible refine gate_dst (N := 10) rfl ?_); refine box_event ?hg (N := 10) ?hd (cs := #[.slice none 0 0, .bool false, .string (⟨#[]⟩ : ByteArray), .string (⟨#[]⟩ : ByteArray)]) (t := 25) ?hr ?_; (case hd => rfl); (case hg => rfl); (case hr => first | (go_simp; done) | (go_simp; rfl)); intro gb137 hg w35 hbox hb; have n0_ := Aside0.mk (Kd.R_below (by (with_reducible repeat (first | apply Kd.R_alloc | apply Kd.R_drewN | apply Kd.R_drew)); exact HO125.out) hb); have n1_ := Aside0.mk (Kd.R_below (by (with_reducible repeat (first | apply Kd.R_alloc | apply Kd.R_drewN | apply Kd.R_drew)); exact HO130.out) hb); have n2_ := Aside0.mk (Kd.S_below (by (with_reducible repeat (first | apply Kd.S_alloc | apply Kd.S_drewN | apply Kd.S_drew)); exact HO133.out) hb); have n3_ := Aside0.mk (Kd.R_below (by (with_reducible repeat (first | apply Kd.R_alloc | apply Kd.R_drewN | apply Kd.R_drew)); exact HO136.out) hb); have n4_ := Aside0.mk (blk_below (g := gb126) (o := .cells #[.slice Ao23 y123.length co23, .bool false, .string (⟨#[]⟩ : ByteArray), .string (⟨#[]⟩ : ByteArray)] 25 (0, 0)) (by (with_reducible repeat (first | refine blk_drewN ?_ _ | refine blk_drew ?_ | refine blk_alloc ?_ _)); exact BK126.out) hb); have n5_ := Aside0.mk (below_step (by repeat (first | (with_reducible first | exact HB.out | apply below_alloc | apply pw_below_drewN | apply below_drew1 | refine below_set ?_ GE126.out) | exact HB.out)) hb); have n6_ := Aside0.mk (hbox); have n7_ := Aside0.mk ((by rw [hg]; exact (below_size (by repeat (first | (with_reducible first | exact HB.out | apply below_alloc | apply pw_below_drewN | apply below_drew1 | refine below_set ?_ GE126.out) | exact HB.out))) : w.heap.size ≤ gb137)); have n8_ := Aside0.mk ((by rw [hg]; exact (below_size (by repeat (first | (with_reducible first | exact HB.out | apply below_alloc | apply pw_below_drewN | apply below_drew1 | refine below_set ?_ GE126.out) | exact HB.out))) : w.heap.size ≤ gb137)); have n9_ := Aside0.mk ((by rw [hg]; exact Nat.ne_of_lt (blk_lt (g := gb126) (o := .cells #[.slice Ao23 y123.length co23, .bool false, .string (⟨#[]⟩ : ByteArray), .string (⟨#[]⟩ : ByteArray)] 25 (0, 0)) (by (with_reducible repeat (first | refine blk_drewN ?_ _ | refine blk_drew ?_ | refine blk_alloc ?_ _)); exact BK126.out)) : gb126 ≠ gb137)); have n10_ := Aside0.mk ((by rw [hg]; exact Nat.ne_of_gt (blk_lt (g := gb126) (o := .cells #[.slice Ao23 y123.length co23, .bool false, .string (⟨#[]⟩ : ByteArray), .string (⟨#[]⟩ : ByteArray)] 25 (0, 0)) (by (with_reducible repeat (first | refine blk_drewN ?_ _ | refine blk_drew ?_ | refine blk_alloc ?_ _)); exact BK126.out)) : gb137 ≠ gb126)); clear HO125; clear HO130; clear HO133; clear HO136; clear BK126; clear HB; have HO125 := n0_; have HO130 := n1_; have HO133 := n2_; have HO136 := n3_; have BK126 := n4_; have HB := n5_; have BK137 := n6_; have GW137 := n7_; have GE137 := n8_; have NB126_137 := n9_; have NB137_126 := n10_; clear n0_ n1_ n2_ n3_ n4_ n5_ n6_ n7_ n8_ n9_ n10_; clear hb hbox hg; have hnb36 := NB137_126.out; have hnc36 := NB126_137.out; have hcz37_0 : w35.cell? ⟨gb137, 0, none⟩ = some (.slice none 0 0) := (blk_cell BK137.out 0).trans rfl; have hcz37_1 : w35.cell? ⟨gb137, 1, none⟩ = some (.bool false) := (blk_cell BK137.out 1).trans rfl; have hcz37_2 : w35.cell? ⟨gb137, 2, none⟩ = some (.string (⟨#[]⟩ : ByteArray)) := (blk_cell BK137.out 2).trans rfl; have hcz37_3 : w35.cell? ⟨gb137, 3, none⟩ = some (.string (⟨#[]⟩ : ByteArray)) := (blk_cell BK137.out 3).trans rfl; have hfz37_0 := blk_frozen BK137.out 0; have hfz37_1 := blk_frozen BK137.out 1; have hfz37_2 := blk_frozen BK137.out 2; have hfz37_3 := blk_frozen BK137.out 3))
           have n0_ : Aside0 (Kd.R (Kd.int .u64) 36 ((((w35.setCell ⟨gb137, 0, none⟩ (.slice Ao34 y134.length co34)).setCell ⟨gb137, 1, none⟩ (.bool false)).setCell ⟨gb137, 2, none⟩ (.string (⟨#[]⟩ : ByteArray))).setCell ⟨gb137, 3, none⟩ (.string (⟨#[]⟩ : ByteArray))) w.heap.size (fun k_ => some k_ ≠ (.slice Ao34 y134.length co34 : Value).ownBlock) (.slice Ao23 y123.length co23) y123) := ⟨by (with_reducible repeat (first | apply Kd.R_alloc | apply Kd.R_drewN | apply Kd.R_drew)); exact Kd.R_mono (Kd.R_far (p := ⟨gb137, 3, none⟩) (Kd.R_far (p := ⟨gb137, 2, none⟩) (Kd.R_far (p := ⟨gb137, 1, none⟩) (Kd.R_far (p := ⟨gb137, 0, none⟩) (Kd.R_types HO125.out BK137.out (by decide)) (fun _ hk => hk.2) (.slice Ao34 y134.length co34)) (fun _ hk => hk.2) (.bool false)) (fun _ hk => hk.2) (.string (⟨#[]⟩ : ByteArray))) (fun _ hk => hk.2) (.string (⟨#[]⟩ : ByteArray))) (fun _ hk => hk.1.2)⟩
           have n1_ : Aside0 (Kd.R k42 42 ((((w35.setCell ⟨gb137, 0, none⟩ (.slice Ao34 y134.length co34)).setCell ⟨gb137, 1, none⟩ (.bool false)).setCell ⟨gb137, 2, none⟩ (.string (⟨#[]⟩ : ByteArray))).setCell ⟨gb137, 3, none⟩ (.string (⟨#[]⟩ : ByteArray))) w.heap.size (fun _ => True) (.slice Ao29 y128.length co29) y128) := ⟨by (with_reducible repeat (first | apply Kd.R_alloc | apply Kd.R_drewN | apply Kd.R_drew)); exact Kd.R_mono (Kd.R_far (p := ⟨gb137, 3, none⟩) (Kd.R_far (p := ⟨gb137, 2, none⟩) (Kd.R_far (p := ⟨gb137, 1, none⟩) (Kd.R_far (p := ⟨gb137, 0, none⟩) (Kd.R_types HO130.out BK137.out (by decide)) (fun _ hk => hk.2) (.slice Ao34 y134.length co34)) (fun _ hk => hk.2) (.bool false)) (fun _ hk => hk.2) (.string (⟨#[]⟩ : ByteArray))) (fun _ hk => hk.2) (.string (⟨#[]⟩ : ByteArray))) (fun _ hk => trivial)⟩
           have n2_ : Aside0 (Kd.S k46 46 ((((w35.setCell ⟨gb137, 0, none⟩ (.slice Ao34 y134.length co34)).setCell ⟨gb137, 1, none⟩ (.bool false)).setCell ⟨gb137, 2, none⟩ (.string (⟨#[]⟩ : ByteArray))).setCell ⟨gb137, 3, none⟩ (.string (⟨#[]⟩ : ByteArray))) w.heap.size (fun k_ => some k_ ≠ (.slice Ao23 y123.length co23 : Value).ownBlock ∧ some k_ ≠ (.slice Ao34 y134.length co34 : Value).ownBlock) (.slice Ao31 t131.length co31) t131) := ⟨by (with_reducible repeat (first | apply Kd.S_alloc | apply Kd.S_drewN | apply Kd.S_drew)); exact Kd.S_mono (Kd.S_far (p := ⟨gb137, 3, none⟩) (Kd.S_far (p := ⟨gb137, 2, none⟩) (Kd.S_far (p := ⟨gb137, 1, none⟩) (Kd.S_far (p := ⟨gb137, 0, none⟩) (Kd.S_types HO133.out BK137.out (by decide)) (fun _ hk => hk.2) (.slice Ao34 y134.length co34)) (fun _ hk => hk.2) (.bool false)) (fun _ hk => hk.2) (.string (⟨#[]⟩ : ByteArray))) (fun _ hk => hk.2) (.string (⟨#[]⟩ : ByteArray))) (fun _ hk => ⟨hk.1.1.2, hk.1.2⟩)⟩
           have n3_ : Aside0 (Kd.R (Kd.int .u64) 36 ((((w35.setCell ⟨gb137, 0, none⟩ (.slice Ao34 y134.length co34)).setCell ⟨gb137, 1, none⟩ (.bool false)).setCell ⟨gb137, 2, none⟩ (.string (⟨#[]⟩ : ByteArray))).setCell ⟨gb137, 3, none⟩ (.string (⟨#[]⟩ : ByteArray))) w.heap.size (fun k_ => some k_ ≠ (.slice Ao23 y123.length co23 : Value).ownBlock) (.slice Ao34 y134.length co34) y134) := ⟨by (with_reducible repeat (first | apply Kd.R_alloc | apply Kd.R_drewN | apply Kd.R_drew)); exact Kd.R_mono (Kd.R_far (p := ⟨gb137, 3, none⟩) (Kd.R_far (p := ⟨gb137, 2, none⟩) (Kd.R_far (p := ⟨gb137, 1, none⟩) (Kd.R_far (p := ⟨gb137, 0, none⟩) (Kd.R_types HO136.out BK137.out (by decide)) (fun _ hk => hk.2) (.slice Ao34 y134.length co34)) (fun _ hk => hk.2) (.bool false)) (fun _ hk => hk.2) (.string (⟨#[]⟩ : ByteArray))) (fun _ hk => hk.2) (.string (⟨#[]⟩ : ByteArray))) (fun _ hk => hk.1.2)⟩
           have n4_ : Aside0 (((((w35.setCell ⟨gb137, 0, none⟩ (.slice Ao34 y134.length co34)).setCell ⟨gb137, 1, none⟩ (.bool false)).setCell ⟨gb137, 2, none⟩ (.string (⟨#[]⟩ : ByteArray))).setCell ⟨gb137, 3, none⟩ (.string (⟨#[]⟩ : ByteArray))).heap[gb126]? = some (.cells #[.slice Ao23 y123.length co23, .bool false, .string (⟨#[]⟩ : ByteArray), .string (⟨#[]⟩ : ByteArray)] 25 (0, 0))) := ⟨by (with_reducible repeat (first | refine blk_drewN ?_ _ | refine blk_drew ?_ | refine blk_alloc ?_ _)); refine blk_far ?_ NB126_137.out _; (with_reducible repeat (first | refine blk_drewN ?_ _ | refine blk_drew ?_ | refine blk_alloc ?_ _)); refine blk_far ?_ NB126_137.out _; (with_reducible repeat (first | refine blk_drewN ?_ _ | refine blk_drew ?_ | refine blk_alloc ?_ _)); refine blk_far ?_ NB126_137.out _; (with_reducible repeat (first | refine blk_drewN ?_ _ | refine blk_drew ?_ | refine blk_alloc ?_ _)); refine blk_far ?_ NB126_137.out _; (with_reducible repeat (first | refine blk_drewN ?_ _ | refine blk_drew ?_ | refine blk_alloc ?_ _)); exact BK126.out⟩
           have n5_ : Aside0 (((((w35.setCell ⟨gb137, 0, none⟩ (.slice Ao34 y134.length co34)).setCell ⟨gb137, 1, none⟩ (.bool false)).setCell ⟨gb137, 2, none⟩ (.string (⟨#[]⟩ : ByteArray))).setCell ⟨gb137, 3, none⟩ (.string (⟨#[]⟩ : ByteArray))).heap[gb137]? = some (.cells #[.slice Ao34 y134.length co34, .bool false, .string (⟨#[]⟩ : ByteArray), .string (⟨#[]⟩ : ByteArray)] 25 (0, 0))) := ⟨by (with_reducible repeat (first | refine blk_drewN ?_ _ | refine blk_drew ?_ | refine blk_alloc ?_ _)); refine blk_put (cs := #[.slice Ao34 y134.length co34, .bool false, .string (⟨#[]⟩ : ByteArray), .string (⟨#[]⟩ : ByteArray)]) ?_ 3 _ rfl; (with_reducible repeat (first | refine blk_drewN ?_ _ | refine blk_drew ?_ | refine blk_alloc ?_ _)); refine blk_put (cs := #[.slice Ao34 y134.length co34, .bool false, .string (⟨#[]⟩ : ByteArray), .string (⟨#[]⟩ : ByteArray)]) ?_ 2 _ rfl; (with_reducible repeat (first | refine blk_drewN ?_ _ | refine blk_drew ?_ | refine blk_alloc ?_ _)); refine blk_put (cs := #[.slice Ao34 y134.length co34, .bool false, .string (⟨#[]⟩ : ByteArray), .string (⟨#[]⟩ : ByteArray)]) ?_ 1 _ rfl; (with_reducible repeat (first | refine blk_drewN ?_ _ | refine blk_drew ?_ | refine blk_alloc ?_ _)); refine blk_put (cs := #[.slice none 0 0, .bool false, .string (⟨#[]⟩ : ByteArray), .string (⟨#[]⟩ : ByteArray)]) ?_ 0 _ rfl; (with_reducible repeat (first | refine blk_drewN ?_ _ | refine blk_drew ?_ | refine blk_alloc ?_ _)); exact BK137.out⟩
           have n6_ : Aside0 (Below w.heap.size w ((((w35.setCell ⟨gb137, 0, none⟩ (.slice Ao34 y134.length co34)).setCell ⟨gb137, 1, none⟩ (.bool false)).setCell ⟨gb137, 2, none⟩ (.string (⟨#[]⟩ : ByteArray))).setCell ⟨gb137, 3, none⟩ (.string (⟨#[]⟩ : ByteArray)))) := ⟨by repeat (first | (with_reducible first | exact HB.out | apply below_alloc | apply pw_below_drewN | apply below_drew1 | refine below_set ?_ GE126.out | refine below_set ?_ GE137.out) | exact HB.out)⟩
           (try clear HO125)
           (try clear HO130)
           (try clear HO133)
           (try clear HO136)
           (try clear BK126)
           (try clear BK137)
           (try clear HB)
           generalize ((((w35.setCell ⟨gb137, 0, none⟩ (.slice Ao34 y134.length co34)).setCell ⟨gb137, 1, none⟩ (.bool false)).setCell ⟨gb137, 2, none⟩ (.string (⟨#[]⟩ : ByteArray))).setCell ⟨gb137, 3, none⟩ (.string (⟨#[]⟩ : ByteArray))) = w38 at n0_ n1_ n2_ n3_ n4_ n5_ n6_ ⊢
           have HO125 := n0_
           have HO130 := n1_
           have HO133 := n2_
           have HO136 := n3_
           have BK126 := n4_
           have BK137 := n5_
           have HB := n6_
           clear n0_ n1_ n2_ n3_ n4_ n5_ n6_
           have n0_ := Aside0.mk (Kd.R_drew HO125.out)
           have n1_ := Aside0.mk (Kd.R_drew HO130.out)
           have n2_ := Aside0.mk (Kd.S_drew HO133.out)
           have n3_ := Aside0.mk (Kd.R_drew HO136.out)
           have n4_ := Aside0.mk (blk_drew BK126.out)
           have n5_ := Aside0.mk (blk_drew BK137.out)
           have n6_ := Aside0.mk (below_drew1 HB.out)
           clear HO125
           clear HO130
           clear HO133
           clear HO136
           clear BK126
           clear BK137
           clear HB
           have HO125 := n0_
           have HO130 := n1_
           have HO133 := n2_
           have HO136 := n3_
           have BK126 := n4_
           have BK137 := n5_
           have HB := n6_
           clear n0_ n1_ n2_ n3_ n4_ n5_ n6_
           have p138 : 0 ≤ (0 : Int) := (by omega)
           have q138 : 0 < (t131.length : Int) := of_decide_eq_true (by assumption)
           obtain ⟨ad138, A138_1, c138_1, e138, hx138_0, hx138_1, hx138_2, hx138_3, hx138_4, hx138_5, hx138_6, hx138_7, hl138_1, hi138_1⟩ := at_T46 (Kd.S_reads' HO133.out).2.2 0 p138 q138
           cases e138
           obtain ⟨ce138, hce138, hMe138, hcc138⟩ := Kd.S_get HO133.out z46 0 p138 (by first | exact q138 | exact of_decide_eq_true (by assumption) | (have e_ := (Kd.S_reads' HO133.out).1; omega))
           obtain ⟨ve138_1, rfl, ge138_1⟩ := k46_openM hMe138
           have hv138_1 := hcc138 1 _ rfl
           rw [add_field _ _ 1 (by omega)] at hv138_1
           replace hv138_1 := Option.some.inj (hv138_1.symm.trans hx138_1)
           rw [hv138_1] at ge138_1
           have HL138_1 := Aside0.mk (show Kd.R (Kd.int .u64) 36 _ _ _ _ ((rd_T46 t131 0).f1) from ge138_1)
           clear hv138_1 ge138_1
           clear hcc138 hce138
           have qi138 : (0 < t131.length) = True := eq_true (by omega)
           (try rw [show ((0 : Int)).toNat = 0 from rfl] at hx138_0)
           (try rw [show 0 * 8 = 0 from rfl] at hx138_0)
           (try rw [Addr.add_zero'] at hx138_0)
           (try rw [show ((0 : Int)).toNat = 0 from rfl] at hx138_1)
           (try rw [show 0 * 8 = 0 from rfl] at hx138_1)
           (try rw [Addr.add_zero'] at hx138_1)
           (try rw [show ((0 : Int)).toNat = 0 from rfl] at hx138_2)
           (try rw [show 0 * 8 = 0 from rfl] at hx138_2)
           (try rw [Addr.add_zero'] at hx138_2)
           (try rw [show ((0 : Int)).toNat = 0 from rfl] at hx138_3)
           (try rw [show 0 * 8 = 0 from rfl] at hx138_3)
           (try rw [Addr.add_zero'] at hx138_3)
           (try rw [show ((0 : Int)).toNat = 0 from rfl] at hx138_4)
           (try rw [show 0 * 8 = 0 from rfl] at hx138_4)
           (try rw [Addr.add_zero'] at hx138_4)
           (try rw [show ((0 : Int)).toNat = 0 from rfl] at hx138_5)
           (try rw [show 0 * 8 = 0 from rfl] at hx138_5)
           (try rw [Addr.add_zero'] at hx138_5)
           (try rw [show ((0 : Int)).toNat = 0 from rfl] at hx138_6)
           (try rw [show 0 * 8 = 0 from rfl] at hx138_6)
           (try rw [Addr.add_zero'] at hx138_6)
           (try rw [show ((0 : Int)).toNat = 0 from rfl] at hx138_7)
           (try rw [show 0 * 8 = 0 from rfl] at hx138_7)
           (try rw [Addr.add_zero'] at hx138_7)
           have HR138_1 := Aside0.mk hi138_1
           have HC138_1 := Aside0.mk hl138_1
           clear hi138_1 hl138_1
           replace p138 := eq_true p138
           replace q138 := eq_true q138
           have p140 : 0 ≤ (1 : Int) := (by omega)
           have q140 : 1 < (t131.length : Int) := of_decide_eq_true (by assumption)
           obtain ⟨ad140, A140_1, c140_1, e140, hx140_0, hx140_1, hx140_2, hx140_3, hx140_4, hx140_5, hx140_6, hx140_7, hl140_1, hi140_1⟩ := at_T46 (Kd.S_reads' HO133.out).2.2 1 p140 q140
           obtain rfl : ad138 = ad140 := (by injection e140)
           obtain ⟨ce140, hce140, hMe140, hcc140⟩ := Kd.S_get HO133.out z46 1 p140 (by first | exact q140 | exact of_decide_eq_true (by assumption) | (have e_ := (Kd.S_reads' HO133.out).1; omega))
           obtain ⟨ve140_1, rfl, ge140_1⟩ := k46_openM hMe140
           have hv140_1 := hcc140 1 _ rfl
           rw [add_field _ _ 1 (by omega)] at hv140_1
           replace hv140_1 := Option.some.inj (hv140_1.symm.trans hx140_1)
           rw [hv140_1] at ge140_1
           have HL140_1 := Aside0.mk (show Kd.R (Kd.int .u64) 36 _ _ _ _ ((rd_T46 t131 1).f1) from ge140_1)
           clear hv140_1 ge140_1
           clear hcc140 hce140
           (try simp only [show (1 : Int).toNat = 1 from rfl, Nat.reduceMul, Nat.reduceEqDiff, Go.Addr.add, ↓reduceIte] at hx140_0)
           (try simp only [show (1 : Int).toNat = 1 from rfl, Nat.reduceMul, Nat.reduceEqDiff, Go.Addr.add, ↓reduceIte] at hx140_1)
           (try simp only [show (1 : Int).toNat = 1 from rfl, Nat.reduceMul, Nat.reduceEqDiff, Go.Addr.add, ↓reduceIte] at hx140_2)
           (try simp only [show (1 : Int).toNat = 1 from rfl, Nat.reduceMul, Nat.reduceEqDiff, Go.Addr.add, ↓reduceIte] at hx140_3)
           (try simp only [show (1 : Int).toNat = 1 from rfl, Nat.reduceMul, Nat.reduceEqDiff, Go.Addr.add, ↓reduceIte] at hx140_4)
           (try simp only [show (1 : Int).toNat = 1 from rfl, Nat.reduceMul, Nat.reduceEqDiff, Go.Addr.add, ↓reduceIte] at hx140_5)
           (try simp only [show (1 : Int).toNat = 1 from rfl, Nat.reduceMul, Nat.reduceEqDiff, Go.Addr.add, ↓reduceIte] at hx140_6)
           (try simp only [show (1 : Int).toNat = 1 from rfl, Nat.reduceMul, Nat.reduceEqDiff, Go.Addr.add, ↓reduceIte] at hx140_7)
           have qi140 : (1 < t131.length) = True := eq_true (by omega)
           (try rw [show ((1 : Int)).toNat = 1 from rfl] at hx140_0)
           (try rw [show 1 * 8 = 8 from rfl] at hx140_0)
           (try rw [show ((1 : Int)).toNat = 1 from rfl] at hx140_1)
           (try rw [show 1 * 8 = 8 from rfl] at hx140_1)
           (try rw [show ((1 : Int)).toNat = 1 from rfl] at hx140_2)
           (try rw [show 1 * 8 = 8 from rfl] at hx140_2)
           (try rw [show ((1 : Int)).toNat = 1 from rfl] at hx140_3)
           (try rw [show 1 * 8 = 8 from rfl] at hx140_3)
           (try rw [show ((1 : Int)).toNat = 1 from rfl] at hx140_4)
           (try rw [show 1 * 8 = 8 from rfl] at hx140_4)
           (try rw [show ((1 : Int)).toNat = 1 from rfl] at hx140_5)
           (try rw [show 1 * 8 = 8 from rfl] at hx140_5)
           (try rw [show ((1 : Int)).toNat = 1 from rfl] at hx140_6)
           (try rw [show 1 * 8 = 8 from rfl] at hx140_6)
           (try rw [show ((1 : Int)).toNat = 1 from rfl] at hx140_7)
           (try rw [show 1 * 8 = 8 from rfl] at hx140_7)
           have HR140_1 := Aside0.mk hi140_1
           have HC140_1 := Aside0.mk hl140_1
           clear hi140_1 hl140_1
           replace p140 := eq_true p140
           replace q140 := eq_true q140
           have p142 : 0 ≤ (2 : Int) := (by omega)
           have q142 : 2 < (t131.length : Int) := of_decide_eq_true (by assumption)
           obtain ⟨ad142, A142_1, c142_1, e142, hx142_0, hx142_1, hx142_2, hx142_3, hx142_4, hx142_5, hx142_6, hx142_7, hl142_1, hi142_1⟩ := at_T46 (Kd.S_reads' HO133.out).2.2 2 p142 q142
           obtain rfl : ad138 = ad142 := (by injection e142)
           obtain ⟨ce142, hce142, hMe142, hcc142⟩ := Kd.S_get HO133.out z46 2 p142 (by first | exact q142 | exact of_decide_eq_true (by assumption) | (have e_ := (Kd.S_reads' HO133.out).1; omega))
           obtain ⟨ve142_1, rfl, ge142_1⟩ := k46_openM hMe142
           have hv142_1 := hcc142 1 _ rfl
           rw [add_field _ _ 1 (by omega)] at hv142_1
           replace hv142_1 := Option.some.inj (hv142_1.symm.trans hx142_1)
           rw [hv142_1] at ge142_1
           have HL142_1 := Aside0.mk (show Kd.R (Kd.int .u64) 36 _ _ _ _ ((rd_T46 t131 2).f1) from ge142_1)
           clear hv142_1 ge142_1
           clear hcc142 hce142
           (try simp only [show (2 : Int).toNat = 2 from rfl, Nat.reduceMul, Nat.reduceEqDiff, Go.Addr.add, ↓reduceIte] at hx142_0)
           (try simp only [show (2 : Int).toNat = 2 from rfl, Nat.reduceMul, Nat.reduceEqDiff, Go.Addr.add, ↓reduceIte] at hx142_1)
           (try simp only [show (2 : Int).toNat = 2 from rfl, Nat.reduceMul, Nat.reduceEqDiff, Go.Addr.add, ↓reduceIte] at hx142_2)
           (try simp only [show (2 : Int).toNat = 2 from rfl, Nat.reduceMul, Nat.reduceEqDiff, Go.Addr.add, ↓reduceIte] at hx142_3)
           (try simp only [show (2 : Int).toNat = 2 from rfl, Nat.reduceMul, Nat.reduceEqDiff, Go.Addr.add, ↓reduceIte] at hx142_4)
           (try simp only [show (2 : Int).toNat = 2 from rfl, Nat.reduceMul, Nat.reduceEqDiff, Go.Addr.add, ↓reduceIte] at hx142_5)
           (try simp only [show (2 : Int).toNat = 2 from rfl, Nat.reduceMul, Nat.reduceEqDiff, Go.Addr.add, ↓reduceIte] at hx142_6)
           (try simp only [show (2 : Int).toNat = 2 from rfl, Nat.reduceMul, Nat.reduceEqDiff, Go.Addr.add, ↓reduceIte] at hx142_7)
           have qi142 : (2 < t131.length) = True := eq_true (by omega)
           (try rw [show ((2 : Int)).toNat = 2 from rfl] at hx142_0)
           (try rw [show 2 * 8 = 16 from rfl] at hx142_0)
           (try rw [show ((2 : Int)).toNat = 2 from rfl] at hx142_1)
           (try rw [show 2 * 8 = 16 from rfl] at hx142_1)
           (try rw [show ((2 : Int)).toNat = 2 from rfl] at hx142_2)
           (try rw [show 2 * 8 = 16 from rfl] at hx142_2)
           (try rw [show ((2 : Int)).toNat = 2 from rfl] at hx142_3)
           (try rw [show 2 * 8 = 16 from rfl] at hx142_3)
           (try rw [show ((2 : Int)).toNat = 2 from rfl] at hx142_4)
           (try rw [show 2 * 8 = 16 from rfl] at hx142_4)
           (try rw [show ((2 : Int)).toNat = 2 from rfl] at hx142_5)
           (try rw [show 2 * 8 = 16 from rfl] at hx142_5)
           (try rw [show ((2 : Int)).toNat = 2 from rfl] at hx142_6)
           (try rw [show 2 * 8 = 16 from rfl] at hx142_6)
           (try rw [show ((2 : Int)).toNat = 2 from rfl] at hx142_7)
           (try rw [show 2 * 8 = 16 from rfl] at hx142_7)
           have HR142_1 := Aside0.mk hi142_1
           have HC142_1 := Aside0.mk hl142_1
           clear hi142_1 hl142_1
           replace p142 := eq_true p142
           replace q142 := eq_true q142
           have p144 : 0 ≤ (3 : Int) := (by omega)
           have q144 : 3 < (t131.length : Int) := of_decide_eq_true (by assumption)
           obtain ⟨ad144, A144_1, c144_1, e144, hx144_0, hx144_1, hx144_2, hx144_3, hx144_4, hx144_5, hx144_6, hx144_7, hl144_1, hi144_1⟩ := at_T46 (Kd.S_reads' HO133.out).2.2 3 p144 q144
           obtain rfl : ad138 = ad144 := (by injection e144)
           obtain ⟨ce144, hce144, hMe144, hcc144⟩ := Kd.S_get HO133.out z46 3 p144 (by first | exact q144 | exact of_decide_eq_true (by assumption) | (have e_ := (Kd.S_reads' HO133.out).1; omega))
           obtain ⟨ve144_1, rfl, ge144_1⟩ := k46_openM hMe144
           have hv144_1 := hcc144 1 _ rfl
           rw [add_field _ _ 1 (by omega)] at hv144_1
           replace hv144_1 := Option.some.inj (hv144_1.symm.trans hx144_1)
           rw [hv144_1] at ge144_1
           have HL144_1 := Aside0.mk (show Kd.R (Kd.int .u64) 36 _ _ _ _ ((rd_T46 t131 3).f1) from ge144_1)
           clear hv144_1 ge144_1
           clear hcc144 hce144
           (try simp only [show (3 : Int).toNat = 3 from rfl, Nat.reduceMul, Nat.reduceEqDiff, Go.Addr.add, ↓reduceIte] at hx144_0)
           (try simp only [show (3 : Int).toNat = 3 from rfl, Nat.reduceMul, Nat.reduceEqDiff, Go.Addr.add, ↓reduceIte] at hx144_1)
           (try simp only [show (3 : Int).toNat = 3 from rfl, Nat.reduceMul, Nat.reduceEqDiff, Go.Addr.add, ↓reduceIte] at hx144_2)
           (try simp only [show (3 : Int).toNat = 3 from rfl, Nat.reduceMul, Nat.reduceEqDiff, Go.Addr.add, ↓reduceIte] at hx144_3)
           (try simp only [show (3 : Int).toNat = 3 from rfl, Nat.reduceMul, Nat.reduceEqDiff, Go.Addr.add, ↓reduceIte] at hx144_4)
           (try simp only [show (3 : Int).toNat = 3 from rfl, Nat.reduceMul, Nat.reduceEqDiff, Go.Addr.add, ↓reduceIte] at hx144_5)
           (try simp only [show (3 : Int).toNat = 3 from rfl, Nat.reduceMul, Nat.reduceEqDiff, Go.Addr.add, ↓reduceIte] at hx144_6)
           (try simp only [show (3 : Int).toNat = 3 from rfl, Nat.reduceMul, Nat.reduceEqDiff, Go.Addr.add, ↓reduceIte] at hx144_7)
           have qi144 : (3 < t131.length) = True := eq_true (by omega)
           (try rw [show ((3 : Int)).toNat = 3 from rfl] at hx144_0)
           (try rw [show 3 * 8 = 24 from rfl] at hx144_0)
           (try rw [show ((3 : Int)).toNat = 3 from rfl] at hx144_1)
           (try rw [show 3 * 8 = 24 from rfl] at hx144_1)
           (try rw [show ((3 : Int)).toNat = 3 from rfl] at hx144_2)
           (try rw [show 3 * 8 = 24 from rfl] at hx144_2)
           (try rw [show ((3 : Int)).toNat = 3 from rfl] at hx144_3)
           (try rw [show 3 * 8 = 24 from rfl] at hx144_3)
           (try rw [show ((3 : Int)).toNat = 3 from rfl] at hx144_4)
           (try rw [show 3 * 8 = 24 from rfl] at hx144_4)
           (try rw [show ((3 : Int)).toNat = 3 from rfl] at hx144_5)
           (try rw [show 3 * 8 = 24 from rfl] at hx144_5)
           (try rw [show ((3 : Int)).toNat = 3 from rfl] at hx144_6)
           (try rw [show 3 * 8 = 24 from rfl] at hx144_6)
           (try rw [show ((3 : Int)).toNat = 3 from rfl] at hx144_7)
           (try rw [show 3 * 8 = 24 from rfl] at hx144_7)
           have HR144_1 := Aside0.mk hi144_1
           have HC144_1 := Aside0.mk hl144_1
           clear hi144_1 hl144_1
           replace p144 := eq_true p144
           replace q144 := eq_true q144
           have p146 : 0 ≤ (4 : Int) := (by omega)
           have q146 : 4 < (t131.length : Int) := of_decide_eq_true (by assumption)
           obtain ⟨ad146, A146_1, c146_1, e146, hx146_0, hx146_1, hx146_2, hx146_3, hx146_4, hx146_5, hx146_6, hx146_7, hl146_1, hi146_1⟩ := at_T46 (Kd.S_reads' HO133.out).2.2 4 p146 q146
           obtain rfl : ad138 = ad146 := (by injection e146)
           obtain ⟨ce146, hce146, hMe146, hcc146⟩ := Kd.S_get HO133.out z46 4 p146 (by first | exact q146 | exact of_decide_eq_true (by assumption) | (have e_ := (Kd.S_reads' HO133.out).1; omega))
           obtain ⟨ve146_1, rfl, ge146_1⟩ := k46_openM hMe146
           have hv146_1 := hcc146 1 _ rfl
           rw [add_field _ _ 1 (by omega)] at hv146_1
           replace hv146_1 := Option.some.inj (hv146_1.symm.trans hx146_1)
           rw [hv146_1] at ge146_1
           have HL146_1 := Aside0.mk (show Kd.R (Kd.int .u64) 36 _ _ _ _ ((rd_T46 t131 4).f1) from ge146_1)
           clear hv146_1 ge146_1
           clear hcc146 hce146
           (try simp only [show (4 : Int).toNat = 4 from rfl, Nat.reduceMul, Nat.reduceEqDiff, Go.Addr.add, ↓reduceIte] at hx146_0)
           (try simp only [show (4 : Int).toNat = 4 from rfl, Nat.reduceMul, Nat.reduceEqDiff, Go.Addr.add, ↓reduceIte] at hx146_1)
           (try simp only [show (4 : Int).toNat = 4 from rfl, Nat.reduceMul, Nat.reduceEqDiff, Go.Addr.add, ↓reduceIte] at hx146_2)
           (try simp only [show (4 : Int).toNat = 4 from rfl, Nat.reduceMul, Nat.reduceEqDiff, Go.Addr.add, ↓reduceIte] at hx146_3)
           (try simp only [show (4 : Int).toNat = 4 from rfl, Nat.reduceMul, Nat.reduceEqDiff, Go.Addr.add, ↓reduceIte] at hx146_4)
           (try simp only [show (4 : Int).toNat = 4 from rfl, Nat.reduceMul, Nat.reduceEqDiff, Go.Addr.add, ↓reduceIte] at hx146_5)
           (try simp only [show (4 : Int).toNat = 4 from rfl, Nat.reduceMul, Nat.reduceEqDiff, Go.Addr.add, ↓reduceIte] at hx146_6)
           (try simp only [show (4 : Int).toNat = 4 from rfl, Nat.reduceMul, Nat.reduceEqDiff, Go.Addr.add, ↓reduceIte] at hx146_7)
           have qi146 : (4 < t131.length) = True := eq_true (by omega)
           (try rw [show ((4 : Int)).toNat = 4 from rfl] at hx146_0)
           (try rw [show 4 * 8 = 32 from rfl] at hx146_0)
           (try rw [show ((4 : Int)).toNat = 4 from rfl] at hx146_1)
           (try rw [show 4 * 8 = 32 from rfl] at hx146_1)
           (try rw [show ((4 : Int)).toNat = 4 from rfl] at hx146_2)
           (try rw [show 4 * 8 = 32 from rfl] at hx146_2)
           (try rw [show ((4 : Int)).toNat = 4 from rfl] at hx146_3)
           (try rw [show 4 * 8 = 32 from rfl] at hx146_3)
           (try rw [show ((4 : Int)).toNat = 4 from rfl] at hx146_4)
           (try rw [show 4 * 8 = 32 from rfl] at hx146_4)
           (try rw [show ((4 : Int)).toNat = 4 from rfl] at hx146_5)
           (try rw [show 4 * 8 = 32 from rfl] at hx146_5)
           (try rw [show ((4 : Int)).toNat = 4 from rfl] at hx146_6)
           (try rw [show 4 * 8 = 32 from rfl] at hx146_6)
           (try rw [show ((4 : Int)).toNat = 4 from rfl] at hx146_7)
           (try rw [show 4 * 8 = 32 from rfl] at hx146_7)
           have HR146_1 := Aside0.mk hi146_1
           have HC146_1 := Aside0.mk hl146_1
           clear hi146_1 hl146_1
           replace p146 := eq_true p146
           replace q146 := eq_true q146
           refine start_ (n := 34) (S := fun w' => w'.cell? ⟨gb126, 0, none⟩ = some (.slice Ao23 y123.length co23) ∧ w'.cell? ⟨gb126, 1, none⟩ = some (.bool false) ∧ w'.cell? ⟨gb126, 2, none⟩ = some (.string (⟨#[]⟩ : ByteArray)) ∧ w'.cell? ⟨gb126, 3, none⟩ = some (.string (⟨#[]⟩ : ByteArray)) ∧ w'.cell? ⟨gb137, 0, none⟩ = some (.slice Ao34 y134.length co34) ∧ w'.cell? ⟨gb137, 1, none⟩ = some (.bool false) ∧ w'.cell? ⟨gb137, 2, none⟩ = some (.string (⟨#[]⟩ : ByteArray)) ∧ w'.cell? ⟨gb137, 3, none⟩ = some (.string (⟨#[]⟩ : ByteArray)) ∧ w'.cell? ad138 = some (.bool ((rd_T46 t131 0).f0)) ∧ w'.cell? ⟨ad138.block, ad138.off + 1, none⟩ = some (.slice A138_1 ((rd_T46 t131 0).f1).length c138_1) ∧ w'.cell? ⟨ad138.block, ad138.off + 2, none⟩ = some (.string ((rd_T46 t131 0).f2)) ∧ w'.cell? ⟨ad138.block, ad138.off + 3, none⟩ = some (.string ((rd_T46 t131 0).f3)) ∧ w'.cell? ⟨ad138.block, ad138.off + 4, none⟩ = some (.string ((rd_T46 t131 0).f4)) ∧ w'.cell? ⟨ad138.block, ad138.off + 5, none⟩ = some (.int .u64 ((rd_T46 t131 0).f5)) ∧ w'.cell? ⟨ad138.block, ad138.off + 6, none⟩ = some (.int .u64 ((rd_T46 t131 0).f6)) ∧ w'.cell? ⟨ad138.block, ad138.off + 7, none⟩ = some (.int .u64 ((rd_T46 t131 0).f7)) ∧ w'.cell? ⟨ad138.block, ad138.off + 8, none⟩ = some (.bool ((rd_T46 t131 1).f0)) ∧ w'.cell? ⟨ad138.block, ad138.off + 8 + 1, none⟩ = some (.slice A140_1 ((rd_T46 t131 1).f1).length c140_1) ∧ w'.cell? ⟨ad138.block, ad138.off + 8 + 2, none⟩ = some (.string ((rd_T46 t131 1).f2)) ∧ w'.cell? ⟨ad138.block, ad138.off + 8 + 3, none⟩ = some (.string ((rd_T46 t131 1).f3)) ∧ w'.cell? ⟨ad138.block, ad138.off + 8 + 4, none⟩ = some (.string ((rd_T46 t131 1).f4)) ∧ w'.cell? ⟨ad138.block, ad138.off + 8 + 5, none⟩ = some (.int .u64 ((rd_T46 t131 1).f5)) ∧ w'.cell? ⟨ad138.block, ad138.off + 8 + 6, none⟩ = some (.int .u64 ((rd_T46 t131 1).f6)) ∧ w'.cell? ⟨ad138.block, ad138.off + 8 + 7, none⟩ = some (.int .u64 ((rd_T46 t131 1).f7)) ∧ w'.cell? ⟨ad138.block, ad138.off + 16, none⟩ = some (.bool ((rd_T46 t131 2).f0)) ∧ w'.cell? ⟨ad138.block, ad138.off + 16 + 1, none⟩ = some (.slice A142_1 ((rd_T46 t131 2).f1).length c142_1) ∧ w'.cell? ⟨ad138.block, ad138.off + 16 + 2, none⟩ = some (.string ((rd_T46 t131 2).f2)) ∧ w'.cell? ⟨ad138.block, ad138.off + 16 + 3, none⟩ = some (.string ((rd_T46 t131 2).f3)) ∧ w'.cell? ⟨ad138.block, ad138.off + 16 + 4, none⟩ = some (.string ((rd_T46 t131 2).f4)) ∧ w'.cell? ⟨ad138.block, ad138.off + 16 + 5, none⟩ = some (.int .u64 ((rd_T46 t131 2).f5)) ∧ w'.cell? ⟨ad138.block, ad138.off + 16 + 6, none⟩ = some (.int .u64 ((rd_T46 t131 2).f6)) ∧ w'.cell? ⟨ad138.block, ad138.off + 16 + 7, none⟩ = some (.int .u64 ((rd_T46 t131 2).f7)) ∧ w'.cell? ⟨ad138.block, ad138.off + 24, none⟩ = some (.bool ((rd_T46 t131 3).f0)) ∧ w'.cell? ⟨ad138.block, ad138.off + 24 + 1, none⟩ = some (.slice A144_1 ((rd_T46 t131 3).f1).length c144_1) ∧ w'.cell? ⟨ad138.block, ad138.off + 24 + 2, none⟩ = some (.string ((rd_T46 t131 3).f2)) ∧ w'.cell? ⟨ad138.block, ad138.off + 24 + 3, none⟩ = some (.string ((rd_T46 t131 3).f3)) ∧ w'.cell? ⟨ad138.block, ad138.off + 24 + 4, none⟩ = some (.string ((rd_T46 t131 3).f4)) ∧ w'.cell? ⟨ad138.block, ad138.off + 24 + 5, none⟩ = some (.int .u64 ((rd_T46 t131 3).f5)) ∧ w'.cell? ⟨ad138.block, ad138.off + 24 + 6, none⟩ = some (.int .u64 ((rd_T46 t131 3).f6)) ∧ w'.cell? ⟨ad138.block, ad138.off + 24 + 7, none⟩ = some (.int .u64 ((rd_T46 t131 3).f7)) ∧ w'.cell? ⟨ad138.block, ad138.off + 32, none⟩ = some (.bool ((rd_T46 t131 4).f0)) ∧ w'.cell? ⟨ad138.block, ad138.off + 32 + 1, none⟩ = some (.slice A146_1 ((rd_T46 t131 4).f1).length c146_1) ∧ w'.cell? ⟨ad138.block, ad138.off + 32 + 2, none⟩ = some (.string ((rd_T46 t131 4).f2)) ∧ w'.cell? ⟨ad138.block, ad138.off + 32 + 3, none⟩ = some (.string ((rd_T46 t131 4).f3)) ∧ w'.cell? ⟨ad138.block, ad138.off + 32 + 4, none⟩ = some (.string ((rd_T46 t131 4).f4)) ∧ w'.cell? ⟨ad138.block, ad138.off + 32 + 5, none⟩ = some (.int .u64 ((rd_T46 t131 4).f5)) ∧ w'.cell? ⟨ad138.block, ad138.off + 32 + 6, none⟩ = some (.int .u64 ((rd_T46 t131 4).f6)) ∧ w'.cell? ⟨ad138.block, ad138.off + 32 + 7, none⟩ = some (.int .u64 ((rd_T46 t131 4).f7))) (ds := []) #[false, false, false, false, false, false, false, false, false, false, false, false, false, false, false, false, false, false, false, false, false, false, false, false, false, false, false, false, false, false, false, false, false, false] (by kernel_rfl) rfl rfl ⟨(blk_cell BK126.out 0).trans rfl, (blk_cell BK126.out 1).trans rfl, (blk_cell BK126.out 2).trans rfl, (blk_cell BK126.out 3).trans rfl, (blk_cell BK137.out 0).trans rfl, (blk_cell BK137.out 1).trans rfl, (blk_cell BK137.out 2).trans rfl, (blk_cell BK137.out 3).trans rfl, hx138_0, hx138_1, hx138_2, hx138_3, hx138_4, hx138_5, hx138_6, hx138_7, hx140_0, hx140_1, hx140_2, hx140_3, hx140_4, hx140_5, hx140_6, hx140_7, hx142_0, hx142_1, hx142_2, hx142_3, hx142_4, hx142_5, hx142_6, hx142_7, hx144_0, hx144_1, hx144_2, hx144_3, hx144_4, hx144_5, hx144_6, hx144_7, hx146_0, hx146_1, hx146_2, hx146_3, hx146_4, hx146_5, hx146_6, hx146_7⟩ (fun hHeld => ?_); refine with_tabW laws_FnVersionMinors.tab7 laws_FnVersionMinors.bits7 (fun HT_ HW_ => ?_)
           generalize w38.drew = w39 at HO125 HO130 HO133 HO136 BK126 BK137 HB HL138_1 HL140_1 HL142_1 HL144_1 HL146_1 HR138_1 HR140_1 HR142_1 HR144_1 HR146_1 hx138_0 hx138_1 hx138_2 hx138_3 hx138_4 hx138_5 hx138_6 hx138_7 hx140_0 hx140_1 hx140_2 hx140_3 hx140_4 hx140_5 hx140_6 hx140_7 hx142_0 hx142_1 hx142_2 hx142_3 hx142_4 hx142_5 hx142_6 hx142_7 hx144_0 hx144_1 hx144_2 hx144_3 hx144_4 hx144_5 hx144_6 hx144_7 hx146_0 hx146_1 hx146_2 hx146_3 hx146_4 hx146_5 hx146_6 hx146_7 hHeld ⊢
           refine pure_ (i := 1) (N := some 45) (v := ?_) (a' := ?_) #[false, true, false, false, false, false, false, false, false, false, false, false, false, false, false, false, false, false, false, false, false, false, false, false, false, false, false, false, false, false, false, false, false, false] rfl rfl (any_of HT_.out (by kernel_rfl)) (fun _ _ _ h => h) (Or.inl ⟨by rfl, ?_⟩) ?_ ?_
           rotate_left
           ·intro w'
            go_simp
            with_reducible rfl
           rotate_left
           ·simp only [Act.put, List.setIfInBounds_toArray, List.set_cons_zero, List.set_cons_succ, i64_w, i32_w]
            rfl
           refine pure_ (i := 2) (N := some 46) (v := ?_) (a' := ?_) #[false, true, true, false, false, false, false, false, false, false, false, false, false, false, false, false, false, false, false, false, false, false, false, false, false, false, false, false, false, false, false, false, false, false] rfl rfl (any_of HT_.out (by kernel_rfl)) (fun _ _ _ h => h) (Or.inl ⟨by rfl, ?_⟩) ?_ ?_
           rotate_left
           ·intro w'
            go_simp
            with_reducible rfl
           rotate_left
           ·simp only [Act.put, List.setIfInBounds_toArray, List.set_cons_zero, List.set_cons_succ, i64_w, i32_w]
            rfl
           refine take_ (i := 0) (N := some 44) (v := ?_) (a' := ?_) #[true, true, true, false, false, false, false, false, false, false, false, false, false, false, false, false, false, false, false, false, false, false, false, false, false, false, false, false, false, false, false, false, false, false] rfl rfl (take_ofW HT_.out HW_.out (by kernel_rfl)) (fun _ _ _ h => h) (Or.inl ⟨by rfl, ?_⟩) hHeld ?_ ?_
           rotate_left
           ·rintro w' ⟨s0, s1, s2, s3, s4, s5, s6, s7, s8, s9, s10, s11, s12, s13, s14, s15, s16, s17, s18, s19, s20, s21, s22, s23, s24, s25, s26, s27, s28, s29, s30, s31, s32, s33, s34, s35, s36, s37, s38, s39, s40, s41, s42, s43, s44, s45, s46, s47⟩
            go_simp
            with_reducible rfl
           rotate_left
           ·simp only [Act.put, List.setIfInBounds_toArray, List.set_cons_zero, List.set_cons_succ, i64_w, i32_w]
            rfl
           refine take_ (i := 3) (N := some 47) (v := ?_) (a' := ?_) #[true, true, true, true, false, false, false, false, false, false, false, false, false, false, false, false, false, false, false, false, false, false, false, false, false, false, false, false, false, false, false, false, false, false] rfl rfl (take_ofW HT_.out HW_.out (by kernel_rfl)) (fun _ _ _ h => h) (Or.inl ⟨by rfl, ?_⟩) hHeld ?_ ?_
           rotate_left
           ·rintro w' ⟨s0, s1, s2, s3, s4, s5, s6, s7, s8, s9, s10, s11, s12, s13, s14, s15, s16, s17, s18, s19, s20, s21, s22, s23, s24, s25, s26, s27, s28, s29, s30, s31, s32, s33, s34, s35, s36, s37, s38, s39, s40, s41, s42, s43, s44, s45, s46, s47⟩
            go_simp
            with_reducible rfl
           rotate_left
           ·simp only [Act.put, List.setIfInBounds_toArray, List.set_cons_zero, List.set_cons_succ, i64_w, i32_w]
            rfl
           refine one_ (i := 4) (N := some 48) #[true, true, true, true, true, false, false, false, false, false, false, false, false, false, false, false, false, false, false, false, false, false, false, false, false, false, false, false, false, false, false, false, false, false] rfl rfl (one_of HT_.out (by kernel_rfl)) (by decide) (fun K hK => ?_)
           refine goes_ Tryd.func16 (by kernel_rfl) rfl #[.agg #[.slice Ao23 y123.length co23, .bool false, .string (⟨#[]⟩ : ByteArray), .string (⟨#[]⟩ : ByteArray)], .agg #[.bool ((rd_T46 t131 0).f0), .slice A138_1 ((rd_T46 t131 0).f1).length c138_1, .string ((rd_T46 t131 0).f2), .string ((rd_T46 t131 0).f3), .string ((rd_T46 t131 0).f4), .int .u64 ((rd_T46 t131 0).f5), .int .u64 ((rd_T46 t131 0).f6), .int .u64 ((rd_T46 t131 0).f7)]] (by rfl) rfl rfl (by (try simp only [List.map_toArray, List.map_cons, List.map_nil]); first | done | rfl | (simp only [List.length_drop, List.length_take]; rfl)) ?_
           with_reducible refine (spec_SameVer.calls k _ _ y123 false (⟨#[]⟩ : ByteArray) (⟨#[]⟩ : ByteArray) ((rd_T46 t131 0).f0) _ _ ((rd_T46 t131 0).f1) ((rd_T46 t131 0).f2) ((rd_T46 t131 0).f3) ((rd_T46 t131 0).f4) ((rd_T46 t131 0).f5) ((rd_T46 t131 0).f6) ((rd_T46 t131 0).f7) true _ ?side1 ?side2 ?side3 ?side4 A8.out).mono ?_
           (case side1 => repeat (first | exact (Kd.R_reads' HO125.out).2.2 | (with_reducible refine Kd.C_alloc ?_ _) | (with_reducible refine Kd.C_drewN ?_ _) | (with_reducible refine Kd.C_drew ?_)))
           (case side2 => exact (Kd.R_reads' HO125.out).2.1)
           (case side3 => repeat (first | exact (by repeat (first | (with_reducible exact HR138_1.out) | (with_reducible refine Kd.C_alloc ?_ _) | (with_reducible refine Kd.C_drewN ?_ _) | (with_reducible refine Kd.C_drew ?_) | exact HR138_1.out)) | (with_reducible refine Kd.C_alloc ?_ _) | (with_reducible refine Kd.C_drewN ?_ _) | (with_reducible refine Kd.C_drew ?_)))
           (case side4 => exact HC138_1.out)
           rintro e w40 ⟨rfl, hb⟩
           replace HL140_1 := Aside0.mk (Kd.R_below (by (with_reducible repeat (first | apply Kd.R_alloc | apply Kd.R_drewN | apply Kd.R_drew)); exact HL140_1.out) hb)
           replace HR140_1 := Aside0.mk (Kd.C_below (by repeat (first | (with_reducible exact HR140_1.out) | (with_reducible refine Kd.C_alloc ?_ _) | (with_reducible refine Kd.C_drewN ?_ _) | (with_reducible refine Kd.C_drew ?_) | exact HR140_1.out)) hb)
           replace HL142_1 := Aside0.mk (Kd.R_below (by (with_reducible repeat (first | apply Kd.R_alloc | apply Kd.R_drewN | apply Kd.R_drew)); exact HL142_1.out) hb)
           replace HR142_1 := Aside0.mk (Kd.C_below (by repeat (first | (with_reducible exact HR142_1.out) | (with_reducible refine Kd.C_alloc ?_ _) | (with_reducible refine Kd.C_drewN ?_ _) | (with_reducible refine Kd.C_drew ?_) | exact HR142_1.out)) hb)
           replace HL144_1 := Aside0.mk (Kd.R_below (by (with_reducible repeat (first | apply Kd.R_alloc | apply Kd.R_drewN | apply Kd.R_drew)); exact HL144_1.out) hb)
           replace HR144_1 := Aside0.mk (Kd.C_below (by repeat (first | (with_reducible exact HR144_1.out) | (with_reducible refine Kd.C_alloc ?_ _) | (with_reducible refine Kd.C_drewN ?_ _) | (with_reducible refine Kd.C_drew ?_) | exact HR144_1.out)) hb)
           replace HL146_1 := Aside0.mk (Kd.R_below (by (with_reducible repeat (first | apply Kd.R_alloc | apply Kd.R_drewN | apply Kd.R_drew)); exact HL146_1.out) hb)
           replace HR146_1 := Aside0.mk (Kd.C_below (by repeat (first | (with_reducible exact HR146_1.out) | (with_reducible refine Kd.C_alloc ?_ _) | (with_reducible refine Kd.C_drewN ?_ _) | (with_reducible refine Kd.C_drew ?_) | exact HR146_1.out)) hb)
           have HS8_ := (hb.cell (World.block_lt_of_cell? _ _ (hHeld.2.2.2.2.2.2.2.2.1))).trans (hHeld.2.2.2.2.2.2.2.2.1)
           have HS9_ := (hb.cell (World.block_lt_of_cell? _ _ (hHeld.2.2.2.2.2.2.2.2.2.1))).trans (hHeld.2.2.2.2.2.2.2.2.2.1)
           have HS10_ := (hb.cell (World.block_lt_of_cell? _ _ (hHeld.2.2.2.2.2.2.2.2.2.2.1))).trans (hHeld.2.2.2.2.2.2.2.2.2.2.1)
           have HS11_ := (hb.cell (World.block_lt_of_cell? _ _ (hHeld.2.2.2.2.2.2.2.2.2.2.2.1))).trans (hHeld.2.2.2.2.2.2.2.2.2.2.2.1)
           have HS12_ := (hb.cell (World.block_lt_of_cell? _ _ (hHeld.2.2.2.2.2.2.2.2.2.2.2.2.1))).trans (hHeld.2.2.2.2.2.2.2.2.2.2.2.2.1)
           have HS13_ := (hb.cell (World.block_lt_of_cell? _ _ (hHeld.2.2.2.2.2.2.2.2.2.2.2.2.2.1))).trans (hHeld.2.2.2.2.2.2.2.2.2.2.2.2.2.1)
           have HS14_ := (hb.cell (World.block_lt_of_cell? _ _ (hHeld.2.2.2.2.2.2.2.2.2.2.2.2.2.2.1))).trans (hHeld.2.2.2.2.2.2.2.2.2.2.2.2.2.2.1)
           have HS15_ := (hb.cell (World.block_lt_of_cell? _ _ (hHeld.2.2.2.2.2.2.2.2.2.2.2.2.2.2.2.1))).trans (hHeld.2.2.2.2.2.2.2.2.2.2.2.2.2.2.2.1)
           have HS16_ := (hb.cell (World.block_lt_of_cell? _ _ (hHeld.2.2.2.2.2.2.2.2.2.2.2.2.2.2.2.2.1))).trans (hHeld.2.2.2.2.2.2.2.2.2.2.2.2.2.2.2.2.1)
           have HS17_ := (hb.cell (World.block_lt_of_cell? _ _ (hHeld.2.2.2.2.2.2.2.2.2.2.2.2.2.2.2.2.2.1))).trans (hHeld.2.2.2.2.2.2.2.2.2.2.2.2.2.2.2.2.2.1)
           have HS18_ := (hb.cell (World.block_lt_of_cell? _ _ (hHeld.2.2.2.2.2.2.2.2.2.2.2.2.2.2.2.2.2.2.1))).trans (hHeld.2.2.2.2.2.2.2.2.2.2.2.2.2.2.2.2.2.2.1)
           have HS19_ := (hb.cell (World.block_lt_of_cell? _ _ (hHeld.2.2.2.2.2.2.2.2.2.2.2.2.2.2.2.2.2.2.2.1))).trans (hHeld.2.2.2.2.2.2.2.2.2.2.2.2.2.2.2.2.2.2.2.1)
           have HS20_ := (hb.cell (World.block_lt_of_cell? _ _ (hHeld.2.2.2.2.2.2.2.2.2.2.2.2.2.2.2.2.2.2.2.2.1))).trans (hHeld.2.2.2.2.2.2.2.2.2.2.2.2.2.2.2.2.2.2.2.2.1)
           have HS21_ := (hb.cell (World.block_lt_of_cell? _ _ (hHeld.2.2.2.2.2.2.2.2.2.2.2.2.2.2.2.2.2.2.2.2.2.1))).trans (hHeld.2.2.2.2.2.2.2.2.2.2.2.2.2.2.2.2.2.2.2.2.2.1)
           have HS22_ := (hb.cell (World.block_lt_of_cell? _ _ (hHeld.2.2.2.2.2.2.2.2.2.2.2.2.2.2.2.2.2.2.2.2.2.2.1))).trans (hHeld.2.2.2.2.2.2.2.2.2.2.2.2.2.2.2.2.2.2.2.2.2.2.1)
           have HS23_ := (hb.cell (World.block_lt_of_cell? _ _ (hHeld.2.2.2.2.2.2.2.2.2.2.2.2.2.2.2.2.2.2.2.2.2.2.2.1))).trans (hHeld.2.2.2.2.2.2.2.2.2.2.2.2.2.2.2.2.2.2.2.2.2.2.2.1)
           have HS24_ := (hb.cell (World.block_lt_of_cell? _ _ (hHeld.2.2.2.2.2.2.2.2.2.2.2.2.2.2.2.2.2.2.2.2.2.2.2.2.1))).trans (hHeld.2.2.2.2.2.2.2.2.2.2.2.2.2.2.2.2.2.2.2.2.2.2.2.2.1)
           have HS25_ := (hb.cell (World.block_lt_of_cell? _ _ (hHeld.2.2.2.2.2.2.2.2.2.2.2.2.2.2.2.2.2.2.2.2.2.2.2.2.2.1))).trans (hHeld.2.2.2.2.2.2.2.2.2.2.2.2.2.2.2.2.2.2.2.2.2.2.2.2.2.1)
           have HS26_ := (hb.cell (World.block_lt_of_cell? _ _ (hHeld.2.2.2.2.2.2.2.2.2.2.2.2.2.2.2.2.2.2.2.2.2.2.2.2.2.2.1))).trans (hHeld.2.2.2.2.2.2.2.2.2.2.2.2.2.2.2.2.2.2.2.2.2.2.2.2.2.2.1)
           have HS27_ := (hb.cell (World.block_lt_of_cell? _ _ (hHeld.2.2.2.2.2.2.2.2.2.2.2.2.2.2.2.2.2.2.2.2.2.2.2.2.2.2.2.1))).trans (hHeld.2.2.2.2.2.2.2.2.2.2.2.2.2.2.2.2.2.2.2.2.2.2.2.2.2.2.2.1)
           have HS28_ := (hb.cell (World.block_lt_of_cell? _ _ (hHeld.2.2.2.2.2.2.2.2.2.2.2.2.2.2.2.2.2.2.2.2.2.2.2.2.2.2.2.2.1))).trans (hHeld.2.2.2.2.2.2.2.2.2.2.2.2.2.2.2.2.2.2.2.2.2.2.2.2.2.2.2.2.1)
           have HS29_ := (hb.cell (World.block_lt_of_cell? _ _ (hHeld.2.2.2.2.2.2.2.2.2.2.2.2.2.2.2.2.2.2.2.2.2.2.2.2.2.2.2.2.2.1))).trans (hHeld.2.2.2.2.2.2.2.2.2.2.2.2.2.2.2.2.2.2.2.2.2.2.2.2.2.2.2.2.2.1)
           have HS30_ := (hb.cell (World.block_lt_of_cell? _ _ (hHeld.2.2.2.2.2.2.2.2.2.2.2.2.2.2.2.2.2.2.2.2.2.2.2.2.2.2.2.2.2.2.1))).trans (hHeld.2.2.2.2.2.2.2.2.2.2.2.2.2.2.2.2.2.2.2.2.2.2.2.2.2.2.2.2.2.2.1)
           have HS31_ := (hb.cell (World.block_lt_of_cell? _ _ (hHeld.2.2.2.2.2.2.2.2.2.2.2.2.2.2.2.2.2.2.2.2.2.2.2.2.2.2.2.2.2.2.2.1))).trans (hHeld.2.2.2.2.2.2.2.2.2.2.2.2.2.2.2.2.2.2.2.2.2.2.2.2.2.2.2.2.2.2.2.1)
           have HS32_ := (hb.cell (World.block_lt_of_cell? _ _ (hHeld.2.2.2.2.2.2.2.2.2.2.2.2.2.2.2.2.2.2.2.2.2.2.2.2.2.2.2.2.2.2.2.2.1))).trans (hHeld.2.2.2.2.2.2.2.2.2.2.2.2.2.2.2.2.2.2.2.2.2.2.2.2.2.2.2.2.2.2.2.2.1)
           have HS33_ := (hb.cell (World.block_lt_of_cell? _ _ (hHeld.2.2.2.2.2.2.2.2.2.2.2.2.2.2.2.2.2.2.2.2.2.2.2.2.2.2.2.2.2.2.2.2.2.1))).trans (hHeld.2.2.2.2.2.2.2.2.2.2.2.2.2.2.2.2.2.2.2.2.2.2.2.2.2.2.2.2.2.2.2.2.2.1)
           have HS34_ := (hb.cell (World.block_lt_of_cell? _ _ (hHeld.2.2.2.2.2.2.2.2.2.2.2.2.2.2.2.2.2.2.2.2.2.2.2.2.2.2.2.2.2.2.2.2.2.2.1))).trans (hHeld.2.2.2.2.2.2.2.2.2.2.2.2.2.2.2.2.2.2.2.2.2.2.2.2.2.2.2.2.2.2.2.2.2.2.1)
           have HS35_ := (hb.cell (World.block_lt_of_cell? _ _ (hHeld.2.2.2.2.2.2.2.2.2.2.2.2.2.2.2.2.2.2.2.2.2.2.2.2.2.2.2.2.2.2.2.2.2.2.2.1))).trans (hHeld.2.2.2.2.2.2.2.2.2.2.2.2.2.2.2.2.2.2.2.2.2.2.2.2.2.2.2.2.2.2.2.2.2.2.2.1)
           have HS36_ := (hb.cell (World.block_lt_of_cell? _ _ (hHeld.2.2.2.2.2.2.2.2.2.2.2.2.2.2.2.2.2.2.2.2.2.2.2.2.2.2.2.2.2.2.2.2.2.2.2.2.1))).trans (hHeld.2.2.2.2.2.2.2.2.2.2.2.2.2.2.2.2.2.2.2.2.2.2.2.2.2.2.2.2.2.2.2.2.2.2.2.2.1)
           have HS37_ := (hb.cell (World.block_lt_of_cell? _ _ (hHeld.2.2.2.2.2.2.2.2.2.2.2.2.2.2.2.2.2.2.2.2.2.2.2.2.2.2.2.2.2.2.2.2.2.2.2.2.2.1))).trans (hHeld.2.2.2.2.2.2.2.2.2.2.2.2.2.2.2.2.2.2.2.2.2.2.2.2.2.2.2.2.2.2.2.2.2.2.2.2.2.1)
           have HS38_ := (hb.cell (World.block_lt_of_cell? _ _ (hHeld.2.2.2.2.2.2.2.2.2.2.2.2.2.2.2.2.2.2.2.2.2.2.2.2.2.2.2.2.2.2.2.2.2.2.2.2.2.2.1))).trans (hHeld.2.2.2.2.2.2.2.2.2.2.2.2.2.2.2.2.2.2.2.2.2.2.2.2.2.2.2.2.2.2.2.2.2.2.2.2.2.2.1)
           have HS39_ := (hb.cell (World.block_lt_of_cell? _ _ (hHeld.2.2.2.2.2.2.2.2.2.2.2.2.2.2.2.2.2.2.2.2.2.2.2.2.2.2.2.2.2.2.2.2.2.2.2.2.2.2.2.1))).trans (hHeld.2.2.2.2.2.2.2.2.2.2.2.2.2.2.2.2.2.2.2.2.2.2.2.2.2.2.2.2.2.2.2.2.2.2.2.2.2.2.2.1)
           have HS40_ := (hb.cell (World.block_lt_of_cell? _ _ (hHeld.2.2.2.2.2.2.2.2.2.2.2.2.2.2.2.2.2.2.2.2.2.2.2.2.2.2.2.2.2.2.2.2.2.2.2.2.2.2.2.2.1))).trans (hHeld.2.2.2.2.2.2.2.2.2.2.2.2.2.2.2.2.2.2.2.2.2.2.2.2.2.2.2.2.2.2.2.2.2.2.2.2.2.2.2.2.1)
           have HS41_ := (hb.cell (World.block_lt_of_cell? _ _ (hHeld.2.2.2.2.2.2.2.2.2.2.2.2.2.2.2.2.2.2.2.2.2.2.2.2.2.2.2.2.2.2.2.2.2.2.2.2.2.2.2.2.2.1))).trans (hHeld.2.2.2.2.2.2.2.2.2.2.2.2.2.2.2.2.2.2.2.2.2.2.2.2.2.2.2.2.2.2.2.2.2.2.2.2.2.2.2.2.2.1)
           have HS42_ := (hb.cell (World.block_lt_of_cell? _ _ (hHeld.2.2.2.2.2.2.2.2.2.2.2.2.2.2.2.2.2.2.2.2.2.2.2.2.2.2.2.2.2.2.2.2.2.2.2.2.2.2.2.2.2.2.1))).trans (hHeld.2.2.2.2.2.2.2.2.2.2.2.2.2.2.2.2.2.2.2.2.2.2.2.2.2.2.2.2.2.2.2.2.2.2.2.2.2.2.2.2.2.2.1)
           have HS43_ := (hb.cell (World.block_lt_of_cell? _ _ (hHeld.2.2.2.2.2.2.2.2.2.2.2.2.2.2.2.2.2.2.2.2.2.2.2.2.2.2.2.2.2.2.2.2.2.2.2.2.2.2.2.2.2.2.2.1))).trans (hHeld.2.2.2.2.2.2.2.2.2.2.2.2.2.2.2.2.2.2.2.2.2.2.2.2.2.2.2.2.2.2.2.2.2.2.2.2.2.2.2.2.2.2.2.1)
           have HS44_ := (hb.cell (World.block_lt_of_cell? _ _ (hHeld.2.2.2.2.2.2.2.2.2.2.2.2.2.2.2.2.2.2.2.2.2.2.2.2.2.2.2.2.2.2.2.2.2.2.2.2.2.2.2.2.2.2.2.2.1))).trans (hHeld.2.2.2.2.2.2.2.2.2.2.2.2.2.2.2.2.2.2.2.2.2.2.2.2.2.2.2.2.2.2.2.2.2.2.2.2.2.2.2.2.2.2.2.2.1)
           have HS45_ := (hb.cell (World.block_lt_of_cell? _ _ (hHeld.2.2.2.2.2.2.2.2.2.2.2.2.2.2.2.2.2.2.2.2.2.2.2.2.2.2.2.2.2.2.2.2.2.2.2.2.2.2.2.2.2.2.2.2.2.1))).trans (hHeld.2.2.2.2.2.2.2.2.2.2.2.2.2.2.2.2.2.2.2.2.2.2.2.2.2.2.2.2.2.2.2.2.2.2.2.2.2.2.2.2.2.2.2.2.2.1)
           have HS46_ := (hb.cell (World.block_lt_of_cell? _ _ (hHeld.2.2.2.2.2.2.2.2.2.2.2.2.2.2.2.2.2.2.2.2.2.2.2.2.2.2.2.2.2.2.2.2.2.2.2.2.2.2.2.2.2.2.2.2.2.2.1))).trans (hHeld.2.2.2.2.2.2.2.2.2.2.2.2.2.2.2.2.2.2.2.2.2.2.2.2.2.2.2.2.2.2.2.2.2.2.2.2.2.2.2.2.2.2.2.2.2.2.1)
           have HS47_ := (hb.cell (World.block_lt_of_cell? _ _ (hHeld.2.2.2.2.2.2.2.2.2.2.2.2.2.2.2.2.2.2.2.2.2.2.2.2.2.2.2.2.2.2.2.2.2.2.2.2.2.2.2.2.2.2.2.2.2.2.2))).trans (hHeld.2.2.2.2.2.2.2.2.2.2.2.2.2.2.2.2.2.2.2.2.2.2.2.2.2.2.2.2.2.2.2.2.2.2.2.2.2.2.2.2.2.2.2.2.2.2.2)
           refine ⟨_, rfl, ?_⟩
           have n0_ := Aside0.mk (Kd.R_below (by (with_reducible repeat (first | apply Kd.R_alloc | apply Kd.R_drewN | apply Kd.R_drew)); exact HO125.out) hb)
           have n1_ := Aside0.mk (Kd.R_below (by (with_reducible repeat (first | apply Kd.R_alloc | apply Kd.R_drewN | apply Kd.R_drew)); exact HO130.out) hb)
           have n2_ := Aside0.mk (Kd.S_below (by (with_reducible repeat (first | apply Kd.S_alloc | apply Kd.S_drewN | apply Kd.S_drew)); exact HO133.out) hb)
           have n3_ := Aside0.mk (Kd.R_below (by (with_reducible repeat (first | apply Kd.R_alloc | apply Kd.R_drewN | apply Kd.R_drew)); exact HO136.out) hb)
           have n4_ := Aside0.mk (Kd.R_below (by (with_reducible repeat (first | apply Kd.R_alloc | apply Kd.R_drewN | apply Kd.R_drew)); exact HL138_1.out) hb)
           have n5_ := Aside0.mk (blk_below (g := gb126) (o := .cells #[.slice Ao23 y123.length co23, .bool false, .string (⟨#[]⟩ : ByteArray), .string (⟨#[]⟩ : ByteArray)] 25 (0, 0)) (by (with_reducible repeat (first | refine blk_drewN ?_ _ | refine blk_drew ?_ | refine blk_alloc ?_ _)); exact BK126.out) hb)
           have n6_ := Aside0.mk (blk_below (g := gb137) (o := .cells #[.slice Ao34 y134.length co34, .bool false, .string (⟨#[]⟩ : ByteArray), .string (⟨#[]⟩ : ByteArray)] 25 (0, 0)) (by (with_reducible repeat (first | refine blk_drewN ?_ _ | refine blk_drew ?_ | refine blk_alloc ?_ _)); exact BK137.out) hb)
           have n7_ := Aside0.mk (Kd.C_below (by repeat (first | (with_reducible exact HR138_1.out) | (with_reducible refine Kd.C_alloc ?_ _) | (with_reducible refine Kd.C_drewN ?_ _) | (with_reducible refine Kd.C_drew ?_) | exact HR138_1.out)) hb)
           have n8_ := Aside0.mk (below_step (by repeat (first | (with_reducible first | exact HB.out | apply below_alloc | apply pw_below_drewN | apply below_drew1 | refine below_set ?_ GE126.out | refine below_set ?_ GE137.out) | exact HB.out)) hb)
           clear HO125
           clear HO130
           clear HO133
           clear HO136
           clear HL138_1
           clear BK126
           clear BK137
           clear HR138_1
           clear HB
           have HO125 := n0_
           have HO130 := n1_
           have HO133 := n2_
           have HO136 := n3_
           have HL138_1 := n4_
           have BK126 := n5_
           have BK137 := n6_
           have HR138_1 := n7_
           have HB := n8_
           clear n0_ n1_ n2_ n3_ n4_ n5_ n6_ n7_ n8_
           (try clear hb)
           (try clear hb2)
           (try clear hk)
           (try clear hi)
           refine hK.out _ _ ⟨(blk_cell BK126.out 0).trans rfl, (blk_cell BK126.out 1).trans rfl, (blk_cell BK126.out 2).trans rfl, (blk_cell BK126.out 3).trans rfl, (blk_cell BK137.out 0).trans rfl, (blk_cell BK137.out 1).trans rfl, (blk_cell BK137.out 2).trans rfl, (blk_cell BK137.out 3).trans rfl, HS8_, HS9_, HS10_, HS11_, HS12_, HS13_, HS14_, HS15_, HS16_, HS17_, HS18_, HS19_, HS20_, HS21_, HS22_, HS23_, HS24_, HS25_, HS26_, HS27_, HS28_, HS29_, HS30_, HS31_, HS32_, HS33_, HS34_, HS35_, HS36_, HS37_, HS38_, HS39_, HS40_, HS41_, HS42_, HS43_, HS44_, HS45_, HS46_, HS47_⟩ (fun hHeld => ?_)
           clear hK K
           refine norm_ (a' := ?_) ?_ ?_
           rotate_left
           ·show Act.put _ (some 48) _ = _
            simp only [Act.put, List.setIfInBounds_toArray, List.set_cons_zero, List.set_cons_succ, i64_w, i32_w]
            rfl
           refine pure_ (i := 5) (N := some 49) (v := ?_) (a' := ?_) #[true, true, true, true, true, true, false, false, false, false, false, false, false, false, false, false, false, false, false, false, false, false, false, false, false, false, false, false, false, false, false, false, false, false] rfl rfl (any_of HT_.out (by kernel_rfl)) (fun _ _ _ h => h) (Or.inl ⟨by rfl, ?_⟩) ?_ ?_
           rotate_left
           ·intro w'
            go_simp
            with_reducible rfl
           rotate_left
           ·simp only [Act.put, List.setIfInBounds_toArray, List.set_cons_zero, List.set_cons_succ, i64_w, i32_w]
            rfl
           refine pure_ (i := 7) (N := some 51) (v := ?_) (a' := ?_) #[true, true, true, true, true, true, false, true, false, false, false, false, false, false, false, false, false, false, false, false, false, false, false, false, false, false, false, false, false, false, false, false, false, false] rfl rfl (any_of HT_.out (by kernel_rfl)) (fun _ _ _ h => h) (Or.inl ⟨by rfl, ?_⟩) ?_ ?_
           rotate_left
           ·intro w'
            go_simp
            with_reducible rfl
           rotate_left
           ·simp only [Act.put, List.setIfInBounds_toArray, List.set_cons_zero, List.set_cons_succ, i64_w, i32_w]
            rfl
           refine pure_ (i := 8) (N := some 52) (v := ?_) (a' := ?_) #[true, true, true, true, true, true, false, true, true, false, false, false, false, false, false, false, false, false, false, false, false, false, false, false, false, false, false, false, false, false, false, false, false, false] rfl rfl (any_of HT_.out (by kernel_rfl)) (fun _ _ _ h => h) (Or.inl ⟨by rfl, ?_⟩) ?_ ?_
           rotate_left
           ·intro w'
            go_simp
            with_reducible rfl
           rotate_left
           ·simp only [Act.put, List.setIfInBounds_toArray, List.set_cons_zero, List.set_cons_succ, i64_w, i32_w]
            rfl
           refine take_ (i := 6) (N := some 50) (v := ?_) (a' := ?_) #[true, true, true, true, true, true, true, true, true, false, false, false, false, false, false, false, false, false, false, false, false, false, false, false, false, false, false, false, false, false, false, false, false, false] rfl rfl (take_ofW HT_.out HW_.out (by kernel_rfl)) (fun _ _ _ h => h) (Or.inl ⟨by rfl, ?_⟩) hHeld ?_ ?_
           rotate_left
           ·rintro w' ⟨s0, s1, s2, s3, s4, s5, s6, s7, s8, s9, s10, s11, s12, s13, s14, s15, s16, s17, s18, s19, s20, s21, s22, s23, s24, s25, s26, s27, s28, s29, s30, s31, s32, s33, s34, s35, s36, s37, s38, s39, s40, s41, s42, s43, s44, s45, s46, s47⟩
            go_simp
            with_reducible rfl
           rotate_left
           ·simp only [Act.put, List.setIfInBounds_toArray, List.set_cons_zero, List.set_cons_succ, i64_w, i32_w]
            rfl
           refine take_ (i := 9) (N := some 53) (v := ?_) (a' := ?_) #[true, true, true, true, true, true, true, true, true, true, false, false, false, false, false, false, false, false, false, false, false, false, false, false, false, false, false, false, false, false, false, false, false, false] rfl rfl (take_ofW HT_.out HW_.out (by kernel_rfl)) (fun _ _ _ h => h) (Or.inl ⟨by rfl, ?_⟩) hHeld ?_ ?_
           rotate_left
           ·rintro w' ⟨s0, s1, s2, s3, s4, s5, s6, s7, s8, s9, s10, s11, s12, s13, s14, s15, s16, s17, s18, s19, s20, s21, s22, s23, s24, s25, s26, s27, s28, s29, s30, s31, s32, s33, s34, s35, s36, s37, s38, s39, s40, s41, s42, s43, s44, s45, s46, s47⟩
            go_simp
            with_reducible rfl
           rotate_left
           ·simp only [Act.put, List.setIfInBounds_toArray, List.set_cons_zero, List.set_cons_succ, i64_w, i32_w]
            rfl
           refine one_ (i := 10) (N := some 54) #[true, true, true, true, true, true, true, true, true, true, true, false, false, false, false, false, false, false, false, false, false, false, false, false, false, false, false, false, false, false, false, false, false, false] rfl rfl (one_of HT_.out (by kernel_rfl)) (by decide) (fun K hK => ?_)
           refine goes_ Tryd.func16 (by kernel_rfl) rfl #[.agg #[.slice Ao34 y134.length co34, .bool false, .string (⟨#[]⟩ : ByteArray), .string (⟨#[]⟩ : ByteArray)], .agg #[.bool ((rd_T46 t131 1).f0), .slice A140_1 ((rd_T46 t131 1).f1).length c140_1, .string ((rd_T46 t131 1).f2), .string ((rd_T46 t131 1).f3), .string ((rd_T46 t131 1).f4), .int .u64 ((rd_T46 t131 1).f5), .int .u64 ((rd_T46 t131 1).f6), .int .u64 ((rd_T46 t131 1).f7)]] (by rfl) rfl rfl (by (try simp only [List.map_toArray, List.map_cons, List.map_nil]); first | done | rfl | (simp only [List.length_drop, List.length_take]; rfl)) ?_
           with_reducible refine (spec_SameVer.calls k _ _ y134 false (⟨#[]⟩ : ByteArray) (⟨#[]⟩ : ByteArray) ((rd_T46 t131 1).f0) _ _ ((rd_T46 t131 1).f1) ((rd_T46 t131 1).f2) ((rd_T46 t131 1).f3) ((rd_T46 t131 1).f4) ((rd_T46 t131 1).f5) ((rd_T46 t131 1).f6) ((rd_T46 t131 1).f7) true _ ?side1 ?side2 ?side3 ?side4 A11.out).mono ?_
           (case side1 => repeat (first | exact (Kd.R_reads' HO136.out).2.2 | (with_reducible refine Kd.C_alloc ?_ _) | (with_reducible refine Kd.C_drewN ?_ _) | (with_reducible refine Kd.C_drew ?_)))
           (case side2 => exact (Kd.R_reads' HO136.out).2.1)
           (case side3 => repeat (first | exact (by repeat (first | (with_reducible exact HR140_1.out) | (with_reducible refine Kd.C_alloc ?_ _) | (with_reducible refine Kd.C_drewN ?_ _) | (with_reducible refine Kd.C_drew ?_) | exact HR140_1.out)) | (with_reducible refine Kd.C_alloc ?_ _) | (with_reducible refine Kd.C_drewN ?_ _) | (with_reducible refine Kd.C_drew ?_)))
           (case side4 => exact HC140_1.out)
           rintro e w41 ⟨rfl, hb⟩
           replace HL142_1 := Aside0.mk (Kd.R_below (by (with_reducible repeat (first | apply Kd.R_alloc | apply Kd.R_drewN | apply Kd.R_drew)); exact HL142_1.out) hb)
           replace HR142_1 := Aside0.mk (Kd.C_below (by repeat (first | (with_reducible exact HR142_1.out) | (with_reducible refine Kd.C_alloc ?_ _) | (with_reducible refine Kd.C_drewN ?_ _) | (with_reducible refine Kd.C_drew ?_) | exact HR142_1.out)) hb)
           replace HL144_1 := Aside0.mk (Kd.R_below (by (with_reducible repeat (first | apply Kd.R_alloc | apply Kd.R_drewN | apply Kd.R_drew)); exact HL144_1.out) hb)
           replace HR144_1 := Aside0.mk (Kd.C_below (by repeat (first | (with_reducible exact HR144_1.out) | (with_reducible refine Kd.C_alloc ?_ _) | (with_reducible refine Kd.C_drewN ?_ _) | (with_reducible refine Kd.C_drew ?_) | exact HR144_1.out)) hb)
           replace HL146_1 := Aside0.mk (Kd.R_below (by (with_reducible repeat (first | apply Kd.R_alloc | apply Kd.R_drewN | apply Kd.R_drew)); exact HL146_1.out) hb)
           replace HR146_1 := Aside0.mk (Kd.C_below (by repeat (first | (with_reducible exact HR146_1.out) | (with_reducible refine Kd.C_alloc ?_ _) | (with_reducible refine Kd.C_drewN ?_ _) | (with_reducible refine Kd.C_drew ?_) | exact HR146_1.out)) hb)
           have HS8_ := (hb.cell (World.block_lt_of_cell? _ _ (hHeld.2.2.2.2.2.2.2.2.1))).trans (hHeld.2.2.2.2.2.2.2.2.1)
           have HS9_ := (hb.cell (World.block_lt_of_cell? _ _ (hHeld.2.2.2.2.2.2.2.2.2.1))).trans (hHeld.2.2.2.2.2.2.2.2.2.1)
           have HS10_ := (hb.cell (World.block_lt_of_cell? _ _ (hHeld.2.2.2.2.2.2.2.2.2.2.1))).trans (hHeld.2.2.2.2.2.2.2.2.2.2.1)
           have HS11_ := (hb.cell (World.block_lt_of_cell? _ _ (hHeld.2.2.2.2.2.2.2.2.2.2.2.1))).trans (hHeld.2.2.2.2.2.2.2.2.2.2.2.1)
           have HS12_ := (hb.cell (World.block_lt_of_cell? _ _ (hHeld.2.2.2.2.2.2.2.2.2.2.2.2.1))).trans (hHeld.2.2.2.2.2.2.2.2.2.2.2.2.1)
           have HS13_ := (hb.cell (World.block_lt_of_cell? _ _ (hHeld.2.2.2.2.2.2.2.2.2.2.2.2.2.1))).trans (hHeld.2.2.2.2.2.2.2.2.2.2.2.2.2.1)
           have HS14_ := (hb.cell (World.block_lt_of_cell? _ _ (hHeld.2.2.2.2.2.2.2.2.2.2.2.2.2.2.1))).trans (hHeld.2.2.2.2.2.2.2.2.2.2.2.2.2.2.1)
           have HS15_ := (hb.cell (World.block_lt_of_cell? _ _ (hHeld.2.2.2.2.2.2.2.2.2.2.2.2.2.2.2.1))).trans (hHeld.2.2.2.2.2.2.2.2.2.2.2.2.2.2.2.1)
           have HS16_ := (hb.cell (World.block_lt_of_cell? _ _ (hHeld.2.2.2.2.2.2.2.2.2.2.2.2.2.2.2.2.1))).trans (hHeld.2.2.2.2.2.2.2.2.2.2.2.2.2.2.2.2.1)
           have HS17_ := (hb.cell (World.block_lt_of_cell? _ _ (hHeld.2.2.2.2.2.2.2.2.2.2.2.2.2.2.2.2.2.1))).trans (hHeld.2.2.2.2.2.2.2.2.2.2.2.2.2.2.2.2.2.1)
           have HS18_ := (hb.cell (World.block_lt_of_cell? _ _ (hHeld.2.2.2.2.2.2.2.2.2.2.2.2.2.2.2.2.2.2.1))).trans (hHeld.2.2.2.2.2.2.2.2.2.2.2.2.2.2.2.2.2.2.1)
           have HS19_ := (hb.cell (World.block_lt_of_cell? _ _ (hHeld.2.2.2.2.2.2.2.2.2.2.2.2.2.2.2.2.2.2.2.1))).trans (hHeld.2.2.2.2.2.2.2.2.2.2.2.2.2.2.2.2.2.2.2.1)
           have HS20_ := (hb.cell (World.block_lt_of_cell? _ _ (hHeld.2.2.2.2.2.2.2.2.2.2.2.2.2.2.2.2.2.2.2.2.1))).trans (hHeld.2.2.2.2.2.2.2.2.2.2.2.2.2.2.2.2.2.2.2.2.1)
           have HS21_ := (hb.cell (World.block_lt_of_cell? _ _ (hHeld.2.2.2.2.2.2.2.2.2.2.2.2.2.2.2.2.2.2.2.2.2.1))).trans (hHeld.2.2.2.2.2.2.2.2.2.2.2.2.2.2.2.2.2.2.2.2.2.1)
           have HS22_ := (hb.cell (World.block_lt_of_cell? _ _ (hHeld.2.2.2.2.2.2.2.2.2.2.2.2.2.2.2.2.2.2.2.2.2.2.1))).trans (hHeld.2.2.2.2.2.2.2.2.2.2.2.2.2.2.2.2.2.2.2.2.2.2.1)
           have HS23_ := (hb.cell (World.block_lt_of_cell? _ _ (hHeld.2.2.2.2.2.2.2.2.2.2.2.2.2.2.2.2.2.2.2.2.2.2.2.1))).trans (hHeld.2.2.2.2.2.2.2.2.2.2.2.2.2.2.2.2.2.2.2.2.2.2.2.1)
           have HS24_ := (hb.cell (World.block_lt_of_cell? _ _ (hHeld.2.2.2.2.2.2.2.2.2.2.2.2.2.2.2.2.2.2.2.2.2.2.2.2.1))).trans (hHeld.2.2.2.2.2.2.2.2.2.2.2.2.2.2.2.2.2.2.2.2.2.2.2.2.1)
           have HS25_ := (hb.cell (World.block_lt_of_cell? _ _ (hHeld.2.2.2.2.2.2.2.2.2.2.2.2.2.2.2.2.2.2.2.2.2.2.2.2.2.1))).trans (hHeld.2.2.2.2.2.2.2.2.2.2.2.2.2.2.2.2.2.2.2.2.2.2.2.2.2.1)
           have HS26_ := (hb.cell (World.block_lt_of_cell? _ _ (hHeld.2.2.2.2.2.2.2.2.2.2.2.2.2.2.2.2.2.2.2.2.2.2.2.2.2.2.1))).trans (hHeld.2.2.2.2.2.2.2.2.2.2.2.2.2.2.2.2.2.2.2.2.2.2.2.2.2.2.1)
           have HS27_ := (hb.cell (World.block_lt_of_cell? _ _ (hHeld.2.2.2.2.2.2.2.2.2.2.2.2.2.2.2.2.2.2.2.2.2.2.2.2.2.2.2.1))).trans (hHeld.2.2.2.2.2.2.2.2.2.2.2.2.2.2.2.2.2.2.2.2.2.2.2.2.2.2.2.1)
           have HS28_ := (hb.cell (World.block_lt_of_cell? _ _ (hHeld.2.2.2.2.2.2.2.2.2.2.2.2.2.2.2.2.2.2.2.2.2.2.2.2.2.2.2.2.1))).trans (hHeld.2.2.2.2.2.2.2.2.2.2.2.2.2.2.2.2.2.2.2.2.2.2.2.2.2.2.2.2.1)
           have HS29_ := (hb.cell (World.block_lt_of_cell? _ _ (hHeld.2.2.2.2.2.2.2.2.2.2.2.2.2.2.2.2.2.2.2.2.2.2.2.2.2.2.2.2.2.1))).trans (hHeld.2.2.2.2.2.2.2.2.2.2.2.2.2.2.2.2.2.2.2.2.2.2.2.2.2.2.2.2.2.1)
           have HS30_ := (hb.cell (World.block_lt_of_cell? _ _ (hHeld.2.2.2.2.2.2.2.2.2.2.2.2.2.2.2.2.2.2.2.2.2.2.2.2.2.2.2.2.2.2.1))).trans (hHeld.2.2.2.2.2.2.2.2.2.2.2.2.2.2.2.2.2.2.2.2.2.2.2.2.2.2.2.2.2.2.1)
           have HS31_ := (hb.cell (World.block_lt_of_cell? _ _ (hHeld.2.2.2.2.2.2.2.2.2.2.2.2.2.2.2.2.2.2.2.2.2.2.2.2.2.2.2.2.2.2.2.1))).trans (hHeld.2.2.2.2.2.2.2.2.2.2.2.2.2.2.2.2.2.2.2.2.2.2.2.2.2.2.2.2.2.2.2.1)
           have HS32_ := (hb.cell (World.block_lt_of_cell? _ _ (hHeld.2.2.2.2.2.2.2.2.2.2.2.2.2.2.2.2.2.2.2.2.2.2.2.2.2.2.2.2.2.2.2.2.1))).trans (hHeld.2.2.2.2.2.2.2.2.2.2.2.2.2.2.2.2.2.2.2.2.2.2.2.2.2.2.2.2.2.2.2.2.1)
           have HS33_ := (hb.cell (World.block_lt_of_cell? _ _ (hHeld.2.2.2.2.2.2.2.2.2.2.2.2.2.2.2.2.2.2.2.2.2.2.2.2.2.2.2.2.2.2.2.2.2.1))).trans (hHeld.2.2.2.2.2.2.2.2.2.2.2.2.2.2.2.2.2.2.2.2.2.2.2.2.2.2.2.2.2.2.2.2.2.1)
           have HS34_ := (hb.cell (World.block_lt_of_cell? _ _ (hHeld.2.2.2.2.2.2.2.2.2.2.2.2.2.2.2.2.2.2.2.2.2.2.2.2.2.2.2.2.2.2.2.2.2.2.1))).trans (hHeld.2.2.2.2.2.2.2.2.2.2.2.2.2.2.2.2.2.2.2.2.2.2.2.2.2.2.2.2.2.2.2.2.2.2.1)
           have HS35_ := (hb.cell (World.block_lt_of_cell? _ _ (hHeld.2.2.2.2.2.2.2.2.2.2.2.2.2.2.2.2.2.2.2.2.2.2.2.2.2.2.2.2.2.2.2.2.2.2.2.1))).trans (hHeld.2.2.2.2.2.2.2.2.2.2.2.2.2.2.2.2.2.2.2.2.2.2.2.2.2.2.2.2.2.2.2.2.2.2.2.1)
           have HS36_ := (hb.cell (World.block_lt_of_cell? _ _ (hHeld.2.2.2.2.2.2.2.2.2.2.2.2.2.2.2.2.2.2.2.2.2.2.2.2.2.2.2.2.2.2.2.2.2.2.2.2.1))).trans (hHeld.2.2.2.2.2.2.2.2.2.2.2.2.2.2.2.2.2.2.2.2.2.2.2.2.2.2.2.2.2.2.2.2.2.2.2.2.1)
           have HS37_ := (hb.cell (World.block_lt_of_cell? _ _ (hHeld.2.2.2.2.2.2.2.2.2.2.2.2.2.2.2.2.2.2.2.2.2.2.2.2.2.2.2.2.2.2.2.2.2.2.2.2.2.1))).trans (hHeld.2.2.2.2.2.2.2.2.2.2.2.2.2.2.2.2.2.2.2.2.2.2.2.2.2.2.2.2.2.2.2.2.2.2.2.2.2.1)
           have HS38_ := (hb.cell (World.block_lt_of_cell? _ _ (hHeld.2.2.2.2.2.2.2.2.2.2.2.2.2.2.2.2.2.2.2.2.2.2.2.2.2.2.2.2.2.2.2.2.2.2.2.2.2.2.1))).trans (hHeld.2.2.2.2.2.2.2.2.2.2.2.2.2.2.2.2.2.2.2.2.2.2.2.2.2.2.2.2.2.2.2.2.2.2.2.2.2.2.1)
           have HS39_ := (hb.cell (World.block_lt_of_cell? _ _ (hHeld.2.2.2.2.2.2.2.2.2.2.2.2.2.2.2.2.2.2.2.2.2.2.2.2.2.2.2.2.2.2.2.2.2.2.2.2.2.2.2.1))).trans (hHeld.2.2.2.2.2.2.2.2.2.2.2.2.2.2.2.2.2.2.2.2.2.2.2.2.2.2.2.2.2.2.2.2.2.2.2.2.2.2.2.1)
           have HS40_ := (hb.cell (World.block_lt_of_cell? _ _ (hHeld.2.2.2.2.2.2.2.2.2.2.2.2.2.2.2.2.2.2.2.2.2.2.2.2.2.2.2.2.2.2.2.2.2.2.2.2.2.2.2.2.1))).trans (hHeld.2.2.2.2.2.2.2.2.2.2.2.2.2.2.2.2.2.2.2.2.2.2.2.2.2.2.2.2.2.2.2.2.2.2.2.2.2.2.2.2.1)
           have HS41_ := (hb.cell (World.block_lt_of_cell? _ _ (hHeld.2.2.2.2.2.2.2.2.2.2.2.2.2.2.2.2.2.2.2.2.2.2.2.2.2.2.2.2.2.2.2.2.2.2.2.2.2.2.2.2.2.1))).trans (hHeld.2.2.2.2.2.2.2.2.2.2.2.2.2.2.2.2.2.2.2.2.2.2.2.2.2.2.2.2.2.2.2.2.2.2.2.2.2.2.2.2.2.1)
           have HS42_ := (hb.cell (World.block_lt_of_cell? _ _ (hHeld.2.2.2.2.2.2.2.2.2.2.2.2.2.2.2.2.2.2.2.2.2.2.2.2.2.2.2.2.2.2.2.2.2.2.2.2.2.2.2.2.2.2.1))).trans (hHeld.2.2.2.2.2.2.2.2.2.2.2.2.2.2.2.2.2.2.2.2.2.2.2.2.2.2.2.2.2.2.2.2.2.2.2.2.2.2.2.2.2.2.1)
           have HS43_ := (hb.cell (World.block_lt_of_cell? _ _ (hHeld.2.2.2.2.2.2.2.2.2.2.2.2.2.2.2.2.2.2.2.2.2.2.2.2.2.2.2.2.2.2.2.2.2.2.2.2.2.2.2.2.2.2.2.1))).trans (hHeld.2.2.2.2.2.2.2.2.2.2.2.2.2.2.2.2.2.2.2.2.2.2.2.2.2.2.2.2.2.2.2.2.2.2.2.2.2.2.2.2.2.2.2.1)
           have HS44_ := (hb.cell (World.block_lt_of_cell? _ _ (hHeld.2.2.2.2.2.2.2.2.2.2.2.2.2.2.2.2.2.2.2.2.2.2.2.2.2.2.2.2.2.2.2.2.2.2.2.2.2.2.2.2.2.2.2.2.1))).trans (hHeld.2.2.2.2.2.2.2.2.2.2.2.2.2.2.2.2.2.2.2.2.2.2.2.2.2.2.2.2.2.2.2.2.2.2.2.2.2.2.2.2.2.2.2.2.1)
           have HS45_ := (hb.cell (World.block_lt_of_cell? _ _ (hHeld.2.2.2.2.2.2.2.2.2.2.2.2.2.2.2.2.2.2.2.2.2.2.2.2.2.2.2.2.2.2.2.2.2.2.2.2.2.2.2.2.2.2.2.2.2.1))).trans (hHeld.2.2.2.2.2.2.2.2.2.2.2.2.2.2.2.2.2.2.2.2.2.2.2.2.2.2.2.2.2.2.2.2.2.2.2.2.2.2.2.2.2.2.2.2.2.1)
           have HS46_ := (hb.cell (World.block_lt_of_cell? _ _ (hHeld.2.2.2.2.2.2.2.2.2.2.2.2.2.2.2.2.2.2.2.2.2.2.2.2.2.2.2.2.2.2.2.2.2.2.2.2.2.2.2.2.2.2.2.2.2.2.1))).trans (hHeld.2.2.2.2.2.2.2.2.2.2.2.2.2.2.2.2.2.2.2.2.2.2.2.2.2.2.2.2.2.2.2.2.2.2.2.2.2.2.2.2.2.2.2.2.2.2.1)
           have HS47_ := (hb.cell (World.block_lt_of_cell? _ _ (hHeld.2.2.2.2.2.2.2.2.2.2.2.2.2.2.2.2.2.2.2.2.2.2.2.2.2.2.2.2.2.2.2.2.2.2.2.2.2.2.2.2.2.2.2.2.2.2.2))).trans (hHeld.2.2.2.2.2.2.2.2.2.2.2.2.2.2.2.2.2.2.2.2.2.2.2.2.2.2.2.2.2.2.2.2.2.2.2.2.2.2.2.2.2.2.2.2.2.2.2)
           refine ⟨_, rfl, ?_⟩
           have n0_ := Aside0.mk (Kd.R_below (by (with_reducible repeat (first | apply Kd.R_alloc | apply Kd.R_drewN | apply Kd.R_drew)); exact HO125.out) hb)
           have n1_ := Aside0.mk (Kd.R_below (by (with_reducible repeat (first | apply Kd.R_alloc | apply Kd.R_drewN | apply Kd.R_drew)); exact HO130.out) hb)
           have n2_ := Aside0.mk (Kd.S_below (by (with_reducible repeat (first | apply Kd.S_alloc | apply Kd.S_drewN | apply Kd.S_drew)); exact HO133.out) hb)
           have n3_ := Aside0.mk (Kd.R_below (by (with_reducible repeat (first | apply Kd.R_alloc | apply Kd.R_drewN | apply Kd.R_drew)); exact HO136.out) hb)
           have n4_ := Aside0.mk (Kd.R_below (by (with_reducible repeat (first | apply Kd.R_alloc | apply Kd.R_drewN | apply Kd.R_drew)); exact HL138_1.out) hb)
           have n5_ := Aside0.mk (Kd.R_below (by (with_reducible repeat (first | apply Kd.R_alloc | apply Kd.R_drewN | apply Kd.R_drew)); exact HL140_1.out) hb)
           have n6_ := Aside0.mk (blk_below (g := gb126) (o := .cells #[.slice Ao23 y123.length co23, .bool false, .string (⟨#[]⟩ : ByteArray), .string (⟨#[]⟩ : ByteArray)] 25 (0, 0)) (by (with_reducible repeat (first | refine blk_drewN ?_ _ | refine blk_drew ?_ | refine blk_alloc ?_ _)); exact BK126.out) hb)
           have n7_ := Aside0.mk (blk_below (g := gb137) (o := .cells #[.slice Ao34 y134.length co34, .bool false, .string (⟨#[]⟩ : ByteArray), .string (⟨#[]⟩ : ByteArray)] 25 (0, 0)) (by (with_reducible repeat (first | refine blk_drewN ?_ _ | refine blk_drew ?_ | refine blk_alloc ?_ _)); exact BK137.out) hb)
           have n8_ := Aside0.mk (Kd.C_below (by repeat (first | (with_reducible exact HR138_1.out) | (with_reducible refine Kd.C_alloc ?_ _) | (with_reducible refine Kd.C_drewN ?_ _) | (with_reducible refine Kd.C_drew ?_) | exact HR138_1.out)) hb)
           have n9_ := Aside0.mk (Kd.C_below (by repeat (first | (with_reducible exact HR140_1.out) | (with_reducible refine Kd.C_alloc ?_ _) | (with_reducible refine Kd.C_drewN ?_ _) | (with_reducible refine Kd.C_drew ?_) | exact HR140_1.out)) hb)
           have n10_ := Aside0.mk (below_step (by repeat (first | (with_reducible first | exact HB.out | apply below_alloc | apply pw_below_drewN | apply below_drew1 | refine below_set ?_ GE126.out | refine below_set ?_ GE137.out) | exact HB.out)) hb)
           clear HO125
           clear HO130
           clear HO133
           clear HO136
           clear HL138_1
           clear HL140_1
           clear BK126
           clear BK137
           clear HR138_1
           clear HR140_1
           clear HB
           have HO125 := n0_
           have HO130 := n1_
           have HO133 := n2_
           have HO136 := n3_
           have HL138_1 := n4_
           have HL140_1 := n5_
           have BK126 := n6_
           have BK137 := n7_
           have HR138_1 := n8_
           have HR140_1 := n9_
           have HB := n10_
           clear n0_ n1_ n2_ n3_ n4_ n5_ n6_ n7_ n8_ n9_ n10_
           (try clear hb)
           (try clear hb2)
           (try clear hk)
           (try clear hi)
           refine hK.out _ _ ⟨(blk_cell BK126.out 0).trans rfl, (blk_cell BK126.out 1).trans rfl, (blk_cell BK126.out 2).trans rfl, (blk_cell BK126.out 3).trans rfl, (blk_cell BK137.out 0).trans rfl, (blk_cell BK137.out 1).trans rfl, (blk_cell BK137.out 2).trans rfl, (blk_cell BK137.out 3).trans rfl, HS8_, HS9_, HS10_, HS11_, HS12_, HS13_, HS14_, HS15_, HS16_, HS17_, HS18_, HS19_, HS20_, HS21_, HS22_, HS23_, HS24_, HS25_, HS26_, HS27_, HS28_, HS29_, HS30_, HS31_, HS32_, HS33_, HS34_, HS35_, HS36_, HS37_, HS38_, HS39_, HS40_, HS41_, HS42_, HS43_, HS44_, HS45_, HS46_, HS47_⟩ (fun hHeld => ?_)
           clear hK K
           refine norm_ (a' := ?_) ?_ ?_
           rotate_left
           ·show Act.put _ (some 54) _ = _
            simp only [Act.put, List.setIfInBounds_toArray, List.set_cons_zero, List.set_cons_succ, i64_w, i32_w]
            rfl
           refine pure_ (i := 11) (N := some 55) (v := ?_) (a' := ?_) #[true, true, true, true, true, true, true, true, true, true, true, true, false, false, false, false, false, false, false, false, false, false, false, false, false, false, false, false, false, false, false, false, false, false] rfl rfl (any_of HT_.out (by kernel_rfl)) (fun _ _ _ h => h) (Or.inl ⟨by rfl, ?_⟩) ?_ ?_
           rotate_left
           ·intro w'
            go_simp
            with_reducible rfl
           rotate_left
           ·simp only [Act.put, List.setIfInBounds_toArray, List.set_cons_zero, List.set_cons_succ, i64_w, i32_w]
            rfl
           refine pure_ (i := 12) (N := some 56) (v := ?_) (a' := ?_) #[true, true, true, true, true, true, true, true, true, true, true, true, true, false, false, false, false, false, false, false, false, false, false, false, false, false, false, false, false, false, false, false, false, false] rfl rfl (any_of HT_.out (by kernel_rfl)) (fun _ _ _ h => h) (Or.inl ⟨by rfl, ?_⟩) ?_ ?_
           rotate_left
           ·intro w'
            go_simp
            with_reducible rfl
           rotate_left
           ·simp only [Act.put, List.setIfInBounds_toArray, List.set_cons_zero, List.set_cons_succ, i64_w, i32_w]
            rfl
           refine pure_ (i := 14) (N := some 58) (v := ?_) (a' := ?_) #[true, true, true, true, true, true, true, true, true, true, true, true, true, false, true, false, false, false, false, false, false, false, false, false, false, false, false, false, false, false, false, false, false, false] rfl rfl (any_of HT_.out (by kernel_rfl)) (fun _ _ _ h => h) (Or.inl ⟨by rfl, ?_⟩) ?_ ?_
           rotate_left
           ·intro w'
            go_simp
            with_reducible rfl
           rotate_left
           ·simp only [Act.put, List.setIfInBounds_toArray, List.set_cons_zero, List.set_cons_succ, i64_w, i32_w]
            rfl
           refine pure_ (i := 15) (N := some 59) (v := ?_) (a' := ?_) #[true, true, true, true, true, true, true, true, true, true, true, true, true, false, true, true, false, false, false, false, false, false, false, false, false, false, false, false, false, false, false, false, false, false] rfl rfl (any_of HT_.out (by kernel_rfl)) (fun _ _ _ h => h) (Or.inl ⟨by rfl, ?_⟩) ?_ ?_
           rotate_left
           ·intro w'
            go_simp
            with_reducible rfl
           rotate_left
           ·simp only [Act.put, List.setIfInBounds_toArray, List.set_cons_zero, List.set_cons_succ, i64_w, i32_w]
            rfl
           refine take_ (i := 13) (N := some 57) (v := ?_) (a' := ?_) #[true, true, true, true, true, true, true, true, true, true, true, true, true, true, true, true, false, false, false, false, false, false, false, false, false, false, false, false, false, false, false, false, false, false] rfl rfl (take_ofW HT_.out HW_.out (by kernel_rfl)) (fun _ _ _ h => h) (Or.inl ⟨by rfl, ?_⟩) hHeld ?_ ?_
           rotate_left
           ·rintro w' ⟨s0, s1, s2, s3, s4, s5, s6, s7, s8, s9, s10, s11, s12, s13, s14, s15, s16, s17, s18, s19, s20, s21, s22, s23, s24, s25, s26, s27, s28, s29, s30, s31, s32, s33, s34, s35, s36, s37, s38, s39, s40, s41, s42, s43, s44, s45, s46, s47⟩
            go_simp
            with_reducible rfl
           rotate_left
           ·simp only [Act.put, List.setIfInBounds_toArray, List.set_cons_zero, List.set_cons_succ, i64_w, i32_w]
            rfl
           refine take_ (i := 16) (N := some 60) (v := ?_) (a' := ?_) #[true, true, true, true, true, true, true, true, true, true, true, true, true, true, true, true, true, false, false, false, false, false, false, false, false, false, false, false, false, false, false, false, false, false] rfl rfl (take_ofW HT_.out HW_.out (by kernel_rfl)) (fun _ _ _ h => h) (Or.inl ⟨by rfl, ?_⟩) hHeld ?_ ?_
           rotate_left
           ·rintro w' ⟨s0, s1, s2, s3, s4, s5, s6, s7, s8, s9, s10, s11, s12, s13, s14, s15, s16, s17, s18, s19, s20, s21, s22, s23, s24, s25, s26, s27, s28, s29, s30, s31, s32, s33, s34, s35, s36, s37, s38, s39, s40, s41, s42, s43, s44, s45, s46, s47⟩
            go_simp
            with_reducible rfl
           rotate_left
           ·simp only [Act.put, List.setIfInBounds_toArray, List.set_cons_zero, List.set_cons_succ, i64_w, i32_w]
            rfl
           refine one_ (i := 17) (N := some 61) #[true, true, true, true, true, true, true, true, true, true, true, true, true, true, true, true, true, true, false, false, false, false, false, false, false, false, false, false, false, false, false, false, false, false] rfl rfl (one_of HT_.out (by kernel_rfl)) (by decide) (fun K hK => ?_)
           refine goes_ Tryd.func16 (by kernel_rfl) rfl #[.agg #[.slice Ao23 y123.length co23, .bool false, .string (⟨#[]⟩ : ByteArray), .string (⟨#[]⟩ : ByteArray)], .agg #[.bool ((rd_T46 t131 2).f0), .slice A142_1 ((rd_T46 t131 2).f1).length c142_1, .string ((rd_T46 t131 2).f2), .string ((rd_T46 t131 2).f3), .string ((rd_T46 t131 2).f4), .int .u64 ((rd_T46 t131 2).f5), .int .u64 ((rd_T46 t131 2).f6), .int .u64 ((rd_T46 t131 2).f7)]] (by rfl) rfl rfl (by (try simp only [List.map_toArray, List.map_cons, List.map_nil]); first | done | rfl | (simp only [List.length_drop, List.length_take]; rfl)) ?_
           with_reducible refine (spec_SameVer.calls k _ _ y123 false (⟨#[]⟩ : ByteArray) (⟨#[]⟩ : ByteArray) ((rd_T46 t131 2).f0) _ _ ((rd_T46 t131 2).f1) ((rd_T46 t131 2).f2) ((rd_T46 t131 2).f3) ((rd_T46 t131 2).f4) ((rd_T46 t131 2).f5) ((rd_T46 t131 2).f6) ((rd_T46 t131 2).f7) true _ ?side1 ?side2 ?side3 ?side4 A14.out).mono ?_
           (case side1 => repeat (first | exact (Kd.R_reads' HO125.out).2.2 | (with_reducible refine Kd.C_alloc ?_ _) | (with_reducible refine Kd.C_drewN ?_ _) | (with_reducible refine Kd.C_drew ?_)))
           (case side2 => exact (Kd.R_reads' HO125.out).2.1)
           (case side3 => repeat (first | exact (by repeat (first | (with_reducible exact HR142_1.out) | (with_reducible refine Kd.C_alloc ?_ _) | (with_reducible refine Kd.C_drewN ?_ _) | (with_reducible refine Kd.C_drew ?_) | exact HR142_1.out)) | (with_reducible refine Kd.C_alloc ?_ _) | (with_reducible refine Kd.C_drewN ?_ _) | (with_reducible refine Kd.C_drew ?_)))
           (case side4 => exact HC142_1.out)
           rintro e w42 ⟨rfl, hb⟩
           replace HL144_1 := Aside0.mk (Kd.R_below (by (with_reducible repeat (first | apply Kd.R_alloc | apply Kd.R_drewN | apply Kd.R_drew)); exact HL144_1.out) hb)
           replace HR144_1 := Aside0.mk (Kd.C_below (by repeat (first | (with_reducible exact HR144_1.out) | (with_reducible refine Kd.C_alloc ?_ _) | (with_reducible refine Kd.C_drewN ?_ _) | (with_reducible refine Kd.C_drew ?_) | exact HR144_1.out)) hb)
           replace HL146_1 := Aside0.mk (Kd.R_below (by (with_reducible repeat (first | apply Kd.R_alloc | apply Kd.R_drewN | apply Kd.R_drew)); exact HL146_1.out) hb)
           replace HR146_1 := Aside0.mk (Kd.C_below (by repeat (first | (with_reducible exact HR146_1.out) | (with_reducible refine Kd.C_alloc ?_ _) | (with_reducible refine Kd.C_drewN ?_ _) | (with_reducible refine Kd.C_drew ?_) | exact HR146_1.out)) hb)
           have HS8_ := (hb.cell (World.block_lt_of_cell? _ _ (hHeld.2.2.2.2.2.2.2.2.1))).trans (hHeld.2.2.2.2.2.2.2.2.1)
           have HS9_ := (hb.cell (World.block_lt_of_cell? _ _ (hHeld.2.2.2.2.2.2.2.2.2.1))).trans (hHeld.2.2.2.2.2.2.2.2.2.1)
           have HS10_ := (hb.cell (World.block_lt_of_cell? _ _ (hHeld.2.2.2.2.2.2.2.2.2.2.1))).trans (hHeld.2.2.2.2.2.2.2.2.2.2.1)
           have HS11_ := (hb.cell (World.block_lt_of_cell? _ _ (hHeld.2.2.2.2.2.2.2.2.2.2.2.1))).trans (hHeld.2.2.2.2.2.2.2.2.2.2.2.1)
           have HS12_ := (hb.cell (World.block_lt_of_cell? _ _ (hHeld.2.2.2.2.2.2.2.2.2.2.2.2.1))).trans (hHeld.2.2.2.2.2.2.2.2.2.2.2.2.1)
           have HS13_ := (hb.cell (World.block_lt_of_cell? _ _ (hHeld.2.2.2.2.2.2.2.2.2.2.2.2.2.1))).trans (hHeld.2.2.2.2.2.2.2.2.2.2.2.2.2.1)
           have HS14_ := (hb.cell (World.block_lt_of_cell? _ _ (hHeld.2.2.2.2.2.2.2.2.2.2.2.2.2.2.1))).trans (hHeld.2.2.2.2.2.2.2.2.2.2.2.2.2.2.1)
           have HS15_ := (hb.cell (World.block_lt_of_cell? _ _ (hHeld.2.2.2.2.2.2.2.2.2.2.2.2.2.2.2.1))).trans (hHeld.2.2.2.2.2.2.2.2.2.2.2.2.2.2.2.1)
           have HS16_ := (hb.cell (World.block_lt_of_cell? _ _ (hHeld.2.2.2.2.2.2.2.2.2.2.2.2.2.2.2.2.1))).trans (hHeld.2.2.2.2.2.2.2.2.2.2.2.2.2.2.2.2.1)
           have HS17_ := (hb.cell (World.block_lt_of_cell? _ _ (hHeld.2.2.2.2.2.2.2.2.2.2.2.2.2.2.2.2.2.1))).trans (hHeld.2.2.2.2.2.2.2.2.2.2.2.2.2.2.2.2.2.1)
           have HS18_ := (hb.cell (World.block_lt_of_cell? _ _ (hHeld.2.2.2.2.2.2.2.2.2.2.2.2.2.2.2.2.2.2.1))).trans (hHeld.2.2.2.2.2.2.2.2.2.2.2.2.2.2.2.2.2.2.1)
           have HS19_ := (hb.cell (World.block_lt_of_cell? _ _ (hHeld.2.2.2.2.2.2.2.2.2.2.2.2.2.2.2.2.2.2.2.1))).trans (hHeld.2.2.2.2.2.2.2.2.2.2.2.2.2.2.2.2.2.2.2.1)
           have HS20_ := (hb.cell (World.block_lt_of_cell? _ _ (hHeld.2.2.2.2.2.2.2.2.2.2.2.2.2.2.2.2.2.2.2.2.1))).trans (hHeld.2.2.2.2.2.2.2.2.2.2.2.2.2.2.2.2.2.2.2.2.1)
           have HS21_ := (hb.cell (World.block_lt_of_cell? _ _ (hHeld.2.2.2.2.2.2.2.2.2.2.2.2.2.2.2.2.2.2.2.2.2.1))).trans (hHeld.2.2.2.2.2.2.2.2.2.2.2.2.2.2.2.2.2.2.2.2.2.1)
           have HS22_ := (hb.cell (World.block_lt_of_cell? _ _ (hHeld.2.2.2.2.2.2.2.2.2.2.2.2.2.2.2.2.2.2.2.2.2.2.1))).trans (hHeld.2.2.2.2.2.2.2.2.2.2.2.2.2.2.2.2.2.2.2.2.2.2.1)
           have HS23_ := (hb.cell (World.block_lt_of_cell? _ _ (hHeld.2.2.2.2.2.2.2.2.2.2.2.2.2.2.2.2.2.2.2.2.2.2.2.1))).trans (hHeld.2.2.2.2.2.2.2.2.2.2.2.2.2.2.2.2.2.2.2.2.2.2.2.1)
           have HS24_ := (hb.cell (World.block_lt_of_cell? _ _ (hHeld.2.2.2.2.2.2.2.2.2.2.2.2.2.2.2.2.2.2.2.2.2.2.2.2.1))).trans (hHeld.2.2.2.2.2.2.2.2.2.2.2.2.2.2.2.2.2.2.2.2.2.2.2.2.1)
           have HS25_ := (hb.cell (World.block_lt_of_cell? _ _ (hHeld.2.2.2.2.2.2.2.2.2.2.2.2.2.2.2.2.2.2.2.2.2.2.2.2.2.1))).trans (hHeld.2.2.2.2.2.2.2.2.2.2.2.2.2.2.2.2.2.2.2.2.2.2.2.2.2.1)
           have HS26_ := (hb.cell (World.block_lt_of_cell? _ _ (hHeld.2.2.2.2.2.2.2.2.2.2.2.2.2.2.2.2.2.2.2.2.2.2.2.2.2.2.1))).trans (hHeld.2.2.2.2.2.2.2.2.2.2.2.2.2.2.2.2.2.2.2.2.2.2.2.2.2.2.1)
           have HS27_ := (hb.cell (World.block_lt_of_cell? _ _ (hHeld.2.2.2.2.2.2.2.2.2.2.2.2.2.2.2.2.2.2.2.2.2.2.2.2.2.2.2.1))).trans (hHeld.2.2.2.2.2.2.2.2.2.2.2.2.2.2.2.2.2.2.2.2.2.2.2.2.2.2.2.1)
           have HS28_ := (hb.cell (World.block_lt_of_cell? _ _ (hHeld.2.2.2.2.2.2.2.2.2.2.2.2.2.2.2.2.2.2.2.2.2.2.2.2.2.2.2.2.1))).trans (hHeld.2.2.2.2.2.2.2.2.2.2.2.2.2.2.2.2.2.2.2.2.2.2.2.2.2.2.2.2.1)
           have HS29_ := (hb.cell (World.block_lt_of_cell? _ _ (hHeld.2.2.2.2.2.2.2.2.2.2.2.2.2.2.2.2.2.2.2.2.2.2.2.2.2.2.2.2.2.1))).trans (hHeld.2.2.2.2.2.2.2.2.2.2.2.2.2.2.2.2.2.2.2.2.2.2.2.2.2.2.2.2.2.1)
           have HS30_ := (hb.cell (World.block_lt_of_cell? _ _ (hHeld.2.2.2.2.2.2.2.2.2.2.2.2.2.2.2.2.2.2.2.2.2.2.2.2.2.2.2.2.2.2.1))).trans (hHeld.2.2.2.2.2.2.2.2.2.2.2.2.2.2.2.2.2.2.2.2.2.2.2.2.2.2.2.2.2.2.1)
           have HS31_ := (hb.cell (World.block_lt_of_cell? _ _ (hHeld.2.2.2.2.2.2.2.2.2.2.2.2.2.2.2.2.2.2.2.2.2.2.2.2.2.2.2.2.2.2.2.1))).trans (hHeld.2.2.2.2.2.2.2.2.2.2.2.2.2.2.2.2.2.2.2.2.2.2.2.2.2.2.2.2.2.2.2.1)
           have HS32_ := (hb.cell (World.block_lt_of_cell? _ _ (hHeld.2.2.2.2.2.2.2.2.2.2.2.2.2.2.2.2.2.2.2.2.2.2.2.2.2.2.2.2.2.2.2.2.1))).trans (hHeld.2.2.2.2.2.2.2.2.2.2.2.2.2.2.2.2.2.2.2.2.2.2.2.2.2.2.2.2.2.2.2.2.1)
           have HS33_ := (hb.cell (World.block_lt_of_cell? _ _ (hHeld.2.2.2.2.2.2.2.2.2.2.2.2.2.2.2.2.2.2.2.2.2.2.2.2.2.2.2.2.2.2.2.2.2.1))).trans (hHeld.2.2.2.2.2.2.2.2.2.2.2.2.2.2.2.2.2.2.2.2.2.2.2.2.2.2.2.2.2.2.2.2.2.1)
           have HS34_ := (hb.cell (World.block_lt_of_cell? _ _ (hHeld.2.2.2.2.2.2.2.2.2.2.2.2.2.2.2.2.2.2.2.2.2.2.2.2.2.2.2.2.2.2.2.2.2.2.1))).trans (hHeld.2.2.2.2.2.2.2.2.2.2.2.2.2.2.2.2.2.2.2.2.2.2.2.2.2.2.2.2.2.2.2.2.2.2.1)
           have HS35_ := (hb.cell (World.block_lt_of_cell? _ _ (hHeld.2.2.2.2.2.2.2.2.2.2.2.2.2.2.2.2.2.2.2.2.2.2.2.2.2.2.2.2.2.2.2.2.2.2.2.1))).trans (hHeld.2.2.2.2.2.2.2.2.2.2.2.2.2.2.2.2.2.2.2.2.2.2.2.2.2.2.2.2.2.2.2.2.2.2.2.1)
           have HS36_ := (hb.cell (World.block_lt_of_cell? _ _ (hHeld.2.2.2.2.2.2.2.2.2.2.2.2.2.2.2.2.2.2.2.2.2.2.2.2.2.2.2.2.2.2.2.2.2.2.2.2.1))).trans (hHeld.2.2.2.2.2.2.2.2.2.2.2.2.2.2.2.2.2.2.2.2.2.2.2.2.2.2.2.2.2.2.2.2.2.2.2.2.1)
           have HS37_ := (hb.cell (World.block_lt_of_cell? _ _ (hHeld.2.2.2.2.2.2.2.2.2.2.2.2.2.2.2.2.2.2.2.2.2.2.2.2.2.2.2.2.2.2.2.2.2.2.2.2.2.1))).trans (hHeld.2.2.2.2.2.2.2.2.2.2.2.2.2.2.2.2.2.2.2.2.2.2.2.2.2.2.2.2.2.2.2.2.2.2.2.2.2.1)
           have HS38_ := (hb.cell (World.block_lt_of_cell? _ _ (hHeld.2.2.2.2.2.2.2.2.2.2.2.2.2.2.2.2.2.2.2.2.2.2.2.2.2.2.2.2.2.2.2.2.2.2.2.2.2.2.1))).trans (hHeld.2.2.2.2.2.2.2.2.2.2.2.2.2.2.2.2.2.2.2.2.2.2.2.2.2.2.2.2.2.2.2.2.2.2.2.2.2.2.1)
           have HS39_ := (hb.cell (World.block_lt_of_cell? _ _ (hHeld.2.2.2.2.2.2.2.2.2.2.2.2.2.2.2.2.2.2.2.2.2.2.2.2.2.2.2.2.2.2.2.2.2.2.2.2.2.2.2.1))).trans (hHeld.2.2.2.2.2.2.2.2.2.2.2.2.2.2.2.2.2.2.2.2.2.2.2.2.2.2.2.2.2.2.2.2.2.2.2.2.2.2.2.1)
           have HS40_ := (hb.cell (World.block_lt_of_cell? _ _ (hHeld.2.2.2.2.2.2.2.2.2.2.2.2.2.2.2.2.2.2.2.2.2.2.2.2.2.2.2.2.2.2.2.2.2.2.2.2.2.2.2.2.1))).trans (hHeld.2.2.2.2.2.2.2.2.2.2.2.2.2.2.2.2.2.2.2.2.2.2.2.2.2.2.2.2.2.2.2.2.2.2.2.2.2.2.2.2.1)
           have HS41_ := (hb.cell (World.block_lt_of_cell? _ _ (hHeld.2.2.2.2.2.2.2.2.2.2.2.2.2.2.2.2.2.2.2.2.2.2.2.2.2.2.2.2.2.2.2.2.2.2.2.2.2.2.2.2.2.1))).trans (hHeld.2.2.2.2.2.2.2.2.2.2.2.2.2.2.2.2.2.2.2.2.2.2.2.2.2.2.2.2.2.2.2.2.2.2.2.2.2.2.2.2.2.1)
           have HS42_ := (hb.cell (World.block_lt_of_cell? _ _ (hHeld.2.2.2.2.2.2.2.2.2.2.2.2.2.2.2.2.2.2.2.2.2.2.2.2.2.2.2.2.2.2.2.2.2.2.2.2.2.2.2.2.2.2.1))).trans (hHeld.2.2.2.2.2.2.2.2.2.2.2.2.2.2.2.2.2.2.2.2.2.2.2.2.2.2.2.2.2.2.2.2.2.2.2.2.2.2.2.2.2.2.1)
           have HS43_ := (hb.cell (World.block_lt_of_cell? _ _ (hHeld.2.2.2.2.2.2.2.2.2.2.2.2.2.2.2.2.2.2.2.2.2.2.2.2.2.2.2.2.2.2.2.2.2.2.2.2.2.2.2.2.2.2.2.1))).trans (hHeld.2.2.2.2.2.2.2.2.2.2.2.2.2.2.2.2.2.2.2.2.2.2.2.2.2.2.2.2.2.2.2.2.2.2.2.2.2.2.2.2.2.2.2.1)
           have HS44_ := (hb.cell (World.block_lt_of_cell? _ _ (hHeld.2.2.2.2.2.2.2.2.2.2.2.2.2.2.2.2.2.2.2.2.2.2.2.2.2.2.2.2.2.2.2.2.2.2.2.2.2.2.2.2.2.2.2.2.1))).trans (hHeld.2.2.2.2.2.2.2.2.2.2.2.2.2.2.2.2.2.2.2.2.2.2.2.2.2.2.2.2.2.2.2.2.2.2.2.2.2.2.2.2.2.2.2.2.1)
           have HS45_ := (hb.cell (World.block_lt_of_cell? _ _ (hHeld.2.2.2.2.2.2.2.2.2.2.2.2.2.2.2.2.2.2.2.2.2.2.2.2.2.2.2.2.2.2.2.2.2.2.2.2.2.2.2.2.2.2.2.2.2.1))).trans (hHeld.2.2.2.2.2.2.2.2.2.2.2.2.2.2.2.2.2.2.2.2.2.2.2.2.2.2.2.2.2.2.2.2.2.2.2.2.2.2.2.2.2.2.2.2.2.1)
           have HS46_ := (hb.cell (World.block_lt_of_cell? _ _ (hHeld.2.2.2.2.2.2.2.2.2.2.2.2.2.2.2.2.2.2.2.2.2.2.2.2.2.2.2.2.2.2.2.2.2.2.2.2.2.2.2.2.2.2.2.2.2.2.1))).trans (hHeld.2.2.2.2.2.2.2.2.2.2.2.2.2.2.2.2.2.2.2.2.2.2.2.2.2.2.2.2.2.2.2.2.2.2.2.2.2.2.2.2.2.2.2.2.2.2.1)
           have HS47_ := (hb.cell (World.block_lt_of_cell? _ _ (hHeld.2.2.2.2.2.2.2.2.2.2.2.2.2.2.2.2.2.2.2.2.2.2.2.2.2.2.2.2.2.2.2.2.2.2.2.2.2.2.2.2.2.2.2.2.2.2.2))).trans (hHeld.2.2.2.2.2.2.2.2.2.2.2.2.2.2.2.2.2.2.2.2.2.2.2.2.2.2.2.2.2.2.2.2.2.2.2.2.2.2.2.2.2.2.2.2.2.2.2)
           refine ⟨_, rfl, ?_⟩
           have n0_ := Aside0.mk (Kd.R_below (by (with_reducible repeat (first | apply Kd.R_alloc | apply Kd.R_drewN | apply Kd.R_drew)); exact HO125.out) hb)
           have n1_ := Aside0.mk (Kd.R_below (by (with_reducible repeat (first | apply Kd.R_alloc | apply Kd.R_drewN | apply Kd.R_drew)); exact HO130.out) hb)
           have n2_ := Aside0.mk (Kd.S_below (by (with_reducible repeat (first | apply Kd.S_alloc | apply Kd.S_drewN | apply Kd.S_drew)); exact HO133.out) hb)
           have n3_ := Aside0.mk (Kd.R_below (by (with_reducible repeat (first | apply Kd.R_alloc | apply Kd.R_drewN | apply Kd.R_drew)); exact HO136.out) hb)
           have n4_ := Aside0.mk (Kd.R_below (by (with_reducible repeat (first | apply Kd.R_alloc | apply Kd.R_drewN | apply Kd.R_drew)); exact HL138_1.out) hb)
           have n5_ := Aside0.mk (Kd.R_below (by (with_reducible repeat (first | apply Kd.R_alloc | apply Kd.R_drewN | apply Kd.R_drew)); exact HL140_1.out) hb)
           have n6_ := Aside0.mk (Kd.R_below (by (with_reducible repeat (first | apply Kd.R_alloc | apply Kd.R_drewN | apply Kd.R_drew)); exact HL142_1.out) hb)
           have n7_ := Aside0.mk (blk_below (g := gb126) (o := .cells #[.slice Ao23 y123.length co23, .bool false, .string (⟨#[]⟩ : ByteArray), .string (⟨#[]⟩ : ByteArray)] 25 (0, 0)) (by (with_reducible repeat (first | refine blk_drewN ?_ _ | refine blk_drew ?_ | refine blk_alloc ?_ _)); exact BK126.out) hb)
           have n8_ := Aside0.mk (blk_below (g := gb137) (o := .cells #[.slice Ao34 y134.length co34, .bool false, .string (⟨#[]⟩ : ByteArray), .string (⟨#[]⟩ : ByteArray)] 25 (0, 0)) (by (with_reducible repeat (first | refine blk_drewN ?_ _ | refine blk_drew ?_ | refine blk_alloc ?_ _)); exact BK137.out) hb)
           have n9_ := Aside0.mk (Kd.C_below (by repeat (first | (with_reducible exact HR138_1.out) | (with_reducible refine Kd.C_alloc ?_ _) | (with_reducible refine Kd.C_drewN ?_ _) | (with_reducible refine Kd.C_drew ?_) | exact HR138_1.out)) hb)
           have n10_ := Aside0.mk (Kd.C_below (by repeat (first | (with_reducible exact HR140_1.out) | (with_reducible refine Kd.C_alloc ?_ _) | (with_reducible refine Kd.C_drewN ?_ _) | (with_reducible refine Kd.C_drew ?_) | exact HR140_1.out)) hb)
           have n11_ := Aside0.mk (Kd.C_below (by repeat (first | (with_reducible exact HR142_1.out) | (with_reducible refine Kd.C_alloc ?_ _) | (with_reducible refine Kd.C_drewN ?_ _) | (with_reducible refine Kd.C_drew ?_) | exact HR142_1.out)) hb)
           have n12_ := Aside0.mk (below_step (by repeat (first | (with_reducible first | exact HB.out | apply below_alloc | apply pw_below_drewN | apply below_drew1 | refine below_set ?_ GE126.out | refine below_set ?_ GE137.out) | exact HB.out)) hb)
           clear HO125
           clear HO130
           clear HO133
           clear HO136
           clear HL138_1
           clear HL140_1
           clear HL142_1
           clear BK126
           clear BK137
           clear HR138_1
           clear HR140_1
           clear HR142_1
           clear HB
           have HO125 := n0_
           have HO130 := n1_
           have HO133 := n2_
           have HO136 := n3_
           have HL138_1 := n4_
           have HL140_1 := n5_
           have HL142_1 := n6_
           have BK126 := n7_
           have BK137 := n8_
           have HR138_1 := n9_
           have HR140_1 := n10_
           have HR142_1 := n11_
           have HB := n12_
           clear n0_ n1_ n2_ n3_ n4_ n5_ n6_ n7_ n8_ n9_ n10_ n11_ n12_
           (try clear hb)
           (try clear hb2)
           (try clear hk)
           (try clear hi)
           refine hK.out _ _ ⟨(blk_cell BK126.out 0).trans rfl, (blk_cell BK126.out 1).trans rfl, (blk_cell BK126.out 2).trans rfl, (blk_cell BK126.out 3).trans rfl, (blk_cell BK137.out 0).trans rfl, (blk_cell BK137.out 1).trans rfl, (blk_cell BK137.out 2).trans rfl, (blk_cell BK137.out 3).trans rfl, HS8_, HS9_, HS10_, HS11_, HS12_, HS13_, HS14_, HS15_, HS16_, HS17_, HS18_, HS19_, HS20_, HS21_, HS22_, HS23_, HS24_, HS25_, HS26_, HS27_, HS28_, HS29_, HS30_, HS31_, HS32_, HS33_, HS34_, HS35_, HS36_, HS37_, HS38_, HS39_, HS40_, HS41_, HS42_, HS43_, HS44_, HS45_, HS46_, HS47_⟩ (fun hHeld => ?_)
           clear hK K
           refine norm_ (a' := ?_) ?_ ?_
           rotate_left
           ·show Act.put _ (some 61) _ = _
            simp only [Act.put, List.setIfInBounds_toArray, List.set_cons_zero, List.set_cons_succ, i64_w, i32_w]
            rfl
           refine pure_ (i := 18) (N := some 62) (v := ?_) (a' := ?_) #[true, true, true, true, true, true, true, true, true, true, true, true, true, true, true, true, true, true, true, false, false, false, false, false, false, false, false, false, false, false, false, false, false, false] rfl rfl (any_of HT_.out (by kernel_rfl)) (fun _ _ _ h => h) (Or.inl ⟨by rfl, ?_⟩) ?_ ?_
           rotate_left
           ·intro w'
            go_simp
            with_reducible rfl
           rotate_left
           ·simp only [Act.put, List.setIfInBounds_toArray, List.set_cons_zero, List.set_cons_succ, i64_w, i32_w]
            rfl
           refine pure_ (i := 19) (N := some 63) (v := ?_) (a' := ?_) #[true, true, true, true, true, true, true, true, true, true, true, true, true, true, true, true, true, true, true, true, false, false, false, false, false, false, false, false, false, false, false, false, false, false] rfl rfl (any_of HT_.out (by kernel_rfl)) (fun _ _ _ h => h) (Or.inl ⟨by rfl, ?_⟩) ?_ ?_
           rotate_left
           ·intro w'
            go_simp
            with_reducible rfl
           rotate_left
           ·simp only [Act.put, List.setIfInBounds_toArray, List.set_cons_zero, List.set_cons_succ, i64_w, i32_w]
            rfl
           refine pure_ (i := 21) (N := some 65) (v := ?_) (a' := ?_) #[true, true, true, true, true, true, true, true, true, true, true, true, true, true, true, true, true, true, true, true, false, true, false, false, false, false, false, false, false, false, false, false, false, false] rfl rfl (any_of HT_.out (by kernel_rfl)) (fun _ _ _ h => h) (Or.inl ⟨by rfl, ?_⟩) ?_ ?_
           rotate_left
           ·intro w'
            go_simp
            with_reducible rfl
           rotate_left
           ·simp only [Act.put, List.setIfInBounds_toArray, List.set_cons_zero, List.set_cons_succ, i64_w, i32_w]
            rfl
           refine pure_ (i := 22) (N := some 66) (v := ?_) (a' := ?_) #[true, true, true, true, true, true, true, true, true, true, true, true, true, true, true, true, true, true, true, true, false, true, true, false, false, false, false, false, false, false, false, false, false, false] rfl rfl (any_of HT_.out (by kernel_rfl)) (fun _ _ _ h => h) (Or.inl ⟨by rfl, ?_⟩) ?_ ?_
           rotate_left
           ·intro w'
            go_simp
            with_reducible rfl
           rotate_left
           ·simp only [Act.put, List.setIfInBounds_toArray, List.set_cons_zero, List.set_cons_succ, i64_w, i32_w]
            rfl
           refine take_ (i := 20) (N := some 64) (v := ?_) (a' := ?_) #[true, true, true, true, true, true, true, true, true, true, true, true, true, true, true, true, true, true, true, true, true, true, true, false, false, false, false, false, false, false, false, false, false, false] rfl rfl (take_ofW HT_.out HW_.out (by kernel_rfl)) (fun _ _ _ h => h) (Or.inl ⟨by rfl, ?_⟩) hHeld ?_ ?_
           rotate_left
           ·rintro w' ⟨s0, s1, s2, s3, s4, s5, s6, s7, s8, s9, s10, s11, s12, s13, s14, s15, s16, s17, s18, s19, s20, s21, s22, s23, s24, s25, s26, s27, s28, s29, s30, s31, s32, s33, s34, s35, s36, s37, s38, s39, s40, s41, s42, s43, s44, s45, s46, s47⟩
            go_simp
            with_reducible rfl
           rotate_left
           ·simp only [Act.put, List.setIfInBounds_toArray, List.set_cons_zero, List.set_cons_succ, i64_w, i32_w]
            rfl
           refine take_ (i := 23) (N := some 67) (v := ?_) (a' := ?_) #[true, true, true, true, true, true, true, true, true, true, true, true, true, true, true, true, true, true, true, true, true, true, true, true, false, false, false, false, false, false, false, false, false, false] rfl rfl (take_ofW HT_.out HW_.out (by kernel_rfl)) (fun _ _ _ h => h) (Or.inl ⟨by rfl, ?_⟩) hHeld ?_ ?_
           rotate_left
           ·rintro w' ⟨s0, s1, s2, s3, s4, s5, s6, s7, s8, s9, s10, s11, s12, s13, s14, s15, s16, s17, s18, s19, s20, s21, s22, s23, s24, s25, s26, s27, s28, s29, s30, s31, s32, s33, s34, s35, s36, s37, s38, s39, s40, s41, s42, s43, s44, s45, s46, s47⟩
            go_simp
            with_reducible rfl
           rotate_left
           ·simp only [Act.put, List.setIfInBounds_toArray, List.set_cons_zero, List.set_cons_succ, i64_w, i32_w]
            rfl
           refine one_ (i := 24) (N := some 68) #[true, true, true, true, true, true, true, true, true, true, true, true, true, true, true, true, true, true, true, true, true, true, true, true, true, false, false, false, false, false, false, false, false, false] rfl rfl (one_of HT_.out (by kernel_rfl)) (by decide) (fun K hK => ?_)
           refine goes_ Tryd.func16 (by kernel_rfl) rfl #[.agg #[.slice Ao34 y134.length co34, .bool false, .string (⟨#[]⟩ : ByteArray), .string (⟨#[]⟩ : ByteArray)], .agg #[.bool ((rd_T46 t131 3).f0), .slice A144_1 ((rd_T46 t131 3).f1).length c144_1, .string ((rd_T46 t131 3).f2), .string ((rd_T46 t131 3).f3), .string ((rd_T46 t131 3).f4), .int .u64 ((rd_T46 t131 3).f5), .int .u64 ((rd_T46 t131 3).f6), .int .u64 ((rd_T46 t131 3).f7)]] (by rfl) rfl rfl (by (try simp only [List.map_toArray, List.map_cons, List.map_nil]); first | done | rfl | (simp only [List.length_drop, List.length_take]; rfl)) ?_
           with_reducible refine (spec_SameVer.calls k _ _ y134 false (⟨#[]⟩ : ByteArray) (⟨#[]⟩ : ByteArray) ((rd_T46 t131 3).f0) _ _ ((rd_T46 t131 3).f1) ((rd_T46 t131 3).f2) ((rd_T46 t131 3).f3) ((rd_T46 t131 3).f4) ((rd_T46 t131 3).f5) ((rd_T46 t131 3).f6) ((rd_T46 t131 3).f7) true _ ?side1 ?side2 ?side3 ?side4 A17.out).mono ?_
           (case side1 => repeat (first | exact (Kd.R_reads' HO136.out).2.2 | (with_reducible refine Kd.C_alloc ?_ _) | (with_reducible refine Kd.C_drewN ?_ _) | (with_reducible refine Kd.C_drew ?_)))
           (case side2 => exact (Kd.R_reads' HO136.out).2.1)
           (case side3 => repeat (first | exact (by repeat (first | (with_reducible exact HR144_1.out) | (with_reducible refine Kd.C_alloc ?_ _) | (with_reducible refine Kd.C_drewN ?_ _) | (with_reducible refine Kd.C_drew ?_) | exact HR144_1.out)) | (with_reducible refine Kd.C_alloc ?_ _) | (with_reducible refine Kd.C_drewN ?_ _) | (with_reducible refine Kd.C_drew ?_)))
           (case side4 => exact HC144_1.out)
           rintro e w43 ⟨rfl, hb⟩
           replace HL146_1 := Aside0.mk (Kd.R_below (by (with_reducible repeat (first | apply Kd.R_alloc | apply Kd.R_drewN | apply Kd.R_drew)); exact HL146_1.out) hb)
           replace HR146_1 := Aside0.mk (Kd.C_below (by repeat (first | (with_reducible exact HR146_1.out) | (with_reducible refine Kd.C_alloc ?_ _) | (with_reducible refine Kd.C_drewN ?_ _) | (with_reducible refine Kd.C_drew ?_) | exact HR146_1.out)) hb)
           have HS8_ := (hb.cell (World.block_lt_of_cell? _ _ (hHeld.2.2.2.2.2.2.2.2.1))).trans (hHeld.2.2.2.2.2.2.2.2.1)
           have HS9_ := (hb.cell (World.block_lt_of_cell? _ _ (hHeld.2.2.2.2.2.2.2.2.2.1))).trans (hHeld.2.2.2.2.2.2.2.2.2.1)
           have HS10_ := (hb.cell (World.block_lt_of_cell? _ _ (hHeld.2.2.2.2.2.2.2.2.2.2.1))).trans (hHeld.2.2.2.2.2.2.2.2.2.2.1)
           have HS11_ := (hb.cell (World.block_lt_of_cell? _ _ (hHeld.2.2.2.2.2.2.2.2.2.2.2.1))).trans (hHeld.2.2.2.2.2.2.2.2.2.2.2.1)
           have HS12_ := (hb.cell (World.block_lt_of_cell? _ _ (hHeld.2.2.2.2.2.2.2.2.2.2.2.2.1))).trans (hHeld.2.2.2.2.2.2.2.2.2.2.2.2.1)
           have HS13_ := (hb.cell (World.block_lt_of_cell? _ _ (hHeld.2.2.2.2.2.2.2.2.2.2.2.2.2.1))).trans (hHeld.2.2.2.2.2.2.2.2.2.2.2.2.2.1)
           have HS14_ := (hb.cell (World.block_lt_of_cell? _ _ (hHeld.2.2.2.2.2.2.2.2.2.2.2.2.2.2.1))).trans (hHeld.2.2.2.2.2.2.2.2.2.2.2.2.2.2.1)
           have HS15_ := (hb.cell (World.block_lt_of_cell? _ _ (hHeld.2.2.2.2.2.2.2.2.2.2.2.2.2.2.2.1))).trans (hHeld.2.2.2.2.2.2.2.2.2.2.2.2.2.2.2.1)
           have HS16_ := (hb.cell (World.block_lt_of_cell? _ _ (hHeld.2.2.2.2.2.2.2.2.2.2.2.2.2.2.2.2.1))).trans (hHeld.2.2.2.2.2.2.2.2.2.2.2.2.2.2.2.2.1)
           have HS17_ := (hb.cell (World.block_lt_of_cell? _ _ (hHeld.2.2.2.2.2.2.2.2.2.2.2.2.2.2.2.2.2.1))).trans (hHeld.2.2.2.2.2.2.2.2.2.2.2.2.2.2.2.2.2.1)
           have HS18_ := (hb.cell (World.block_lt_of_cell? _ _ (hHeld.2.2.2.2.2.2.2.2.2.2.2.2.2.2.2.2.2.2.1))).trans (hHeld.2.2.2.2.2.2.2.2.2.2.2.2.2.2.2.2.2.2.1)
           have HS19_ := (hb.cell (World.block_lt_of_cell? _ _ (hHeld.2.2.2.2.2.2.2.2.2.2.2.2.2.2.2.2.2.2.2.1))).trans (hHeld.2.2.2.2.2.2.2.2.2.2.2.2.2.2.2.2.2.2.2.1)
           have HS20_ := (hb.cell (World.block_lt_of_cell? _ _ (hHeld.2.2.2.2.2.2.2.2.2.2.2.2.2.2.2.2.2.2.2.2.1))).trans (hHeld.2.2.2.2.2.2.2.2.2.2.2.2.2.2.2.2.2.2.2.2.1)
           have HS21_ := (hb.cell (World.block_lt_of_cell? _ _ (hHeld.2.2.2.2.2.2.2.2.2.2.2.2.2.2.2.2.2.2.2.2.2.1))).trans (hHeld.2.2.2.2.2.2.2.2.2.2.2.2.2.2.2.2.2.2.2.2.2.1)
           have HS22_ := (hb.cell (World.block_lt_of_cell? _ _ (hHeld.2.2.2.2.2.2.2.2.2.2.2.2.2.2.2.2.2.2.2.2.2.2.1))).trans (hHeld.2.2.2.2.2.2.2.2.2.2.2.2.2.2.2.2.2.2.2.2.2.2.1)
           have HS23_ := (hb.cell (World.block_lt_of_cell? _ _ (hHeld.2.2.2.2.2.2.2.2.2.2.2.2.2.2.2.2.2.2.2.2.2.2.2.1))).trans (hHeld.2.2.2.2.2.2.2.2.2.2.2.2.2.2.2.2.2.2.2.2.2.2.2.1)
           have HS24_ := (hb.cell (World.block_lt_of_cell? _ _ (hHeld.2.2.2.2.2.2.2.2.2.2.2.2.2.2.2.2.2.2.2.2.2.2.2.2.1))).trans (hHeld.2.2.2.2.2.2.2.2.2.2.2.2.2.2.2.2.2.2.2.2.2.2.2.2.1)
           have HS25_ := (hb.cell (World.block_lt_of_cell? _ _ (hHeld.2.2.2.2.2.2.2.2.2.2.2.2.2.2.2.2.2.2.2.2.2.2.2.2.2.1))).trans (hHeld.2.2.2.2.2.2.2.2.2.2.2.2.2.2.2.2.2.2.2.2.2.2.2.2.2.1)
           have HS26_ := (hb.cell (World.block_lt_of_cell? _ _ (hHeld.2.2.2.2.2.2.2.2.2.2.2.2.2.2.2.2.2.2.2.2.2.2.2.2.2.2.1))).trans (hHeld.2.2.2.2.2.2.2.2.2.2.2.2.2.2.2.2.2.2.2.2.2.2.2.2.2.2.1)
           have HS27_ := (hb.cell (World.block_lt_of_cell? _ _ (hHeld.2.2.2.2.2.2.2.2.2.2.2.2.2.2.2.2.2.2.2.2.2.2.2.2.2.2.2.1))).trans (hHeld.2.2.2.2.2.2.2.2.2.2.2.2.2.2.2.2.2.2.2.2.2.2.2.2.2.2.2.1)
           have HS28_ := (hb.cell (World.block_lt_of_cell? _ _ (hHeld.2.2.2.2.2.2.2.2.2.2.2.2.2.2.2.2.2.2.2.2.2.2.2.2.2.2.2.2.1))).trans (hHeld.2.2.2.2.2.2.2.2.2.2.2.2.2.2.2.2.2.2.2.2.2.2.2.2.2.2.2.2.1)
           have HS29_ := (hb.cell (World.block_lt_of_cell? _ _ (hHeld.2.2.2.2.2.2.2.2.2.2.2.2.2.2.2.2.2.2.2.2.2.2.2.2.2.2.2.2.2.1))).trans (hHeld.2.2.2.2.2.2.2.2.2.2.2.2.2.2.2.2.2.2.2.2.2.2.2.2.2.2.2.2.2.1)
           have HS30_ := (hb.cell (World.block_lt_of_cell? _ _ (hHeld.2.2.2.2.2.2.2.2.2.2.2.2.2.2.2.2.2.2.2.2.2.2.2.2.2.2.2.2.2.2.1))).trans (hHeld.2.2.2.2.2.2.2.2.2.2.2.2.2.2.2.2.2.2.2.2.2.2.2.2.2.2.2.2.2.2.1)
           have HS31_ := (hb.cell (World.block_lt_of_cell? _ _ (hHeld.2.2.2.2.2.2.2.2.2.2.2.2.2.2.2.2.2.2.2.2.2.2.2.2.2.2.2.2.2.2.2.1))).trans (hHeld.2.2.2.2.2.2.2.2.2.2.2.2.2.2.2.2.2.2.2.2.2.2.2.2.2.2.2.2.2.2.2.1)
           have HS32_ := (hb.cell (World.block_lt_of_cell? _ _ (hHeld.2.2.2.2.2.2.2.2.2.2.2.2.2.2.2.2.2.2.2.2.2.2.2.2.2.2.2.2.2.2.2.2.1))).trans (hHeld.2.2.2.2.2.2.2.2.2.2.2.2.2.2.2.2.2.2.2.2.2.2.2.2.2.2.2.2.2.2.2.2.1)
           have HS33_ := (hb.cell (World.block_lt_of_cell? _ _ (hHeld.2.2.2.2.2.2.2.2.2.2.2.2.2.2.2.2.2.2.2.2.2.2.2.2.2.2.2.2.2.2.2.2.2.1))).trans (hHeld.2.2.2.2.2.2.2.2.2.2.2.2.2.2.2.2.2.2.2.2.2.2.2.2.2.2.2.2.2.2.2.2.2.1)
           have HS34_ := (hb.cell (World.block_lt_of_cell? _ _ (hHeld.2.2.2.2.2.2.2.2.2.2.2.2.2.2.2.2.2.2.2.2.2.2.2.2.2.2.2.2.2.2.2.2.2.2.1))).trans (hHeld.2.2.2.2.2.2.2.2.2.2.2.2.2.2.2.2.2.2.2.2.2.2.2.2.2.2.2.2.2.2.2.2.2.2.1)
           have HS35_ := (hb.cell (World.block_lt_of_cell? _ _ (hHeld.2.2.2.2.2.2.2.2.2.2.2.2.2.2.2.2.2.2.2.2.2.2.2.2.2.2.2.2.2.2.2.2.2.2.2.1))).trans (hHeld.2.2.2.2.2.2.2.2.2.2.2.2.2.2.2.2.2.2.2.2.2.2.2.2.2.2.2.2.2.2.2.2.2.2.2.1)
           have HS36_ := (hb.cell (World.block_lt_of_cell? _ _ (hHeld.2.2.2.2.2.2.2.2.2.2.2.2.2.2.2.2.2.2.2.2.2.2.2.2.2.2.2.2.2.2.2.2.2.2.2.2.1))).trans (hHeld.2.2.2.2.2.2.2.2.2.2.2.2.2.2.2.2.2.2.2.2.2.2.2.2.2.2.2.2.2.2.2.2.2.2.2.2.1)
           have HS37_ := (hb.cell (World.block_lt_of_cell? _ _ (hHeld.2.2.2.2.2.2.2.2.2.2.2.2.2.2.2.2.2.2.2.2.2.2.2.2.2.2.2.2.2.2.2.2.2.2.2.2.2.1))).trans (hHeld.2.2.2.2.2.2.2.2.2.2.2.2.2.2.2.2.2.2.2.2.2.2.2.2.2.2.2.2.2.2.2.2.2.2.2.2.2.1)
           have HS38_ := (hb.cell (World.block_lt_of_cell? _ _ (hHeld.2.2.2.2.2.2.2.2.2.2.2.2.2.2.2.2.2.2.2.2.2.2.2.2.2.2.2.2.2.2.2.2.2.2.2.2.2.2.1))).trans (hHeld.2.2.2.2.2.2.2.2.2.2.2.2.2.2.2.2.2.2.2.2.2.2.2.2.2.2.2.2.2.2.2.2.2.2.2.2.2.2.1)
           have HS39_ := (hb.cell (World.block_lt_of_cell? _ _ (hHeld.2.2.2.2.2.2.2.2.2.2.2.2.2.2.2.2.2.2.2.2.2.2.2.2.2.2.2.2.2.2.2.2.2.2.2.2.2.2.2.1))).trans (hHeld.2.2.2.2.2.2.2.2.2.2.2.2.2.2.2.2.2.2.2.2.2.2.2.2.2.2.2.2.2.2.2.2.2.2.2.2.2.2.2.1)
           have HS40_ := (hb.cell (World.block_lt_of_cell? _ _ (hHeld.2.2.2.2.2.2.2.2.2.2.2.2.2.2.2.2.2.2.2.2.2.2.2.2.2.2.2.2.2.2.2.2.2.2.2.2.2.2.2.2.1))).trans (hHeld.2.2.2.2.2.2.2.2.2.2.2.2.2.2.2.2.2.2.2.2.2.2.2.2.2.2.2.2.2.2.2.2.2.2.2.2.2.2.2.2.1)
           have HS41_ := (hb.cell (World.block_lt_of_cell? _ _ (hHeld.2.2.2.2.2.2.2.2.2.2.2.2.2.2.2.2.2.2.2.2.2.2.2.2.2.2.2.2.2.2.2.2.2.2.2.2.2.2.2.2.2.1))).trans (hHeld.2.2.2.2.2.2.2.2.2.2.2.2.2.2.2.2.2.2.2.2.2.2.2.2.2.2.2.2.2.2.2.2.2.2.2.2.2.2.2.2.2.1)
           have HS42_ := (hb.cell (World.block_lt_of_cell? _ _ (hHeld.2.2.2.2.2.2.2.2.2.2.2.2.2.2.2.2.2.2.2.2.2.2.2.2.2.2.2.2.2.2.2.2.2.2.2.2.2.2.2.2.2.2.1))).trans (hHeld.2.2.2.2.2.2.2.2.2.2.2.2.2.2.2.2.2.2.2.2.2.2.2.2.2.2.2.2.2.2.2.2.2.2.2.2.2.2.2.2.2.2.1)
           have HS43_ := (hb.cell (World.block_lt_of_cell? _ _ (hHeld.2.2.2.2.2.2.2.2.2.2.2.2.2.2.2.2.2.2.2.2.2.2.2.2.2.2.2.2.2.2.2.2.2.2.2.2.2.2.2.2.2.2.2.1))).trans (hHeld.2.2.2.2.2.2.2.2.2.2.2.2.2.2.2.2.2.2.2.2.2.2.2.2.2.2.2.2.2.2.2.2.2.2.2.2.2.2.2.2.2.2.2.1)
           have HS44_ := (hb.cell (World.block_lt_of_cell? _ _ (hHeld.2.2.2.2.2.2.2.2.2.2.2.2.2.2.2.2.2.2.2.2.2.2.2.2.2.2.2.2.2.2.2.2.2.2.2.2.2.2.2.2.2.2.2.2.1))).trans (hHeld.2.2.2.2.2.2.2.2.2.2.2.2.2.2.2.2.2.2.2.2.2.2.2.2.2.2.2.2.2.2.2.2.2.2.2.2.2.2.2.2.2.2.2.2.1)
           have HS45_ := (hb.cell (World.block_lt_of_cell? _ _ (hHeld.2.2.2.2.2.2.2.2.2.2.2.2.2.2.2.2.2.2.2.2.2.2.2.2.2.2.2.2.2.2.2.2.2.2.2.2.2.2.2.2.2.2.2.2.2.1))).trans (hHeld.2.2.2.2.2.2.2.2.2.2.2.2.2.2.2.2.2.2.2.2.2.2.2.2.2.2.2.2.2.2.2.2.2.2.2.2.2.2.2.2.2.2.2.2.2.1)
           have HS46_ := (hb.cell (World.block_lt_of_cell? _ _ (hHeld.2.2.2.2.2.2.2.2.2.2.2.2.2.2.2.2.2.2.2.2.2.2.2.2.2.2.2.2.2.2.2.2.2.2.2.2.2.2.2.2.2.2.2.2.2.2.1))).trans (hHeld.2.2.2.2.2.2.2.2.2.2.2.2.2.2.2.2.2.2.2.2.2.2.2.2.2.2.2.2.2.2.2.2.2.2.2.2.2.2.2.2.2.2.2.2.2.2.1)
           have HS47_ := (hb.cell (World.block_lt_of_cell? _ _ (hHeld.2.2.2.2.2.2.2.2.2.2.2.2.2.2.2.2.2.2.2.2.2.2.2.2.2.2.2.2.2.2.2.2.2.2.2.2.2.2.2.2.2.2.2.2.2.2.2))).trans (hHeld.2.2.2.2.2.2.2.2.2.2.2.2.2.2.2.2.2.2.2.2.2.2.2.2.2.2.2.2.2.2.2.2.2.2.2.2.2.2.2.2.2.2.2.2.2.2.2)
           refine ⟨_, rfl, ?_⟩
           have n0_ := Aside0.mk (Kd.R_below (by (with_reducible repeat (first | apply Kd.R_alloc | apply Kd.R_drewN | apply Kd.R_drew)); exact HO125.out) hb)
           have n1_ := Aside0.mk (Kd.R_below (by (with_reducible repeat (first | apply Kd.R_alloc | apply Kd.R_drewN | apply Kd.R_drew)); exact HO130.out) hb)
           have n2_ := Aside0.mk (Kd.S_below (by (with_reducible repeat (first | apply Kd.S_alloc | apply Kd.S_drewN | apply Kd.S_drew)); exact HO133.out) hb)
           have n3_ := Aside0.mk (Kd.R_below (by (with_reducible repeat (first | apply Kd.R_alloc | apply Kd.R_drewN | apply Kd.R_drew)); exact HO136.out) hb)
           have n4_ := Aside0.mk (Kd.R_below (by (with_reducible repeat (first | apply Kd.R_alloc | apply Kd.R_drewN | apply Kd.R_drew)); exact HL138_1.out) hb)
           have n5_ := Aside0.mk (Kd.R_below (by (with_reducible repeat (first | apply Kd.R_alloc | apply Kd.R_drewN | apply Kd.R_drew)); exact HL140_1.out) hb)
           have n6_ := Aside0.mk (Kd.R_below (by (with_reducible repeat (first | apply Kd.R_alloc | apply Kd.R_drewN | apply Kd.R_drew)); exact HL142_1.out) hb)
           have n7_ := Aside0.mk (Kd.R_below (by (with_reducible repeat (first | apply Kd.R_alloc | apply Kd.R_drewN | apply Kd.R_drew)); exact HL144_1.out) hb)
           have n8_ := Aside0.mk (blk_below (g := gb126) (o := .cells #[.slice Ao23 y123.length co23, .bool false, .string (⟨#[]⟩ : ByteArray), .string (⟨#[]⟩ : ByteArray)] 25 (0, 0)) (by (with_reducible repeat (first | refine blk_drewN ?_ _ | refine blk_drew ?_ | refine blk_alloc ?_ _)); exact BK126.out) hb)
           have n9_ := Aside0.mk (blk_below (g := gb137) (o := .cells #[.slice Ao34 y134.length co34, .bool false, .string (⟨#[]⟩ : ByteArray), .string (⟨#[]⟩ : ByteArray)] 25 (0, 0)) (by (with_reducible repeat (first | refine blk_drewN ?_ _ | refine blk_drew ?_ | refine blk_alloc ?_ _)); exact BK137.out) hb)
           have n10_ := Aside0.mk (Kd.C_below (by repeat (first | (with_reducible exact HR138_1.out) | (with_reducible refine Kd.C_alloc ?_ _) | (with_reducible refine Kd.C_drewN ?_ _) | (with_reducible refine Kd.C_drew ?_) | exact HR138_1.out)) hb)
           have n11_ := Aside0.mk (Kd.C_below (by repeat (first | (with_reducible exact HR140_1.out) | (with_reducible refine Kd.C_alloc ?_ _) | (with_reducible refine Kd.C_drewN ?_ _) | (with_reducible refine Kd.C_drew ?_) | exact HR140_1.out)) hb)
           have n12_ := Aside0.mk (Kd.C_below (by repeat (first | (with_reducible exact HR142_1.out) | (with_reducible refine Kd.C_alloc ?_ _) | (with_reducible refine Kd.C_drewN ?_ _) | (with_reducible refine Kd.C_drew ?_) | exact HR142_1.out)) hb)
           have n13_ := Aside0.mk (Kd.C_below (by repeat (first | (with_reducible exact HR144_1.out) | (with_reducible refine Kd.C_alloc ?_ _) | (with_reducible refine Kd.C_drewN ?_ _) | (with_reducible refine Kd.C_drew ?_) | exact HR144_1.out)) hb)
           have n14_ := Aside0.mk (below_step (by repeat (first | (with_reducible first | exact HB.out | apply below_alloc | apply pw_below_drewN | apply below_drew1 | refine below_set ?_ GE126.out | refine below_set ?_ GE137.out) | exact HB.out)) hb)
           clear HO125
           clear HO130
           clear HO133
           clear HO136
           clear HL138_1
           clear HL140_1
           clear HL142_1
           clear HL144_1
           clear BK126
           clear BK137
           clear HR138_1
           clear HR140_1
           clear HR142_1
           clear HR144_1
           clear HB
           have HO125 := n0_
           have HO130 := n1_
           have HO133 := n2_
           have HO136 := n3_
           have HL138_1 := n4_
           have HL140_1 := n5_
           have HL142_1 := n6_
           have HL144_1 := n7_
           have BK126 := n8_
           have BK137 := n9_
           have HR138_1 := n10_
           have HR140_1 := n11_
           have HR142_1 := n12_
           have HR144_1 := n13_
           have HB := n14_
           clear n0_ n1_ n2_ n3_ n4_ n5_ n6_ n7_ n8_ n9_ n10_ n11_ n12_ n13_ n14_
           (try clear hb)
           (try clear hb2)
           (try clear hk)
           (try clear hi)
           refine hK.out _ _ ⟨(blk_cell BK126.out 0).trans rfl, (blk_cell BK126.out 1).trans rfl, (blk_cell BK126.out 2).trans rfl, (blk_cell BK126.out 3).trans rfl, (blk_cell BK137.out 0).trans rfl, (blk_cell BK137.out 1).trans rfl, (blk_cell BK137.out 2).trans rfl, (blk_cell BK137.out 3).trans rfl, HS8_, HS9_, HS10_, HS11_, HS12_, HS13_, HS14_, HS15_, HS16_, HS17_, HS18_, HS19_, HS20_, HS21_, HS22_, HS23_, HS24_, HS25_, HS26_, HS27_, HS28_, HS29_, HS30_, HS31_, HS32_, HS33_, HS34_, HS35_, HS36_, HS37_, HS38_, HS39_, HS40_, HS41_, HS42_, HS43_, HS44_, HS45_, HS46_, HS47_⟩ (fun hHeld => ?_)
           clear hK K
           refine norm_ (a' := ?_) ?_ ?_
           rotate_left
           ·show Act.put _ (some 68) _ = _
            simp only [Act.put, List.setIfInBounds_toArray, List.set_cons_zero, List.set_cons_succ, i64_w, i32_w]
            rfl
           refine pure_ (i := 25) (N := some 69) (v := ?_) (a' := ?_) #[true, true, true, true, true, true, true, true, true, true, true, true, true, true, true, true, true, true, true, true, true, true, true, true, true, true, false, false, false, false, false, false, false, false] rfl rfl (any_of HT_.out (by kernel_rfl)) (fun _ _ _ h => h) (Or.inl ⟨by rfl, ?_⟩) ?_ ?_
           rotate_left
           ·intro w'
            go_simp
            with_reducible rfl
           rotate_left
           ·simp only [Act.put, List.setIfInBounds_toArray, List.set_cons_zero, List.set_cons_succ, i64_w, i32_w]
            rfl
           refine pure_ (i := 26) (N := some 70) (v := ?_) (a' := ?_) #[true, true, true, true, true, true, true, true, true, true, true, true, true, true, true, true, true, true, true, true, true, true, true, true, true, true, true, false, false, false, false, false, false, false] rfl rfl (any_of HT_.out (by kernel_rfl)) (fun _ _ _ h => h) (Or.inl ⟨by rfl, ?_⟩) ?_ ?_
           rotate_left
           ·intro w'
            go_simp
            with_reducible rfl
           rotate_left
           ·simp only [Act.put, List.setIfInBounds_toArray, List.set_cons_zero, List.set_cons_succ, i64_w, i32_w]
            rfl
           refine pure_ (i := 28) (N := some 72) (v := ?_) (a' := ?_) #[true, true, true, true, true, true, true, true, true, true, true, true, true, true, true, true, true, true, true, true, true, true, true, true, true, true, true, false, true, false, false, false, false, false] rfl rfl (any_of HT_.out (by kernel_rfl)) (fun _ _ _ h => h) (Or.inl ⟨by rfl, ?_⟩) ?_ ?_
           rotate_left
           ·intro w'
            go_simp
            with_reducible rfl
           rotate_left
           ·simp only [Act.put, List.setIfInBounds_toArray, List.set_cons_zero, List.set_cons_succ, i64_w, i32_w]
            rfl
           refine pure_ (i := 29) (N := some 73) (v := ?_) (a' := ?_) #[true, true, true, true, true, true, true, true, true, true, true, true, true, true, true, true, true, true, true, true, true, true, true, true, true, true, true, false, true, true, false, false, false, false] rfl rfl (any_of HT_.out (by kernel_rfl)) (fun _ _ _ h => h) (Or.inl ⟨by rfl, ?_⟩) ?_ ?_
           rotate_left
           ·intro w'
            go_simp
            with_reducible rfl
           rotate_left
           ·simp only [Act.put, List.setIfInBounds_toArray, List.set_cons_zero, List.set_cons_succ, i64_w, i32_w]
            rfl
           refine take_ (i := 27) (N := some 71) (v := ?_) (a' := ?_) #[true, true, true, true, true, true, true, true, true, true, true, true, true, true, true, true, true, true, true, true, true, true, true, true, true, true, true, true, true, true, false, false, false, false] rfl rfl (take_ofW HT_.out HW_.out (by kernel_rfl)) (fun _ _ _ h => h) (Or.inl ⟨by rfl, ?_⟩) hHeld ?_ ?_
           rotate_left
           ·rintro w' ⟨s0, s1, s2, s3, s4, s5, s6, s7, s8, s9, s10, s11, s12, s13, s14, s15, s16, s17, s18, s19, s20, s21, s22, s23, s24, s25, s26, s27, s28, s29, s30, s31, s32, s33, s34, s35, s36, s37, s38, s39, s40, s41, s42, s43, s44, s45, s46, s47⟩
            go_simp
            with_reducible rfl
           rotate_left
           ·simp only [Act.put, List.setIfInBounds_toArray, List.set_cons_zero, List.set_cons_succ, i64_w, i32_w]
            rfl
           refine take_ (i := 30) (N := some 74) (v := ?_) (a' := ?_) #[true, true, true, true, true, true, true, true, true, true, true, true, true, true, true, true, true, true, true, true, true, true, true, true, true, true, true, true, true, true, true, false, false, false] rfl rfl (take_ofW HT_.out HW_.out (by kernel_rfl)) (fun _ _ _ h => h) (Or.inl ⟨by rfl, ?_⟩) hHeld ?_ ?_
           rotate_left
           ·rintro w' ⟨s0, s1, s2, s3, s4, s5, s6, s7, s8, s9, s10, s11, s12, s13, s14, s15, s16, s17, s18, s19, s20, s21, s22, s23, s24, s25, s26, s27, s28, s29, s30, s31, s32, s33, s34, s35, s36, s37, s38, s39, s40, s41, s42, s43, s44, s45, s46, s47⟩
            go_simp
            with_reducible rfl
           rotate_left
           ·simp only [Act.put, List.setIfInBounds_toArray, List.set_cons_zero, List.set_cons_succ, i64_w, i32_w]
            rfl
           refine one_ (i := 31) (N := some 75) #[true, true, true, true, true, true, true, true, true, true, true, true, true, true, true, true, true, true, true, true, true, true, true, true, true, true, true, true, true, true, true, true, false, false] rfl rfl (one_of HT_.out (by kernel_rfl)) (by decide) (fun K hK => ?_)
           refine goes_ Tryd.func16 (by kernel_rfl) rfl #[.agg #[.slice Ao23 y123.length co23, .bool false, .string (⟨#[]⟩ : ByteArray), .string (⟨#[]⟩ : ByteArray)], .agg #[.bool ((rd_T46 t131 4).f0), .slice A146_1 ((rd_T46 t131 4).f1).length c146_1, .string ((rd_T46 t131 4).f2), .string ((rd_T46 t131 4).f3), .string ((rd_T46 t131 4).f4), .int .u64 ((rd_T46 t131 4).f5), .int .u64 ((rd_T46 t131 4).f6), .int .u64 ((rd_T46 t131 4).f7)]] (by rfl) rfl rfl (by (try simp only [List.map_toArray, List.map_cons, List.map_nil]); first | done | rfl | (simp only [List.length_drop, List.length_take]; rfl)) ?_
           with_reducible refine (spec_SameVer.calls k _ _ y123 false (⟨#[]⟩ : ByteArray) (⟨#[]⟩ : ByteArray) ((rd_T46 t131 4).f0) _ _ ((rd_T46 t131 4).f1) ((rd_T46 t131 4).f2) ((rd_T46 t131 4).f3) ((rd_T46 t131 4).f4) ((rd_T46 t131 4).f5) ((rd_T46 t131 4).f6) ((rd_T46 t131 4).f7) t147 _ ?side1 ?side2 ?side3 ?side4 A20.out).mono ?_
           (case side1 => repeat (first | exact (Kd.R_reads' HO125.out).2.2 | (with_reducible refine Kd.C_alloc ?_ _) | (with_reducible refine Kd.C_drewN ?_ _) | (with_reducible refine Kd.C_drew ?_)))
           (case side2 => exact (Kd.R_reads' HO125.out).2.1)
           (case side3 => repeat (first | exact (by repeat (first | (with_reducible exact HR146_1.out) | (with_reducible refine Kd.C_alloc ?_ _) | (with_reducible refine Kd.C_drewN ?_ _) | (with_reducible refine Kd.C_drew ?_) | exact HR146_1.out)) | (with_reducible refine Kd.C_alloc ?_ _) | (with_reducible refine Kd.C_drewN ?_ _) | (with_reducible refine Kd.C_drew ?_)))
           (case side4 => exact HC146_1.out)
           rintro e w44 ⟨rfl, hb⟩
           have HS8_ := (hb.cell (World.block_lt_of_cell? _ _ (hHeld.2.2.2.2.2.2.2.2.1))).trans (hHeld.2.2.2.2.2.2.2.2.1)
           have HS9_ := (hb.cell (World.block_lt_of_cell? _ _ (hHeld.2.2.2.2.2.2.2.2.2.1))).trans (hHeld.2.2.2.2.2.2.2.2.2.1)
           have HS10_ := (hb.cell (World.block_lt_of_cell? _ _ (hHeld.2.2.2.2.2.2.2.2.2.2.1))).trans (hHeld.2.2.2.2.2.2.2.2.2.2.1)
           have HS11_ := (hb.cell (World.block_lt_of_cell? _ _ (hHeld.2.2.2.2.2.2.2.2.2.2.2.1))).trans (hHeld.2.2.2.2.2.2.2.2.2.2.2.1)
           have HS12_ := (hb.cell (World.block_lt_of_cell? _ _ (hHeld.2.2.2.2.2.2.2.2.2.2.2.2.1))).trans (hHeld.2.2.2.2.2.2.2.2.2.2.2.2.1)
           have HS13_ := (hb.cell (World.block_lt_of_cell? _ _ (hHeld.2.2.2.2.2.2.2.2.2.2.2.2.2.1))).trans (hHeld.2.2.2.2.2.2.2.2.2.2.2.2.2.1)
           have HS14_ := (hb.cell (World.block_lt_of_cell? _ _ (hHeld.2.2.2.2.2.2.2.2.2.2.2.2.2.2.1))).trans (hHeld.2.2.2.2.2.2.2.2.2.2.2.2.2.2.1)
           have HS15_ := (hb.cell (World.block_lt_of_cell? _ _ (hHeld.2.2.2.2.2.2.2.2.2.2.2.2.2.2.2.1))).trans (hHeld.2.2.2.2.2.2.2.2.2.2.2.2.2.2.2.1)
           have HS16_ := (hb.cell (World.block_lt_of_cell? _ _ (hHeld.2.2.2.2.2.2.2.2.2.2.2.2.2.2.2.2.1))).trans (hHeld.2.2.2.2.2.2.2.2.2.2.2.2.2.2.2.2.1)
           have HS17_ := (hb.cell (World.block_lt_of_cell? _ _ (hHeld.2.2.2.2.2.2.2.2.2.2.2.2.2.2.2.2.2.1))).trans (hHeld.2.2.2.2.2.2.2.2.2.2.2.2.2.2.2.2.2.1)
           have HS18_ := (hb.cell (World.block_lt_of_cell? _ _ (hHeld.2.2.2.2.2.2.2.2.2.2.2.2.2.2.2.2.2.2.1))).trans (hHeld.2.2.2.2.2.2.2.2.2.2.2.2.2.2.2.2.2.2.1)
           have HS19_ := (hb.cell (World.block_lt_of_cell? _ _ (hHeld.2.2.2.2.2.2.2.2.2.2.2.2.2.2.2.2.2.2.2.1))).trans (hHeld.2.2.2.2.2.2.2.2.2.2.2.2.2.2.2.2.2.2.2.1)
           have HS20_ := (hb.cell (World.block_lt_of_cell? _ _ (hHeld.2.2.2.2.2.2.2.2.2.2.2.2.2.2.2.2.2.2.2.2.1))).trans (hHeld.2.2.2.2.2.2.2.2.2.2.2.2.2.2.2.2.2.2.2.2.1)
           have HS21_ := (hb.cell (World.block_lt_of_cell? _ _ (hHeld.2.2.2.2.2.2.2.2.2.2.2.2.2.2.2.2.2.2.2.2.2.1))).trans (hHeld.2.2.2.2.2.2.2.2.2.2.2.2.2.2.2.2.2.2.2.2.2.1)
           have HS22_ := (hb.cell (World.block_lt_of_cell? _ _ (hHeld.2.2.2.2.2.2.2.2.2.2.2.2.2.2.2.2.2.2.2.2.2.2.1))).trans (hHeld.2.2.2.2.2.2.2.2.2.2.2.2.2.2.2.2.2.2.2.2.2.2.1)
           have HS23_ := (hb.cell (World.block_lt_of_cell? _ _ (hHeld.2.2.2.2.2.2.2.2.2.2.2.2.2.2.2.2.2.2.2.2.2.2.2.1))).trans (hHeld.2.2.2.2.2.2.2.2.2.2.2.2.2.2.2.2.2.2.2.2.2.2.2.1)
           have HS24_ := (hb.cell (World.block_lt_of_cell? _ _ (hHeld.2.2.2.2.2.2.2.2.2.2.2.2.2.2.2.2.2.2.2.2.2.2.2.2.1))).trans (hHeld.2.2.2.2.2.2.2.2.2.2.2.2.2.2.2.2.2.2.2.2.2.2.2.2.1)
           have HS25_ := (hb.cell (World.block_lt_of_cell? _ _ (hHeld.2.2.2.2.2.2.2.2.2.2.2.2.2.2.2.2.2.2.2.2.2.2.2.2.2.1))).trans (hHeld.2.2.2.2.2.2.2.2.2.2.2.2.2.2.2.2.2.2.2.2.2.2.2.2.2.1)
           have HS26_ := (hb.cell (World.block_lt_of_cell? _ _ (hHeld.2.2.2.2.2.2.2.2.2.2.2.2.2.2.2.2.2.2.2.2.2.2.2.2.2.2.1))).trans (hHeld.2.2.2.2.2.2.2.2.2.2.2.2.2.2.2.2.2.2.2.2.2.2.2.2.2.2.1)
           have HS27_ := (hb.cell (World.block_lt_of_cell? _ _ (hHeld.2.2.2.2.2.2.2.2.2.2.2.2.2.2.2.2.2.2.2.2.2.2.2.2.2.2.2.1))).trans (hHeld.2.2.2.2.2.2.2.2.2.2.2.2.2.2.2.2.2.2.2.2.2.2.2.2.2.2.2.1)
           have HS28_ := (hb.cell (World.block_lt_of_cell? _ _ (hHeld.2.2.2.2.2.2.2.2.2.2.2.2.2.2.2.2.2.2.2.2.2.2.2.2.2.2.2.2.1))).trans (hHeld.2.2.2.2.2.2.2.2.2.2.2.2.2.2.2.2.2.2.2.2.2.2.2.2.2.2.2.2.1)
           have HS29_ := (hb.cell (World.block_lt_of_cell? _ _ (hHeld.2.2.2.2.2.2.2.2.2.2.2.2.2.2.2.2.2.2.2.2.2.2.2.2.2.2.2.2.2.1))).trans (hHeld.2.2.2.2.2.2.2.2.2.2.2.2.2.2.2.2.2.2.2.2.2.2.2.2.2.2.2.2.2.1)
           have HS30_ := (hb.cell (World.block_lt_of_cell? _ _ (hHeld.2.2.2.2.2.2.2.2.2.2.2.2.2.2.2.2.2.2.2.2.2.2.2.2.2.2.2.2.2.2.1))).trans (hHeld.2.2.2.2.2.2.2.2.2.2.2.2.2.2.2.2.2.2.2.2.2.2.2.2.2.2.2.2.2.2.1)
           have HS31_ := (hb.cell (World.block_lt_of_cell? _ _ (hHeld.2.2.2.2.2.2.2.2.2.2.2.2.2.2.2.2.2.2.2.2.2.2.2.2.2.2.2.2.2.2.2.1))).trans (hHeld.2.2.2.2.2.2.2.2.2.2.2.2.2.2.2.2.2.2.2.2.2.2.2.2.2.2.2.2.2.2.2.1)
           have HS32_ := (hb.cell (World.block_lt_of_cell? _ _ (hHeld.2.2.2.2.2.2.2.2.2.2.2.2.2.2.2.2.2.2.2.2.2.2.2.2.2.2.2.2.2.2.2.2.1))).trans (hHeld.2.2.2.2.2.2.2.2.2.2.2.2.2.2.2.2.2.2.2.2.2.2.2.2.2.2.2.2.2.2.2.2.1)
           have HS33_ := (hb.cell (World.block_lt_of_cell? _ _ (hHeld.2.2.2.2.2.2.2.2.2.2.2.2.2.2.2.2.2.2.2.2.2.2.2.2.2.2.2.2.2.2.2.2.2.1))).trans (hHeld.2.2.2.2.2.2.2.2.2.2.2.2.2.2.2.2.2.2.2.2.2.2.2.2.2.2.2.2.2.2.2.2.2.1)
           have HS34_ := (hb.cell (World.block_lt_of_cell? _ _ (hHeld.2.2.2.2.2.2.2.2.2.2.2.2.2.2.2.2.2.2.2.2.2.2.2.2.2.2.2.2.2.2.2.2.2.2.1))).trans (hHeld.2.2.2.2.2.2.2.2.2.2.2.2.2.2.2.2.2.2.2.2.2.2.2.2.2.2.2.2.2.2.2.2.2.2.1)
           have HS35_ := (hb.cell (World.block_lt_of_cell? _ _ (hHeld.2.2.2.2.2.2.2.2.2.2.2.2.2.2.2.2.2.2.2.2.2.2.2.2.2.2.2.2.2.2.2.2.2.2.2.1))).trans (hHeld.2.2.2.2.2.2.2.2.2.2.2.2.2.2.2.2.2.2.2.2.2.2.2.2.2.2.2.2.2.2.2.2.2.2.2.1)
           have HS36_ := (hb.cell (World.block_lt_of_cell? _ _ (hHeld.2.2.2.2.2.2.2.2.2.2.2.2.2.2.2.2.2.2.2.2.2.2.2.2.2.2.2.2.2.2.2.2.2.2.2.2.1))).trans (hHeld.2.2.2.2.2.2.2.2.2.2.2.2.2.2.2.2.2.2.2.2.2.2.2.2.2.2.2.2.2.2.2.2.2.2.2.2.1)
           have HS37_ := (hb.cell (World.block_lt_of_cell? _ _ (hHeld.2.2.2.2.2.2.2.2.2.2.2.2.2.2.2.2.2.2.2.2.2.2.2.2.2.2.2.2.2.2.2.2.2.2.2.2.2.1))).trans (hHeld.2.2.2.2.2.2.2.2.2.2.2.2.2.2.2.2.2.2.2.2.2.2.2.2.2.2.2.2.2.2.2.2.2.2.2.2.2.1)
           have HS38_ := (hb.cell (World.block_lt_of_cell? _ _ (hHeld.2.2.2.2.2.2.2.2.2.2.2.2.2.2.2.2.2.2.2.2.2.2.2.2.2.2.2.2.2.2.2.2.2.2.2.2.2.2.1))).trans (hHeld.2.2.2.2.2.2.2.2.2.2.2.2.2.2.2.2.2.2.2.2.2.2.2.2.2.2.2.2.2.2.2.2.2.2.2.2.2.2.1)
           have HS39_ := (hb.cell (World.block_lt_of_cell? _ _ (hHeld.2.2.2.2.2.2.2.2.2.2.2.2.2.2.2.2.2.2.2.2.2.2.2.2.2.2.2.2.2.2.2.2.2.2.2.2.2.2.2.1))).trans (hHeld.2.2.2.2.2.2.2.2.2.2.2.2.2.2.2.2.2.2.2.2.2.2.2.2.2.2.2.2.2.2.2.2.2.2.2.2.2.2.2.1)
           have HS40_ := (hb.cell (World.block_lt_of_cell? _ _ (hHeld.2.2.2.2.2.2.2.2.2.2.2.2.2.2.2.2.2.2.2.2.2.2.2.2.2.2.2.2.2.2.2.2.2.2.2.2.2.2.2.2.1))).trans (hHeld.2.2.2.2.2.2.2.2.2.2.2.2.2.2.2.2.2.2.2.2.2.2.2.2.2.2.2.2.2.2.2.2.2.2.2.2.2.2.2.2.1)
           have HS41_ := (hb.cell (World.block_lt_of_cell? _ _ (hHeld.2.2.2.2.2.2.2.2.2.2.2.2.2.2.2.2.2.2.2.2.2.2.2.2.2.2.2.2.2.2.2.2.2.2.2.2.2.2.2.2.2.1))).trans (hHeld.2.2.2.2.2.2.2.2.2.2.2.2.2.2.2.2.2.2.2.2.2.2.2.2.2.2.2.2.2.2.2.2.2.2.2.2.2.2.2.2.2.1)
           have HS42_ := (hb.cell (World.block_lt_of_cell? _ _ (hHeld.2.2.2.2.2.2.2.2.2.2.2.2.2.2.2.2.2.2.2.2.2.2.2.2.2.2.2.2.2.2.2.2.2.2.2.2.2.2.2.2.2.2.1))).trans (hHeld.2.2.2.2.2.2.2.2.2.2.2.2.2.2.2.2.2.2.2.2.2.2.2.2.2.2.2.2.2.2.2.2.2.2.2.2.2.2.2.2.2.2.1)
           have HS43_ := (hb.cell (World.block_lt_of_cell? _ _ (hHeld.2.2.2.2.2.2.2.2.2.2.2.2.2.2.2.2.2.2.2.2.2.2.2.2.2.2.2.2.2.2.2.2.2.2.2.2.2.2.2.2.2.2.2.1))).trans (hHeld.2.2.2.2.2.2.2.2.2.2.2.2.2.2.2.2.2.2.2.2.2.2.2.2.2.2.2.2.2.2.2.2.2.2.2.2.2.2.2.2.2.2.2.1)
           have HS44_ := (hb.cell (World.block_lt_of_cell? _ _ (hHeld.2.2.2.2.2.2.2.2.2.2.2.2.2.2.2.2.2.2.2.2.2.2.2.2.2.2.2.2.2.2.2.2.2.2.2.2.2.2.2.2.2.2.2.2.1))).trans (hHeld.2.2.2.2.2.2.2.2.2.2.2.2.2.2.2.2.2.2.2.2.2.2.2.2.2.2.2.2.2.2.2.2.2.2.2.2.2.2.2.2.2.2.2.2.1)
           have HS45_ := (hb.cell (World.block_lt_of_cell? _ _ (hHeld.2.2.2.2.2.2.2.2.2.2.2.2.2.2.2.2.2.2.2.2.2.2.2.2.2.2.2.2.2.2.2.2.2.2.2.2.2.2.2.2.2.2.2.2.2.1))).trans (hHeld.2.2.2.2.2.2.2.2.2.2.2.2.2.2.2.2.2.2.2.2.2.2.2.2.2.2.2.2.2.2.2.2.2.2.2.2.2.2.2.2.2.2.2.2.2.1)
           have HS46_ := (hb.cell (World.block_lt_of_cell? _ _ (hHeld.2.2.2.2.2.2.2.2.2.2.2.2.2.2.2.2.2.2.2.2.2.2.2.2.2.2.2.2.2.2.2.2.2.2.2.2.2.2.2.2.2.2.2.2.2.2.1))).trans (hHeld.2.2.2.2.2.2.2.2.2.2.2.2.2.2.2.2.2.2.2.2.2.2.2.2.2.2.2.2.2.2.2.2.2.2.2.2.2.2.2.2.2.2.2.2.2.2.1)
           have HS47_ := (hb.cell (World.block_lt_of_cell? _ _ (hHeld.2.2.2.2.2.2.2.2.2.2.2.2.2.2.2.2.2.2.2.2.2.2.2.2.2.2.2.2.2.2.2.2.2.2.2.2.2.2.2.2.2.2.2.2.2.2.2))).trans (hHeld.2.2.2.2.2.2.2.2.2.2.2.2.2.2.2.2.2.2.2.2.2.2.2.2.2.2.2.2.2.2.2.2.2.2.2.2.2.2.2.2.2.2.2.2.2.2.2)
           refine ⟨_, rfl, ?_⟩
           have n0_ := Aside0.mk (Kd.R_below (by (with_reducible repeat (first | apply Kd.R_alloc | apply Kd.R_drewN | apply Kd.R_drew)); exact HO125.out) hb)
           have n1_ := Aside0.mk (Kd.R_below (by (with_reducible repeat (first | apply Kd.R_alloc | apply Kd.R_drewN | apply Kd.R_drew)); exact HO130.out) hb)
           have n2_ := Aside0.mk (Kd.S_below (by (with_reducible repeat (first | apply Kd.S_alloc | apply Kd.S_drewN | apply Kd.S_drew)); exact HO133.out) hb)
           have n3_ := Aside0.mk (Kd.R_below (by (with_reducible repeat (first | apply Kd.R_alloc | apply Kd.R_drewN | apply Kd.R_drew)); exact HO136.out) hb)
           have n4_ := Aside0.mk (Kd.R_below (by (with_reducible repeat (first | apply Kd.R_alloc | apply Kd.R_drewN | apply Kd.R_drew)); exact HL138_1.out) hb)
           have n5_ := Aside0.mk (Kd.R_below (by (with_reducible repeat (first | apply Kd.R_alloc | apply Kd.R_drewN | apply Kd.R_drew)); exact HL140_1.out) hb)
           have n6_ := Aside0.mk (Kd.R_below (by (with_reducible repeat (first | apply Kd.R_alloc | apply Kd.R_drewN | apply Kd.R_drew)); exact HL142_1.out) hb)
           have n7_ := Aside0.mk (Kd.R_below (by (with_reducible repeat (first | apply Kd.R_alloc | apply Kd.R_drewN | apply Kd.R_drew)); exact HL144_1.out) hb)
           have n8_ := Aside0.mk (Kd.R_below (by (with_reducible repeat (first | apply Kd.R_alloc | apply Kd.R_drewN | apply Kd.R_drew)); exact HL146_1.out) hb)
           have n9_ := Aside0.mk (blk_below (g := gb126) (o := .cells #[.slice Ao23 y123.length co23, .bool false, .string (⟨#[]⟩ : ByteArray), .string (⟨#[]⟩ : ByteArray)] 25 (0, 0)) (by (with_reducible repeat (first | refine blk_drewN ?_ _ | refine blk_drew ?_ | refine blk_alloc ?_ _)); exact BK126.out) hb)
           have n10_ := Aside0.mk (blk_below (g := gb137) (o := .cells #[.slice Ao34 y134.length co34, .bool false, .string (⟨#[]⟩ : ByteArray), .string (⟨#[]⟩ : ByteArray)] 25 (0, 0)) (by (with_reducible repeat (first | refine blk_drewN ?_ _ | refine blk_drew ?_ | refine blk_alloc ?_ _)); exact BK137.out) hb)
           have n11_ := Aside0.mk (Kd.C_below (by repeat (first | (with_reducible exact HR138_1.out) | (with_reducible refine Kd.C_alloc ?_ _) | (with_reducible refine Kd.C_drewN ?_ _) | (with_reducible refine Kd.C_drew ?_) | exact HR138_1.out)) hb)
           have n12_ := Aside0.mk (Kd.C_below (by repeat (first | (with_reducible exact HR140_1.out) | (with_reducible refine Kd.C_alloc ?_ _) | (with_reducible refine Kd.C_drewN ?_ _) | (with_reducible refine Kd.C_drew ?_) | exact HR140_1.out)) hb)
           have n13_ := Aside0.mk (Kd.C_below (by repeat (first | (with_reducible exact HR142_1.out) | (with_reducible refine Kd.C_alloc ?_ _) | (with_reducible refine Kd.C_drewN ?_ _) | (with_reducible refine Kd.C_drew ?_) | exact HR142_1.out)) hb)
           have n14_ := Aside0.mk (Kd.C_below (by repeat (first | (with_reducible exact HR144_1.out) | (with_reducible refine Kd.C_alloc ?_ _) | (with_reducible refine Kd.C_drewN ?_ _) | (with_reducible refine Kd.C_drew ?_) | exact HR144_1.out)) hb)
           have n15_ := Aside0.mk (Kd.C_below (by repeat (first | (with_reducible exact HR146_1.out) | (with_reducible refine Kd.C_alloc ?_ _) | (with_reducible refine Kd.C_drewN ?_ _) | (with_reducible refine Kd.C_drew ?_) | exact HR146_1.out)) hb)
           have n16_ := Aside0.mk (below_step (by repeat (first | (with_reducible first | exact HB.out | apply below_alloc | apply pw_below_drewN | apply below_drew1 | refine below_set ?_ GE126.out | refine below_set ?_ GE137.out) | exact HB.out)) hb)
           clear HO125
           clear HO130
           clear HO133
           clear HO136
           clear HL138_1
           clear HL140_1
           clear HL142_1
           clear HL144_1
           clear HL146_1
           clear BK126
           clear BK137
           clear HR138_1
           clear HR140_1
           clear HR142_1
           clear HR144_1
           clear HR146_1
           clear HB
           have HO125 := n0_
           have HO130 := n1_
           have HO133 := n2_
           have HO136 := n3_
           have HL138_1 := n4_
           have HL140_1 := n5_
           have HL142_1 := n6_
           have HL144_1 := n7_
           have HL146_1 := n8_
           have BK126 := n9_
           have BK137 := n10_
           have HR138_1 := n11_
           have HR140_1 := n12_
           have HR142_1 := n13_
           have HR144_1 := n14_
           have HR146_1 := n15_
           have HB := n16_
           clear n0_ n1_ n2_ n3_ n4_ n5_ n6_ n7_ n8_ n9_ n10_ n11_ n12_ n13_ n14_ n15_ n16_
           (try clear hb)
           (try clear hb2)
           (try clear hk)
           (try clear hi)
           refine hK.out _ _ ⟨(blk_cell BK126.out 0).trans rfl, (blk_cell BK126.out 1).trans rfl, (blk_cell BK126.out 2).trans rfl, (blk_cell BK126.out 3).trans rfl, (blk_cell BK137.out 0).trans rfl, (blk_cell BK137.out 1).trans rfl, (blk_cell BK137.out 2).trans rfl, (blk_cell BK137.out 3).trans rfl, HS8_, HS9_, HS10_, HS11_, HS12_, HS13_, HS14_, HS15_, HS16_, HS17_, HS18_, HS19_, HS20_, HS21_, HS22_, HS23_, HS24_, HS25_, HS26_, HS27_, HS28_, HS29_, HS30_, HS31_, HS32_, HS33_, HS34_, HS35_, HS36_, HS37_, HS38_, HS39_, HS40_, HS41_, HS42_, HS43_, HS44_, HS45_, HS46_, HS47_⟩ (fun hHeld => ?_)
           clear hK K
           refine norm_ (a' := ?_) ?_ ?_
           rotate_left
           ·show Act.put _ (some 75) _ = _
            simp only [Act.put, List.setIfInBounds_toArray, List.set_cons_zero, List.set_cons_succ, i64_w, i32_w]
            rfl
           refine pure_ (i := 32) (N := some 76) (v := ?_) (a' := ?_) #[true, true, true, true, true, true, true, true, true, true, true, true, true, true, true, true, true, true, true, true, true, true, true, true, true, true, true, true, true, true, true, true, true, false] rfl rfl (any_of HT_.out (by kernel_rfl)) (fun _ _ _ h => h) (Or.inl ⟨by rfl, ?_⟩) ?_ ?_
           rotate_left
           ·intro w'
            go_simp
            with_reducible rfl
           rotate_left
           ·simp only [Act.put, List.setIfInBounds_toArray, List.set_cons_zero, List.set_cons_succ, i64_w, i32_w]
            rfl
           refine pure_ (i := 33) (N := some 6) (v := ?_) (a' := ?_) #[true, true, true, true, true, true, true, true, true, true, true, true, true, true, true, true, true, true, true, true, true, true, true, true, true, true, true, true, true, true, true, true, true, true] rfl rfl (any_of HT_.out (by kernel_rfl)) (fun _ _ _ h => h) (Or.inl ⟨by rfl, ?_⟩) ?_ ?_
           rotate_left
           ·intro w'
            go_simp
            with_reducible rfl
           rotate_left
           ·simp only [Act.put, List.setIfInBounds_toArray, List.set_cons_zero, List.set_cons_succ, i64_w, i32_w]
            rfl
           refine done_ (done_of HT_.out (by kernel_rfl)) ?_
           try go_wp2
           go_ret
           exact ⟨by first | rfl | (simp [errW_none, errW_some] <;> rfl) | (simp [*, errW_none, errW_some] <;> rfl), by repeat (first | (with_reducible first | exact HB.out | apply below_alloc | apply pw_below_drewN | apply below_drew1 | refine below_set ?_ GE126.out | refine below_set ?_ GE137.out) | exact HB.out)⟩
          ·rw [if_neg c19] at H
           exact absurd H (by simp)
         ·replace c18 := Bool.eq_false_iff.mpr c18
          subst c18
          have H1 : (some false) = some r := by rw [if_neg (show ¬ (false = true) by decide)] at H; exact H
          exact absurd (Option.some.inj H1) (by rw [hrt.out]; decide)
        ·rw [if_neg c16] at H
         exact absurd H (by simp)
       ·replace c15 := Bool.eq_false_iff.mpr c15
        subst c15
        have H1 : (some false) = some r := by rw [if_neg (show ¬ (false = true) by decide)] at H; exact H
        exact absurd (Option.some.inj H1) (by rw [hrt.out]; decide)
      ·rw [if_neg c13] at H
       exact absurd H (by simp)
     ·replace c12 := Bool.eq_false_iff.mpr c12
      subst c12
      have H1 : (some false) = some r := by rw [if_neg (show ¬ (false = true) by decide)] at H; exact H
      exact absurd (Option.some.inj H1) (by rw [hrt.out]; decide)
    ·rw [if_neg c10] at H
     exact absurd H (by simp)
   ·replace c9 := Bool.eq_false_iff.mpr c9
    subst c9
    have H1 : (some false) = some r := by rw [if_neg (show ¬ (false = true) by decide)] at H; exact H
    exact absurd (Option.some.inj H1) (by rw [hrt.out]; decide)
  ·rw [if_neg c7] at H
   exact absurd H (by simp)
 ·rw [if_neg c6] at H
  exact absurd (Option.some.inj H) (by rw [hrt.out]; decide)
end Go.Proofs.YtmfgkidppchobaaDoor.XFnVersionMinors

