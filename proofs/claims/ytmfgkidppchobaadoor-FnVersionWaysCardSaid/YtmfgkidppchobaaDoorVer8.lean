/- Versions: what must come of fixed calls. -/
import Derived.Test.YtmfgkidppchobaaDoorVer7
set_option linter.unusedSimpArgs false
set_option linter.unusedVariables false
namespace Go.Proofs.YtmfgkidppchobaaDoor.Ver8
open Go.RowKit Go.Proofs.YtmfgkidppchobaaDoorW.PrintWords Go.Proofs.YtmfgkidppchobaaDoorW.PrintLast Go.Proofs.YtmfgkidppchobaaDoor.XFnVersionWays Go.Proofs.YtmfgkidppchobaaDoor.Ver1 Go.Proofs.YtmfgkidppchobaaDoor.Ver2 Go.Proofs.YtmfgkidppchobaaDoor.Ver3 Go.Proofs.YtmfgkidppchobaaDoor.Ver4 Go.Proofs.YtmfgkidppchobaaDoor.Ver5 Go.Proofs.YtmfgkidppchobaaDoor.Ver6 Go.Proofs.YtmfgkidppchobaaDoor.Ver7

set_option maxHeartbeats 4000000 in
set_option maxRecDepth 100000 in
theorem order_head (k : Nat) (ka kb : Int) (a b : ByteArray) (l m : List Int) (sv sv' : Bool) (pre pre' bld bld' : ByteArray) (r : Int) (w : World) (h1 : parsedF k ka a = some (some (sv, l, pre, bld))) (h2 : parsedF k kb b = some (some (sv', m, pre', bld'))) (hr : headCmp l m = some r) (hl : l.length ≤ 4294967296) (hm : m.length ≤ 4294967296) (hV : VT.V w) :
    Calls Tryd.prog 13 #[.int .i64 ka, .string a, .int .i64 kb, .string b] w fun e w' => e = .returned (.tuple #[.bool (r != -1), .bool (r == -1), .bool (r == 1), .bool (r == 0), .bool true]) ∧ Below w.heap.size w w' := by
  replace h1 := Aside0.mk h1
  replace h2 := Aside0.mk h2
  replace hr := Aside0.mk hr
  replace hl := Aside0.mk hl
  replace hm := Aside0.mk hm
  replace hV := Aside0.mk hV
  go_enter Tryd.func13, Tryd.ntmps13
  go_wp2_with fail
  refine (parsed_calls k ka a _ _ h1.out hV.out).mono ?_
  rintro e w1 ⟨g, rfl, hI, hU, hB1⟩
  replace hI := Aside0.mk hI
  replace hB1 := Aside0.mk hB1
  unfold Ptr
  go_wp2_with fail
  refine (parsed_calls k kb b _ _ h2.out (hV.out.below hB1.out)).mono ?_
  rintro e w2 ⟨h, rfl, hJ, hU2, hB2⟩
  replace hI := Aside0.mk (hI.out.below hB2)
  replace hJ := Aside0.mk hJ
  replace hB2 := Aside0.mk (below_then hB1.out hB1.out.size hB2)
  unfold Ptr
  go_wp2_with fail
  refine (atLeast_head g h l m sv sv' pre pre' bld bld' _ hI.out hJ.out r hr.out hl.out hm.out).mono ?_
  rintro e wX ⟨rfl, hBX⟩
  replace hI := Aside0.mk (hI.out.below hBX)
  replace hJ := Aside0.mk (hJ.out.below hBX)
  replace hB2 := Aside0.mk (below_then hB2.out hB2.out.size hBX)
  clear hBX
  go_wp2_with fail
  refine (lessThan_head g h l m sv sv' pre pre' bld bld' _ hI.out hJ.out r hr.out hl.out hm.out).mono ?_
  rintro e wX ⟨rfl, hBX⟩
  replace hI := Aside0.mk (hI.out.below hBX)
  replace hJ := Aside0.mk (hJ.out.below hBX)
  replace hB2 := Aside0.mk (below_then hB2.out hB2.out.size hBX)
  clear hBX
  go_wp2_with fail
  refine (greaterThan_head g h l m sv sv' pre pre' bld bld' _ hI.out hJ.out r hr.out hl.out hm.out).mono ?_
  rintro e wX ⟨rfl, hBX⟩
  replace hI := Aside0.mk (hI.out.below hBX)
  replace hJ := Aside0.mk (hJ.out.below hBX)
  replace hB2 := Aside0.mk (below_then hB2.out hB2.out.size hBX)
  clear hBX
  go_wp2_with fail
  refine (equalTo_head g h l m sv sv' pre pre' bld bld' _ hI.out hJ.out r hr.out hl.out hm.out).mono ?_
  rintro e wX ⟨rfl, hBX⟩
  replace hI := Aside0.mk (hI.out.below hBX)
  replace hJ := Aside0.mk (hJ.out.below hBX)
  replace hB2 := Aside0.mk (below_then hB2.out hB2.out.size hBX)
  clear hBX
  go_wp2_with fail
  refine bodyPost_ret (results_list (rs := [.tmp 8, .tmp 9, .tmp 10, .tmp 11, .tmp 12]) rfl (by simp) (.tmp (.tmp (.tmp (.tmp (.tmp .nil)))))) rfl ?_
  exact ⟨rfl, hB2.out⟩

theorem p1 : parsedF 60 2 ⟨#[49, 46, 50, 46, 51]⟩ = some (some (true, [1, 2, 3], E0, E0)) := by kernel_rfl
theorem p2 : parsedF 60 1 ⟨#[49, 46, 51]⟩ = some (some (false, [1, 3], E0, E0)) := by kernel_rfl
theorem p3 : parsedF 60 1 ⟨#[49, 46, 50]⟩ = some (some (false, [1, 2], E0, E0)) := by kernel_rfl
theorem p4 : ∃ n, 0 < n ∧ impl_KubeCompare.f 60 ⟨#[118, 50]⟩ ⟨#[118, 49]⟩ = some n := ⟨1, by decide, by kernel_rfl⟩
set_option maxHeartbeats 4000000 in
set_option maxRecDepth 100000 in
theorem awake_calls (w : World) (hV : VT.V w) : Calls Tryd.prog 18 #[] w fun e w' => e = .returned (.bool true) ∧ Below w.heap.size w w' := by
  replace hV := Aside0.mk hV
  obtain ⟨n, hn, hkn⟩ := p4
  have hn2 := decide_eq_true hn
  replace hkn := Aside0.mk hkn
  go_enter Tryd.func18, Tryd.ntmps18
  go_wp2_with fail
  refine (versionParse 60 2 _ _ _ p1 (by decide) hV.out).mono ?_
  rintro e w1 ⟨v, rfl, hD, hB⟩
  obtain ⟨A, c, e1, hC, hc⟩ := hD.reads
  obtain ⟨t, ht⟩ : ∃ t, t = text [1, 2, 3] E0 E0 := ⟨_, rfl⟩
  have e1 : v = .agg #[.bool true, .slice A 3 c, .string ⟨#[]⟩, .string ⟨#[]⟩, .string t, .int .u64 1, .int .u64 2, .int .u64 3] := by rw [e1, ht]; rfl
  subst e1
  clear ht hD hC hc
  replace hB := Aside0.mk hB
  go_wp2_with fail
  obtain ⟨t, ht⟩ : ∃ t, (tell (some (true, [1, 2, 3], E0, E0))).txt = t := ⟨_, rfl⟩
  rw [ht]
  clear ht
  have hZ := heap_alloc_new w1 (Obj.cells #[.bool true, .slice A 3 c, .string ⟨#[]⟩, .string ⟨#[]⟩, .string t, .int .u64 1, .int .u64 2, .int .u64 3] 46)
  have hB1 : Below w.heap.size w (w1.alloc (Obj.cells #[.bool true, .slice A 3 c, .string ⟨#[]⟩, .string ⟨#[]⟩, .string t, .int .u64 1, .int .u64 2, .int .u64 3] 46)) := below_alloc hB.out _
  refine (order_head 60 1 1 _ _ [1, 3] [1, 2] false false E0 E0 E0 E0 1 _ p2 p3 (by decide) (by decide) (by decide) (hV.out.below hB1)).mono ?_
  rintro e w2 ⟨rfl, hB2⟩
  have hZ2 := (hB2.block _ (blk_lt hZ)).trans hZ
  have z0 : w2.cell? ⟨w1.heap.size, 0, none⟩ = some (.bool true) := (blk_cell hZ2 0).trans rfl
  have z5 : w2.cell? ⟨w1.heap.size, 5, none⟩ = some (.int .u64 1) := (blk_cell hZ2 5).trans rfl
  have z6 : w2.cell? ⟨w1.heap.size, 6, none⟩ = some (.int .u64 2) := (blk_cell hZ2 6).trans rfl
  have hB3 := Aside0.mk (below_then hB1 hB1.size hB2)
  clear hZ2 hZ hB1 hB2
  go_wp2_with fail
  refine (impl_KubeCompare.calls 60 _ _ n _ hkn.out (hV := (hV.out.below hB3.out).1)).mono ?_
  rintro e w3 ⟨rfl, hB4⟩
  go_wp2_with fail
  go_ret
  exact ⟨rfl, below_then hB3.out hB3.out.size hB4⟩
end Go.Proofs.YtmfgkidppchobaaDoor.Ver8
