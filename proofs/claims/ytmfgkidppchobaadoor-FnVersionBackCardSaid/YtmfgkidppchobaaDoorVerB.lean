/- FnVersionBack: the law's function walked. -/
import Derived.Test.YtmfgkidppchobaaDoorVer8
import Derived.Test.YtmfgkidppchobaaDoorVerR
import Derived.Test.YtmfgkidppchobaaDoorVerS
import Derived.Deep.RegionWith
set_option linter.unusedSimpArgs false
set_option linter.unusedVariables false
namespace Go.Proofs.YtmfgkidppchobaaDoor.VerB
open Go.RowKit Go.Proofs.YtmfgkidppchobaaDoorW.PrintWords Go.Proofs.YtmfgkidppchobaaDoorW.PrintLast Go.Proofs.YtmfgkidppchobaaDoor.XFnVersionWays Go.Proofs.YtmfgkidppchobaaDoor.Ver1 Go.Proofs.YtmfgkidppchobaaDoor.Ver2 Go.Proofs.YtmfgkidppchobaaDoor.Ver3 Go.Proofs.YtmfgkidppchobaaDoor.Ver4 Go.Proofs.YtmfgkidppchobaaDoor.Ver5 Go.Proofs.YtmfgkidppchobaaDoor.Ver6 Go.Proofs.YtmfgkidppchobaaDoor.Ver7 Go.Proofs.YtmfgkidppchobaaDoor.Ver8 Go.Proofs.YtmfgkidppchobaaDoor.VerQ Go.Proofs.YtmfgkidppchobaaDoor.VerR Go.Proofs.YtmfgkidppchobaaDoor.VerS
set_option maxHeartbeats 4000000 in
set_option maxRecDepth 100000 in
theorem verKind_calls (k : Int) (hk : -9223372036854775808 ≤ k ∧ k ≤ 9223372036854775807) (w : World) : Calls Tryd.prog 8 #[.int .i64 k] w fun e w' => ∃ n : Int, e = .returned (.int .i64 n) ∧ w' = w := by
  go_enter Tryd.func8, Tryd.ntmps8
  go_wp2_with fail
  go_ret
  exact ⟨_, rfl, rfl⟩
set_option maxHeartbeats 4000000 in
set_option maxRecDepth 100000 in
theorem back_walk (k : Nat) (kind : Int) (hk : -9223372036854775808 ≤ kind ∧ kind ≤ 9223372036854775807) (s : ByteArray) (w : World) (hs : ¬ s.size > 2147483647) (hP : ∀ n : Int, ∃ k r, parsedF k n s = some r ∧ okP r ∧ ((tell r).ok = true → (tell r).l.length ≤ 4294967296 ∧ ∃ k' r', parsedF k' n (tell r).txt = some r' ∧ okP r' ∧ tell r' = tell r)) (hV : VT.V w) :
    Calls Tryd.prog 6 #[.int .i64 kind, .string s] w fun e w' => e = .returned (.bool true) ∧ Below w.heap.size w w' := by
  have cs1 : decide (2147483647 < (s.size : Int)) = false := decide_eq_false (by omega)
  have cs2 : decide (2147483647 < s.size) = false := decide_eq_false (by omega)
  replace hV := Aside0.mk hV
  replace hP := Aside0.mk hP
  clear hs
  go_enter Tryd.func6, Tryd.ntmps6
  go_wp2_with fail
  refine (verKind_calls kind hk _).mono ?_
  rintro e w1 ⟨n, rfl, rfl⟩
  obtain ⟨k1, r, h1, o1, hP⟩ := hP.out n
  replace hP := Aside0.mk hP
  replace h1 := Aside0.mk h1
  replace o1 := Aside0.mk o1
  go_wp2_with fail
  refine (versionParse k1 n s r _ h1.out o1.out hV.out).mono ?_
  rintro e w2 ⟨v, rfl, hD, hB⟩
  obtain ⟨A, c, e2, hC, hc⟩ := hD.reads
  obtain ⟨D, hDe⟩ : ∃ D, D = tell r := ⟨_, rfl⟩
  rw [← hDe] at hP e2 hC hc
  obtain ⟨b, hb⟩ : ∃ b, D.ok = b := ⟨_, rfl⟩
  rw [hb] at hP e2
  subst e2
  replace hb := Aside0.mk hb
  replace hC := Aside0.mk hC
  replace hc := Aside0.mk hc
  replace hB := Aside0.mk hB
  clear hD h1 o1 hDe
  go_upto_region 5 with (fail)
  have f1 := heap_alloc_new w2 (Obj.cells #[.bool b, .slice A D.l.length c, .string D.pre, .string D.bld, .string D.txt, .int .u64 D.a, .int .u64 D.b, .int .u64 D.c] 46)
  have hBW : Below w2.heap.size w2 (w2.alloc (Obj.cells #[.bool b, .slice A D.l.length c, .string D.pre, .string D.bld, .string D.txt, .int .u64 D.a, .int .u64 D.b, .int .u64 D.c] 46)) := below_alloc (Below.refl _ _) _
  obtain ⟨W, hW⟩ : ∃ x, w2.alloc (Obj.cells #[.bool b, .slice A D.l.length c, .string D.pre, .string D.bld, .string D.txt, .int .u64 D.a, .int .u64 D.b, .int .u64 D.c] 46) = x := ⟨_, rfl⟩
  rw [hW] at f1 hBW ⊢
  replace f1 := Aside0.mk f1
  replace hC := Aside0.mk (Kd.C_below hC.out hBW)
  replace hB := Aside0.mk (below_then hB.out hB.out.size hBW)
  clear hW hBW
  cases b with
  | false =>
    have z0 : W.cell? ⟨w2.heap.size, 0, none⟩ = some (.bool false) := (blk_cell f1.out 0).trans rfl
    go_wp2_with fail
    refine (awake_calls _ (hV.out.below hB.out)).mono ?_
    rintro e w6 ⟨rfl, hB6⟩
    go_wp2_with fail
    go_ret
    exact ⟨rfl, below_then hB.out hB.out.size hB6⟩
  | true =>
    obtain ⟨hl, k2, r', h2, o2, ht⟩ := hP.out rfl
    replace h2 := Aside0.mk h2
    replace o2 := Aside0.mk o2
    replace hl := Aside0.mk hl
    have z0 : W.cell? ⟨w2.heap.size, 0, none⟩ = some (.bool true) := (blk_cell f1.out 0).trans rfl
    have z4 : W.cell? ⟨w2.heap.size, 4, none⟩ = some (.string D.txt) := (blk_cell f1.out 4).trans rfl
    go_wp2_with fail
    refine (versionParse k2 n D.txt r' _ h2.out o2.out (hV.out.below hB.out)).mono ?_
    rintro e w3 ⟨v3, rfl, hD3, hB3⟩
    obtain ⟨A3, c3, e3, hC3, hc3⟩ := hD3.reads
    rw [ht] at e3 hC3 hc3
    rw [hb.out] at e3
    subst e3
    replace f1 := Aside0.mk ((hB3.block _ (blk_lt f1.out)).trans f1.out)
    replace hC := Aside0.mk (Kd.C_below hC.out hB3)
    replace hB := Aside0.mk (below_then hB.out hB.out.size hB3)
    replace hC3 := Aside0.mk hC3
    replace hc3 := Aside0.mk hc3
    clear hD3 h2 o2 hB3 z0 z4
    go_upto_region 8 with (fail)
    have f2 := heap_alloc_new w3 (Obj.cells #[.bool true, .slice A3 D.l.length c3, .string D.pre, .string D.bld, .string D.txt, .int .u64 D.a, .int .u64 D.b, .int .u64 D.c] 46)
    have hBW : Below w3.heap.size w3 (w3.alloc (Obj.cells #[.bool true, .slice A3 D.l.length c3, .string D.pre, .string D.bld, .string D.txt, .int .u64 D.a, .int .u64 D.b, .int .u64 D.c] 46)) := below_alloc (Below.refl _ _) _
    replace f1 := (hBW.block _ (blk_lt f1.out)).trans f1.out
    obtain ⟨V, hW⟩ : ∃ x, w3.alloc (Obj.cells #[.bool true, .slice A3 D.l.length c3, .string D.pre, .string D.bld, .string D.txt, .int .u64 D.a, .int .u64 D.b, .int .u64 D.c] 46) = x := ⟨_, rfl⟩
    rw [hW] at f1 f2 hBW ⊢
    have hs := same_calls D hl.out A A3 c c3 V (Kd.C_below hC.out hBW) hc.out (Kd.C_below hC3.out hBW) hc3.out
    rw [hb.out] at hs
    replace hs := Aside0.mk hs
    replace hB := Aside0.mk (below_then hB.out hB.out.size hBW)
    clear hW hBW hC hC3
    have z1_0 : V.cell? ⟨w2.heap.size, 0, none⟩ = some (.bool true) := (blk_cell f1 0).trans rfl
    have z1_1 : V.cell? ⟨w2.heap.size, 1, none⟩ = some (.slice A D.l.length c) := (blk_cell f1 1).trans rfl
    have z1_2 : V.cell? ⟨w2.heap.size, 2, none⟩ = some (.string D.pre) := (blk_cell f1 2).trans rfl
    have z1_3 : V.cell? ⟨w2.heap.size, 3, none⟩ = some (.string D.bld) := (blk_cell f1 3).trans rfl
    have z1_4 : V.cell? ⟨w2.heap.size, 4, none⟩ = some (.string D.txt) := (blk_cell f1 4).trans rfl
    have z1_5 : V.cell? ⟨w2.heap.size, 5, none⟩ = some (.int .u64 D.a) := (blk_cell f1 5).trans rfl
    have z1_6 : V.cell? ⟨w2.heap.size, 6, none⟩ = some (.int .u64 D.b) := (blk_cell f1 6).trans rfl
    have z1_7 : V.cell? ⟨w2.heap.size, 7, none⟩ = some (.int .u64 D.c) := (blk_cell f1 7).trans rfl
    have z2_0 : V.cell? ⟨w3.heap.size, 0, none⟩ = some (.bool true) := (blk_cell f2 0).trans rfl
    have z2_1 : V.cell? ⟨w3.heap.size, 1, none⟩ = some (.slice A3 D.l.length c3) := (blk_cell f2 1).trans rfl
    have z2_2 : V.cell? ⟨w3.heap.size, 2, none⟩ = some (.string D.pre) := (blk_cell f2 2).trans rfl
    have z2_3 : V.cell? ⟨w3.heap.size, 3, none⟩ = some (.string D.bld) := (blk_cell f2 3).trans rfl
    have z2_4 : V.cell? ⟨w3.heap.size, 4, none⟩ = some (.string D.txt) := (blk_cell f2 4).trans rfl
    have z2_5 : V.cell? ⟨w3.heap.size, 5, none⟩ = some (.int .u64 D.a) := (blk_cell f2 5).trans rfl
    have z2_6 : V.cell? ⟨w3.heap.size, 6, none⟩ = some (.int .u64 D.b) := (blk_cell f2 6).trans rfl
    have z2_7 : V.cell? ⟨w3.heap.size, 7, none⟩ = some (.int .u64 D.c) := (blk_cell f2 7).trans rfl
    clear f1 f2
    go_wp2_with fail
    refine hs.out.mono ?_
    rintro e w5 ⟨rfl, hB5⟩
    go_wp2_with fail
    go_ret
    exact ⟨rfl, below_then hB.out hB.out.size hB5⟩
theorem back_calls (kind : Int) (hk : -9223372036854775808 ≤ kind ∧ kind ≤ 9223372036854775807) (s : ByteArray) (w : World) (hs : s.size ≤ 2147483647) (hV : VT.V w) : Calls Tryd.prog 6 #[.int .i64 kind, .string s] w fun e w' => e = .returned (.bool true) ∧ Below w.heap.size w w' := by
  refine back_walk 0 kind hk s w (by omega) ?_ hV
  intro n
  obtain ⟨K, hK⟩ := parsed_ev n s hs
  refine ⟨K, _, hK K (Nat.le_refl _), parsed_ok n s hs, ?_⟩
  intro hok
  cases h : parsedL n s with
  | none => rw [h] at hok; cases hok
  | some v =>
    obtain ⟨sv, ns, pre, bld⟩ := v
    obtain ⟨h2, hl, hu, hp, hb⟩ := parsed_facts hs h
    obtain ⟨wp, wb⟩ := parsed_good hs h
    obtain ⟨K', hK'⟩ := text_ev n ns pre bld h2 hl hu hp hb wp wb
    obtain ⟨sv', h'⟩ := tell_back n s hs _ h
    refine ⟨by show ns.length ≤ _; omega, K', some (sv', ns, pre, bld), ?_, ⟨h2, by omega, by omega, by omega⟩, rfl⟩
    show parsedF K' n (text ns pre bld) = _
    exact (hK' K' (Nat.le_refl _)).trans (congrArg some h')
set_option maxHeartbeats 4000000 in
set_option maxRecDepth 100000 in
theorem back_big (kind : Int) (s : ByteArray) (w : World) (hs : ¬ s.size ≤ 2147483647) (hm : s.size ≤ maxLen) : Calls Tryd.prog 6 #[.int .i64 kind, .string s] w fun e w' => e = .returned (.bool true) ∧ Below w.heap.size w w' := by
  have cs1 : decide (2147483647 < (s.size : Int)) = true := decide_eq_true (by omega)
  have cs2 : decide (2147483647 < s.size) = true := decide_eq_true (by omega)
  clear hs
  go_enter Tryd.func6, Tryd.ntmps6
  go_wp2_with fail
  go_ret
  exact ⟨rfl, Below.refl _ _⟩
def laws_FnVersionBack.f (k : Int) (s : ByteArray) : Option Bool := if (-9223372036854775808 ≤ k ∧ k ≤ 9223372036854775807) ∧ s.size ≤ maxLen then some true else none
theorem laws_FnVersionBack.calls (a0 : Int) (a1 : ByteArray) (r : Bool) (w : World) (h : laws_FnVersionBack.f a0 a1 = some r) (hV : VT.V w) :
    Calls Tryd.prog 6 #[.int .i64 a0, .string a1] w fun e w' => e = .returned (.bool r) ∧ Below w.heap.size w w' := by
  unfold laws_FnVersionBack.f at h
  split at h
  · rename_i hm
    obtain rfl : true = r := by simpa using h
    by_cases hs : a1.size ≤ 2147483647
    · exact back_calls a0 hm.1 a1 w hs hV
    · exact back_big a0 a1 w hs hm.2
  · cases h
end Go.Proofs.YtmfgkidppchobaaDoor.VerB
