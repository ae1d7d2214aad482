/- FnVersionWays: the law's function walked. -/
import Derived.Test.YtmfgkidppchobaaDoorVer8
import Derived.Test.YtmfgkidppchobaaDoorVerQ
import Derived.Deep.RegionWith
import Derived.Deep.RegionHeld3
set_option linter.unusedSimpArgs false
set_option linter.unusedVariables false
namespace Go.Proofs.YtmfgkidppchobaaDoor.Ver9
open Go.RowKit Go.Proofs.YtmfgkidppchobaaDoorW.PrintWords Go.Proofs.YtmfgkidppchobaaDoorW.PrintLast Go.Proofs.YtmfgkidppchobaaDoor.XFnVersionWays Go.Proofs.YtmfgkidppchobaaDoor.Ver1 Go.Proofs.YtmfgkidppchobaaDoor.Ver2 Go.Proofs.YtmfgkidppchobaaDoor.Ver3 Go.Proofs.YtmfgkidppchobaaDoor.Ver4 Go.Proofs.YtmfgkidppchobaaDoor.Ver5 Go.Proofs.YtmfgkidppchobaaDoor.Ver6 Go.Proofs.YtmfgkidppchobaaDoor.Ver7 Go.Proofs.YtmfgkidppchobaaDoor.Ver8 Go.Proofs.YtmfgkidppchobaaDoor.VerQ

theorem drewB {w w' : World} (h : Below w.drew.heap.size w.drew w') : Below w.heap.size w w' := ⟨h.os, h.tape, h.output, h.size, fun k hk => h.block k hk⟩
theorem four (w : World) (a b c d : Obj) : ((((w.alloc a).alloc b).alloc c).alloc d).heap[w.heap.size]? = some a ∧ ((((w.alloc a).alloc b).alloc c).alloc d).heap[w.heap.size + 1]? = some b ∧ ((((w.alloc a).alloc b).alloc c).alloc d).heap[w.heap.size + 1 + 1]? = some c ∧ ((((w.alloc a).alloc b).alloc c).alloc d).heap[w.heap.size + 1 + 1 + 1]? = some d ∧ Below w.heap.size w ((((w.alloc a).alloc b).alloc c).alloc d) := by
  refine ⟨?_, ?_, ?_, ?_, below_alloc (below_alloc (below_alloc (below_alloc (Below.refl _ _) _) _) _) _⟩
  · rw [Below.heap_alloc _ _ _ (by simp only [World.size_alloc]; omega), Below.heap_alloc _ _ _ (by simp only [World.size_alloc]; omega), Below.heap_alloc _ _ _ (by simp only [World.size_alloc]; omega)]
    exact heap_alloc_new _ _
  · rw [Below.heap_alloc _ _ _ (by simp only [World.size_alloc]; omega), Below.heap_alloc _ _ _ (by simp only [World.size_alloc]; omega)]
    have h := heap_alloc_new (w.alloc a) b
    rwa [World.size_alloc] at h
  · rw [Below.heap_alloc _ _ _ (by simp only [World.size_alloc]; omega)]
    have h := heap_alloc_new ((w.alloc a).alloc b) c
    rwa [World.size_alloc, World.size_alloc] at h
  · have h := heap_alloc_new (((w.alloc a).alloc b).alloc c) d
    rwa [World.size_alloc, World.size_alloc, World.size_alloc] at h
theorem same_l0 (o : Bool) (l : List Int) (p q t : ByteArray) (a b c : Int) (hl : l.length ≤ 4294967296) : ∀ (j i : Nat), i + j = l.length → laws_verSame.l0 (j + 1) (i : Int) o l p q t a b c o l p q t a b c = some true
  | 0, i, h => by
    unfold laws_verSame.l0
    rw [if_neg (by omega)]
  | j + 1, i, h => by
    unfold laws_verSame.l0
    rw [if_pos (by omega), if_pos (by omega), if_pos (by omega), if_pos rfl, show wrap64 ((i : Int) + 1) = ((i + 1 : Nat) : Int) from by unfold wrap64; omega]
    exact same_l0 o l p q t a b c hl j (i + 1) (by omega)
theorem same_f (d : VD) (hl : d.l.length ≤ 4294967296) : laws_verSame.f (d.l.length + 2) d.ok d.l d.pre d.bld d.txt d.a d.b d.c d.ok d.l d.pre d.bld d.txt d.a d.b d.c = some true := by
  unfold laws_verSame.f
  rw [if_neg (by simp), if_pos rfl, if_pos rfl, if_pos rfl, if_pos rfl, if_pos rfl]
  unfold laws_verSame.j0
  show (if (d.b != d.b) = true then some false else _) = some true
  rw [if_neg (by simp)]
  exact same_l0 d.ok d.l d.pre d.bld d.txt d.a d.b d.c hl d.l.length 0 (by omega)
theorem same_calls (d : VD) (hl : d.l.length ≤ 4294967296) (A A' : Option Addr) (c c' : Nat) (w : World) (h1 : Kd.C (Kd.int .u64) w A d.l.length d.l) (h2 : d.l.length ≤ c) (h3 : Kd.C (Kd.int .u64) w A' d.l.length d.l) (h4 : d.l.length ≤ c') :
    Calls Tryd.prog 19 #[.agg #[.bool d.ok, .slice A d.l.length c, .string d.pre, .string d.bld, .string d.txt, .int .u64 d.a, .int .u64 d.b, .int .u64 d.c], .agg #[.bool d.ok, .slice A' d.l.length c', .string d.pre, .string d.bld, .string d.txt, .int .u64 d.a, .int .u64 d.b, .int .u64 d.c]] w fun e w' => e = .returned (.bool true) ∧ Below w.heap.size w w' :=
  laws_verSame.calls _ d.ok A c d.l d.pre d.bld d.txt d.a d.b d.c d.ok A' c' d.l d.pre d.bld d.txt d.a d.b d.c true w h1 h2 h3 h4 (same_f d hl)
set_option maxHeartbeats 40000000 in
set_option maxRecDepth 100000 in
theorem ways_walk (k : Nat) (s : ByteArray) (r0 r2 r1 r3 : Option (Bool × PV)) (D0 D2 D1 D3 : VD) (b1 b2 : Bool) (w : World) (hs : ¬ s.size > 2147483647) (h0 : parsedF k 0 s = some r0) (h2 : parsedF k 2 s = some r2) (h1 : parsedF k 1 s = some r1) (h3 : parsedF k 3 s = some r3) (o0 : okP r0) (o2 : okP r2) (o1 : okP r1) (o3 : okP r3) (d0 : D0 = tell r0) (d2 : D2 = tell r2) (d1 : D1 = tell r1) (d3 : D3 = tell r3)
    (k2 : D2.ok = b2) (k1 : D1.ok = b1) (k3 : D3.ok = b1) (e02 : b2 = true → D0 = D2) (e01 : b2 = false → D0 = D1) (e3 : b1 = true → D3 = vdOf [D1.a, D1.b] E0 E0) (u3 : U64 [D1.a, D1.b]) (l0 : D0.l.length ≤ 4294967296) (l3 : D3.l.length ≤ 4294967296) (hV : VT.V w) :
    Calls Tryd.prog 7 #[.string s] w fun e w' => e = .returned (.bool true) ∧ Below w.heap.size w w' := by
  have cs1 : decide (2147483647 < (s.size : Int)) = false := decide_eq_false (by omega)
  have cs2 : decide (2147483647 < s.size) = false := decide_eq_false (by omega)
  replace h0 := Aside0.mk h0
  replace h2 := Aside0.mk h2
  replace h1 := Aside0.mk h1
  replace h3 := Aside0.mk h3
  replace o0 := Aside0.mk o0
  replace o2 := Aside0.mk o2
  replace o1 := Aside0.mk o1
  replace o3 := Aside0.mk o3
  replace d0 := Aside0.mk d0
  replace d2 := Aside0.mk d2
  replace d1 := Aside0.mk d1
  replace d3 := Aside0.mk d3
  replace k1 := Aside0.mk k1
  replace k2 := Aside0.mk k2
  replace k3 := Aside0.mk k3
  replace e02 := Aside0.mk e02
  replace e01 := Aside0.mk e01
  replace e3 := Aside0.mk e3
  replace u3 := Aside0.mk u3
  replace l0 := Aside0.mk l0
  replace l3 := Aside0.mk l3
  replace hV := Aside0.mk hV
  clear hs
  go_enter Tryd.func7, Tryd.ntmps7
  go_wp2_with fail
  refine (versionParse k 0 s r0 _ h0.out o0.out hV.out).mono ?_
  rintro e w0 ⟨v0, rfl, hD, hBX⟩
  obtain ⟨A0, c0, e0, hC, hc⟩ := hD.reads
  rw [← d0.out] at e0 hC hc
  subst e0
  clear hD
  have hC0 := Aside0.mk hC
  have hc0 := Aside0.mk hc
  have hB0 := Aside0.mk hBX
  clear hBX hC hc
  go_wp2_with fail
  refine (versionParse k 2 s r2 _ h2.out o2.out (hV.out.below hB0.out)).mono ?_
  rintro e w2 ⟨v2, rfl, hD, hBX⟩
  obtain ⟨A2, c2, e2, hC, hc⟩ := hD.reads
  rw [← d2.out] at e2 hC hc
  subst e2
  clear hD
  have hC2 := Aside0.mk hC
  have hc2 := Aside0.mk hc
  have hB2 := Aside0.mk (below_then hB0.out hB0.out.size hBX)
  replace hC0 := Aside0.mk (Kd.C_below hC0.out hBX)
  clear hBX hC hc
  go_wp2_with fail
  refine (versionParse k 1 s r1 _ h1.out o1.out (hV.out.below hB2.out)).mono ?_
  rintro e w1 ⟨v1, rfl, hD, hBX⟩
  obtain ⟨A1, c1, e1, hC, hc⟩ := hD.reads
  rw [← d1.out] at e1 hC hc
  subst e1
  clear hD
  have hC1 := Aside0.mk hC
  have hc1 := Aside0.mk hc
  have hB1 := Aside0.mk (below_then hB2.out hB2.out.size hBX)
  replace hC0 := Aside0.mk (Kd.C_below hC0.out hBX)
  replace hC2 := Aside0.mk (Kd.C_below hC2.out hBX)
  clear hBX hC hc
  go_wp2_with fail
  refine (versionParse k 3 s r3 _ h3.out o3.out (hV.out.below hB1.out)).mono ?_
  rintro e w3 ⟨v3, rfl, hD, hBX⟩
  obtain ⟨A3, c3, e3, hC, hc⟩ := hD.reads
  rw [← d3.out] at e3 hC hc
  subst e3
  clear hD
  have hC3 := Aside0.mk hC
  have hc3 := Aside0.mk hc
  have hB3 := Aside0.mk (below_then hB1.out hB1.out.size hBX)
  replace hC0 := Aside0.mk (Kd.C_below hC0.out hBX)
  replace hC2 := Aside0.mk (Kd.C_below hC2.out hBX)
  replace hC1 := Aside0.mk (Kd.C_below hC1.out hBX)
  clear hBX hC hc
  rw [k2.out, k1.out, k3.out]
  go_upto_region 4 with (fail)
  obtain ⟨f0, f2, f1, f3, hBW⟩ := four w3 (.cells #[.bool D0.ok, .slice A0 D0.l.length c0, .string D0.pre, .string D0.bld, .string D0.txt, .int .u64 D0.a, .int .u64 D0.b, .int .u64 D0.c] 46) (.cells #[.bool b2, .slice A2 D2.l.length c2, .string D2.pre, .string D2.bld, .string D2.txt, .int .u64 D2.a, .int .u64 D2.b, .int .u64 D2.c] 46) (.cells #[.bool b1, .slice A1 D1.l.length c1, .string D1.pre, .string D1.bld, .string D1.txt, .int .u64 D1.a, .int .u64 D1.b, .int .u64 D1.c] 46) (.cells #[.bool b1, .slice A3 D3.l.length c3, .string D3.pre, .string D3.bld, .string D3.txt, .int .u64 D3.a, .int .u64 D3.b, .int .u64 D3.c] 46)
  obtain ⟨W, hW⟩ : ∃ x, (World.alloc (World.alloc (World.alloc (World.alloc w3 (.cells #[.bool D0.ok, .slice A0 D0.l.length c0, .string D0.pre, .string D0.bld, .string D0.txt, .int .u64 D0.a, .int .u64 D0.b, .int .u64 D0.c] 46)) (.cells #[.bool b2, .slice A2 D2.l.length c2, .string D2.pre, .string D2.bld, .string D2.txt, .int .u64 D2.a, .int .u64 D2.b, .int .u64 D2.c] 46)) (.cells #[.bool b1, .slice A1 D1.l.length c1, .string D1.pre, .string D1.bld, .string D1.txt, .int .u64 D1.a, .int .u64 D1.b, .int .u64 D1.c] 46)) (.cells #[.bool b1, .slice A3 D3.l.length c3, .string D3.pre, .string D3.bld, .string D3.txt, .int .u64 D3.a, .int .u64 D3.b, .int .u64 D3.c] 46)) = x := ⟨_, rfl⟩
  rw [hW] at f0 f2 f1 f3 hBW ⊢
  clear hW
  replace f0 := Aside0.mk f0
  replace hC0 := Aside0.mk (Kd.C_below hC0.out hBW)
  replace f2 := Aside0.mk f2
  replace hC2 := Aside0.mk (Kd.C_below hC2.out hBW)
  replace f1 := Aside0.mk f1
  replace hC1 := Aside0.mk (Kd.C_below hC1.out hBW)
  replace f3 := Aside0.mk f3
  replace hC3 := Aside0.mk (Kd.C_below hC3.out hBW)
  have hBw := Aside0.mk (below_then hB3.out hB3.out.size hBW)
  clear hBW hB0 hB1 hB2 hB3 h0 h1 h2 h3 o0 o1 o2 o3 d0 d1 d2 d3
  go_cut [36] from 18 to 36 (fun v36 wc => v36 = .bool false ∧ Below W.heap.size W wc)
  case first =>
    cases b2 with
    | true =>
      obtain rfl := e02.out rfl
      have g0 := f0.out
      rw [k2.out] at g0
      have z0_0 : W.cell? ⟨w3.heap.size, 0, none⟩ = some (.bool true) := (blk_cell g0 0).trans rfl
      have z0_1 : W.cell? ⟨w3.heap.size, 1, none⟩ = some (.slice A0 D0.l.length c0) := (blk_cell g0 1).trans rfl
      have z0_2 : W.cell? ⟨w3.heap.size, 2, none⟩ = some (.string D0.pre) := (blk_cell g0 2).trans rfl
      have z0_3 : W.cell? ⟨w3.heap.size, 3, none⟩ = some (.string D0.bld) := (blk_cell g0 3).trans rfl
      have z0_4 : W.cell? ⟨w3.heap.size, 4, none⟩ = some (.string D0.txt) := (blk_cell g0 4).trans rfl
      have z0_5 : W.cell? ⟨w3.heap.size, 5, none⟩ = some (.int .u64 D0.a) := (blk_cell g0 5).trans rfl
      have z0_6 : W.cell? ⟨w3.heap.size, 6, none⟩ = some (.int .u64 D0.b) := (blk_cell g0 6).trans rfl
      have z0_7 : W.cell? ⟨w3.heap.size, 7, none⟩ = some (.int .u64 D0.c) := (blk_cell g0 7).trans rfl
      have z2_0 : W.cell? ⟨w3.heap.size + 1, 0, none⟩ = some (.bool true) := (blk_cell f2.out 0).trans rfl
      have z2_1 : W.cell? ⟨w3.heap.size + 1, 1, none⟩ = some (.slice A2 D0.l.length c2) := (blk_cell f2.out 1).trans rfl
      have z2_2 : W.cell? ⟨w3.heap.size + 1, 2, none⟩ = some (.string D0.pre) := (blk_cell f2.out 2).trans rfl
      have z2_3 : W.cell? ⟨w3.heap.size + 1, 3, none⟩ = some (.string D0.bld) := (blk_cell f2.out 3).trans rfl
      have z2_4 : W.cell? ⟨w3.heap.size + 1, 4, none⟩ = some (.string D0.txt) := (blk_cell f2.out 4).trans rfl
      have z2_5 : W.cell? ⟨w3.heap.size + 1, 5, none⟩ = some (.int .u64 D0.a) := (blk_cell f2.out 5).trans rfl
      have z2_6 : W.cell? ⟨w3.heap.size + 1, 6, none⟩ = some (.int .u64 D0.b) := (blk_cell f2.out 6).trans rfl
      have z2_7 : W.cell? ⟨w3.heap.size + 1, 7, none⟩ = some (.int .u64 D0.c) := (blk_cell f2.out 7).trans rfl
      have hs := same_calls D0 l0.out A0 A2 c0 c2 W hC0.out hc0.out hC2.out hc2.out
      rw [k2.out] at hs
      replace hs := Aside0.mk hs
      clear g0
      go_wp2_with fail
      refine hs.out.mono ?_
      rintro e w5 ⟨rfl, hB5⟩
      have hB5x := Aside0.mk hB5
      replace f2 := (hB5.block _ (blk_lt f2.out)).trans f2.out
      clear hB5 z0_0 z2_0 z0_1 z2_1 z0_2 z2_2 z0_3 z2_3 z0_4 z2_4 z0_5 z2_5 z0_6 z2_6 z0_7 z2_7
      have z2_0 : w5.cell? ⟨w3.heap.size + 1, 0, none⟩ = some (.bool true) := (blk_cell f2 0).trans rfl
      clear f2
      go_wp2_with fail
      go_meet
      case rel => exact ⟨rfl, hB5x.out⟩
    | false =>
      obtain rfl := e01.out rfl
      have g0 := f0.out
      rw [k1.out] at g0
      have z0_0 : W.cell? ⟨w3.heap.size, 0, none⟩ = some (.bool b1) := (blk_cell g0 0).trans rfl
      have z0_1 : W.cell? ⟨w3.heap.size, 1, none⟩ = some (.slice A0 D0.l.length c0) := (blk_cell g0 1).trans rfl
      have z0_2 : W.cell? ⟨w3.heap.size, 2, none⟩ = some (.string D0.pre) := (blk_cell g0 2).trans rfl
      have z0_3 : W.cell? ⟨w3.heap.size, 3, none⟩ = some (.string D0.bld) := (blk_cell g0 3).trans rfl
      have z0_4 : W.cell? ⟨w3.heap.size, 4, none⟩ = some (.string D0.txt) := (blk_cell g0 4).trans rfl
      have z0_5 : W.cell? ⟨w3.heap.size, 5, none⟩ = some (.int .u64 D0.a) := (blk_cell g0 5).trans rfl
      have z0_6 : W.cell? ⟨w3.heap.size, 6, none⟩ = some (.int .u64 D0.b) := (blk_cell g0 6).trans rfl
      have z0_7 : W.cell? ⟨w3.heap.size, 7, none⟩ = some (.int .u64 D0.c) := (blk_cell g0 7).trans rfl
      have z1_0 : W.cell? ⟨w3.heap.size + 1 + 1, 0, none⟩ = some (.bool b1) := (blk_cell f1.out 0).trans rfl
      have z1_1 : W.cell? ⟨w3.heap.size + 1 + 1, 1, none⟩ = some (.slice A1 D0.l.length c1) := (blk_cell f1.out 1).trans rfl
      have z1_2 : W.cell? ⟨w3.heap.size + 1 + 1, 2, none⟩ = some (.string D0.pre) := (blk_cell f1.out 2).trans rfl
      have z1_3 : W.cell? ⟨w3.heap.size + 1 + 1, 3, none⟩ = some (.string D0.bld) := (blk_cell f1.out 3).trans rfl
      have z1_4 : W.cell? ⟨w3.heap.size + 1 + 1, 4, none⟩ = some (.string D0.txt) := (blk_cell f1.out 4).trans rfl
      have z1_5 : W.cell? ⟨w3.heap.size + 1 + 1, 5, none⟩ = some (.int .u64 D0.a) := (blk_cell f1.out 5).trans rfl
      have z1_6 : W.cell? ⟨w3.heap.size + 1 + 1, 6, none⟩ = some (.int .u64 D0.b) := (blk_cell f1.out 6).trans rfl
      have z1_7 : W.cell? ⟨w3.heap.size + 1 + 1, 7, none⟩ = some (.int .u64 D0.c) := (blk_cell f1.out 7).trans rfl
      have z2_0 : W.cell? ⟨w3.heap.size + 1, 0, none⟩ = some (.bool false) := (blk_cell f2.out 0).trans rfl
      have hs := same_calls D0 l0.out A0 A1 c0 c1 W hC0.out hc0.out hC1.out hc1.out
      rw [k1.out] at hs
      replace hs := Aside0.mk hs
      clear g0
      go_wp2_with fail
      refine hs.out.mono ?_
      rintro e w5 ⟨rfl, hB5⟩
      have hB5x := Aside0.mk hB5
      replace f2 := (hB5.block _ (blk_lt f2.out)).trans f2.out
      clear hB5 z0_0 z1_0 z0_1 z1_1 z0_2 z1_2 z0_3 z1_3 z0_4 z1_4 z0_5 z1_5 z0_6 z1_6 z0_7 z1_7 z2_0
      have z2_0 : w5.cell? ⟨w3.heap.size + 1, 0, none⟩ = some (.bool false) := (blk_cell f2 0).trans rfl
      clear f2
      go_wp2_with fail
      go_meet
      case rel => exact ⟨rfl, hB5x.out⟩
  case rest =>
    obtain ⟨rfl, hB5⟩ := hcut
    replace f1 := Aside0.mk ((hB5.block _ (blk_lt f1.out)).trans f1.out)
    replace f3 := Aside0.mk ((hB5.block _ (blk_lt f3.out)).trans f3.out)
    replace hC3 := Aside0.mk (Kd.C_below hC3.out hB5)
    replace hB5 := Aside0.mk (below_then hBw.out hBw.out.size hB5)
    cases b1 with
    | false =>
      have z1_0 : wc.cell? ⟨w3.heap.size + 1 + 1, 0, none⟩ = some (.bool false) := (blk_cell f1.out 0).trans rfl
      have z3_0 : wc.cell? ⟨w3.heap.size + 1 + 1 + 1, 0, none⟩ = some (.bool false) := (blk_cell f3.out 0).trans rfl
      go_wp2_with fail
      refine (awake_calls _ (hV.out.below hB5.out)).mono ?_
      rintro e w6 ⟨rfl, hB6⟩
      go_wp2_with fail
      go_ret
      exact ⟨rfl, below_then hB5.out hB5.out.size hB6⟩
    | true =>
      have z1_0 : wc.cell? ⟨w3.heap.size + 1 + 1, 0, none⟩ = some (.bool true) := (blk_cell f1.out 0).trans rfl
      have z1_5 : wc.cell? ⟨w3.heap.size + 1 + 1, 5, none⟩ = some (.int .u64 D1.a) := (blk_cell f1.out 5).trans rfl
      have z1_6 : wc.cell? ⟨w3.heap.size + 1 + 1, 6, none⟩ = some (.int .u64 D1.b) := (blk_cell f1.out 6).trans rfl
      have z3_0 : wc.cell? ⟨w3.heap.size + 1 + 1 + 1, 0, none⟩ = some (.bool true) := (blk_cell f3.out 0).trans rfl
      have z3_1 : wc.cell? ⟨w3.heap.size + 1 + 1 + 1, 1, none⟩ = some (.slice A3 D3.l.length c3) := (blk_cell f3.out 1).trans rfl
      have z3_2 : wc.cell? ⟨w3.heap.size + 1 + 1 + 1, 2, none⟩ = some (.string D3.pre) := (blk_cell f3.out 2).trans rfl
      have z3_3 : wc.cell? ⟨w3.heap.size + 1 + 1 + 1, 3, none⟩ = some (.string D3.bld) := (blk_cell f3.out 3).trans rfl
      have z3_4 : wc.cell? ⟨w3.heap.size + 1 + 1 + 1, 4, none⟩ = some (.string D3.txt) := (blk_cell f3.out 4).trans rfl
      have z3_5 : wc.cell? ⟨w3.heap.size + 1 + 1 + 1, 5, none⟩ = some (.int .u64 D3.a) := (blk_cell f3.out 5).trans rfl
      have z3_6 : wc.cell? ⟨w3.heap.size + 1 + 1 + 1, 6, none⟩ = some (.int .u64 D3.b) := (blk_cell f3.out 6).trans rfl
      have z3_7 : wc.cell? ⟨w3.heap.size + 1 + 1 + 1, 7, none⟩ = some (.int .u64 D3.c) := (blk_cell f3.out 7).trans rfl
      go_upto_region 8 with (fail)
      have hE := e3.out (by first | rfl | trivial)
      replace hE := Aside0.mk hE
      have lt1 : w3.heap.size + 1 + 1 < wc.heap.size := blk_lt f1.out
      have lt3 : w3.heap.size + 1 + 1 + 1 < wc.heap.size := blk_lt f3.out
      have hS : ∀ w', Below wc.heap.size wc w' → (fun w' => w'.cell? ⟨w3.heap.size + 1 + 1, 5, none⟩ = some (.int .u64 D1.a) ∧ w'.cell? ⟨w3.heap.size + 1 + 1, 6, none⟩ = some (.int .u64 D1.b) ∧ w'.cell? ⟨w3.heap.size + 1 + 1 + 1, 0, none⟩ = some (.bool true) ∧ w'.cell? ⟨w3.heap.size + 1 + 1 + 1, 1, none⟩ = some (.slice A3 D3.l.length c3) ∧ w'.cell? ⟨w3.heap.size + 1 + 1 + 1, 2, none⟩ = some (.string D3.pre) ∧ w'.cell? ⟨w3.heap.size + 1 + 1 + 1, 3, none⟩ = some (.string D3.bld) ∧ w'.cell? ⟨w3.heap.size + 1 + 1 + 1, 4, none⟩ = some (.string D3.txt) ∧ w'.cell? ⟨w3.heap.size + 1 + 1 + 1, 5, none⟩ = some (.int .u64 D3.a) ∧ w'.cell? ⟨w3.heap.size + 1 + 1 + 1, 6, none⟩ = some (.int .u64 D3.b) ∧ w'.cell? ⟨w3.heap.size + 1 + 1 + 1, 7, none⟩ = some (.int .u64 D3.c)) w' := fun w' hb => ⟨(hb.cell (p := ⟨w3.heap.size + 1 + 1, 5, none⟩) lt1).trans z1_5, (hb.cell (p := ⟨w3.heap.size + 1 + 1, 6, none⟩) lt1).trans z1_6, (hb.cell (p := ⟨w3.heap.size + 1 + 1 + 1, 0, none⟩) lt3).trans z3_0, (hb.cell (p := ⟨w3.heap.size + 1 + 1 + 1, 1, none⟩) lt3).trans z3_1, (hb.cell (p := ⟨w3.heap.size + 1 + 1 + 1, 2, none⟩) lt3).trans z3_2, (hb.cell (p := ⟨w3.heap.size + 1 + 1 + 1, 3, none⟩) lt3).trans z3_3, (hb.cell (p := ⟨w3.heap.size + 1 + 1 + 1, 4, none⟩) lt3).trans z3_4, (hb.cell (p := ⟨w3.heap.size + 1 + 1 + 1, 5, none⟩) lt3).trans z3_5, (hb.cell (p := ⟨w3.heap.size + 1 + 1 + 1, 6, none⟩) lt3).trans z3_6, (hb.cell (p := ⟨w3.heap.size + 1 + 1 + 1, 7, none⟩) lt3).trans z3_7⟩
      replace hS := Aside0.mk hS
      have hX9 := Aside0.mk (Below.refl wc.heap.size wc)
      clear lt1 lt3
      have hVM : ∀ W, Below wc.heap.size wc W → Calls Tryd.prog 20 #[.int .u64 D1.a, .int .u64 D1.b] W (fun e w6 => ∃ A6 c6, e = .returned (.agg #[.bool true, .slice A6 D3.l.length c6, .string D3.pre, .string D3.bld, .string D3.txt, .int .u64 D3.a, .int .u64 D3.b, .int .u64 D3.c]) ∧ Below wc.heap.size wc w6 ∧ Calls Tryd.prog 19 #[.agg #[.bool true, .slice A3 D3.l.length c3, .string D3.pre, .string D3.bld, .string D3.txt, .int .u64 D3.a, .int .u64 D3.b, .int .u64 D3.c], .agg #[.bool true, .slice A6 D3.l.length c6, .string D3.pre, .string D3.bld, .string D3.txt, .int .u64 D3.a, .int .u64 D3.b, .int .u64 D3.c]] w6 (fun e w7 => e = .returned (.bool true) ∧ Below w6.heap.size w6 w7)) := by
        intro W hb
        refine (versionMake D1.a D1.b u3.out W (hV.out.below (below_then hB5.out hB5.out.size hb))).mono ?_
        rintro e w6 ⟨v6, rfl, hD6, hB6⟩
        rw [← hE.out] at hD6
        obtain ⟨A6, c6, e6, hC6, hc6⟩ := hD6.reads
        rw [k3.out] at e6
        subst e6
        have hBx := below_then hb hb.size hB6
        have hs2 := same_calls D3 l3.out A3 A6 c3 c6 w6 (Kd.C_below hC3.out hBx) hc3.out hC6 hc6
        rw [k3.out] at hs2
        exact ⟨A6, c6, rfl, hBx, hs2⟩
      replace hVM := Aside0.mk hVM
      go_region_held3 (fun w' => w'.cell? ⟨w3.heap.size + 1 + 1, 5, none⟩ = some (.int .u64 D1.a) ∧ w'.cell? ⟨w3.heap.size + 1 + 1, 6, none⟩ = some (.int .u64 D1.b) ∧ w'.cell? ⟨w3.heap.size + 1 + 1 + 1, 0, none⟩ = some (.bool true) ∧ w'.cell? ⟨w3.heap.size + 1 + 1 + 1, 1, none⟩ = some (.slice A3 D3.l.length c3) ∧ w'.cell? ⟨w3.heap.size + 1 + 1 + 1, 2, none⟩ = some (.string D3.pre) ∧ w'.cell? ⟨w3.heap.size + 1 + 1 + 1, 3, none⟩ = some (.string D3.bld) ∧ w'.cell? ⟨w3.heap.size + 1 + 1 + 1, 4, none⟩ = some (.string D3.txt) ∧ w'.cell? ⟨w3.heap.size + 1 + 1 + 1, 5, none⟩ = some (.int .u64 D3.a) ∧ w'.cell? ⟨w3.heap.size + 1 + 1 + 1, 6, none⟩ = some (.int .u64 D3.b) ∧ w'.cell? ⟨w3.heap.size + 1 + 1 + 1, 7, none⟩ = some (.int .u64 D3.c)) (first | exact hS.out _ hX9.out | exact hS.out _ (pw_below_drewN hX9.out 1)) (first
        | (go_at_call 20; refine (hVM.out _ ?_).mono ?_; (first | exact hX9.out | exact pw_below_drewN hX9.out 1); rintro e w6 ⟨A6, c6, rfl, hX9, hs2⟩; replace hX9 := Aside0.mk hX9; replace hs2 := Aside0.mk hs2)
        | (go_at_call 19; refine hs2.out.mono ?_; rintro e w7 ⟨rfl, hB7⟩; replace hX9 := Aside0.mk (below_then hX9.out hX9.out.size hB7); clear hB7))
      all_goals (go_wp2_with fail; go_ret; exact ⟨rfl, below_then hB5.out hB5.out.size hX9.out⟩)

theorem vdl {r : Option (Bool × PV)} (h : okP r) : (tell r).l.length ≤ 4294967296 := by
  cases r with
  | none => exact Nat.zero_le _
  | some v => obtain ⟨sv, ns, pre, bld⟩ := v; exact h.2.1
theorem ways_calls (s : ByteArray) (w : World) (hs : s.size ≤ 2147483647) (hV : VT.V w) : Calls Tryd.prog 7 #[.string s] w fun e w' => e = .returned (.bool true) ∧ Below w.heap.size w w' := by
  obtain ⟨K0, e0⟩ := parsed_ev 0 s hs
  obtain ⟨K2, e2⟩ := parsed_ev 2 s hs
  obtain ⟨K1, e1⟩ := parsed_ev 1 s hs
  obtain ⟨K3, e3⟩ := parsed_ev 3 s hs
  have o0 := parsed_ok 0 s hs
  have o1 := parsed_ok 1 s hs
  have o2 := parsed_ok 2 s hs
  have o3 := parsed_ok 3 s hs
  have hf := fun ns pre bld => @parse_facts false s ns pre bld hs
  refine ways_walk (K0 + K1 + K2 + K3) s _ _ _ _ (tell (parsedL 0 s)) (tell (parsedL 2 s)) (tell (parsedL 1 s)) (tell (parsedL 3 s)) (tell (parsedL 1 s)).ok (tell (parsedL 2 s)).ok w (by omega) (e0 _ (by omega)) (e2 _ (by omega)) (e1 _ (by omega)) (e3 _ (by omega)) o0 o2 o1 o3 rfl rfl rfl rfl rfl rfl ?_ ?_ ?_ ?_ ?_ (vdl o0) (vdl o3) hV
  all_goals (unfold parsedL; simp only [if_neg (show ¬ (2 : Int) = 1 by decide), if_neg (show ¬ (3 : Int) = 1 by decide), if_neg (show ¬ (3 : Int) = 2 by decide), if_neg (show ¬ (0 : Int) = 1 by decide), if_neg (show ¬ (0 : Int) = 2 by decide), if_neg (show ¬ (0 : Int) = 3 by decide), if_true])
  · cases h : parseL false s with
    | none => rfl
    | some v => rfl
  · cases h : parseL true s with
    | none => intro h; cases h
    | some v => intro _; rfl
  · cases h : parseL true s with
    | none => intro _; rfl
    | some v => intro h; cases h
  · cases h : parseL false s with
    | none => intro h; cases h
    | some v => intro _; rfl
  · cases h : parseL false s with
    | none => intro x hx; rcases List.mem_cons.1 hx with rfl | hx; exact ⟨Int.le_refl _, by show (0 : Int) < _; decide⟩; rw [List.mem_singleton.1 hx]; exact ⟨Int.le_refl _, by show (0 : Int) < _; decide⟩
    | some v =>
      obtain ⟨ns, pre, bld⟩ := v
      obtain ⟨h2, _, hu, _⟩ := hf ns pre bld h
      exact u64_two hu h2
theorem ways_big (s : ByteArray) (w : World) (hs : ¬ s.size ≤ 2147483647) (hm : s.size ≤ maxLen) : Calls Tryd.prog 7 #[.string s] w fun e w' => e = .returned (.bool true) ∧ Below w.heap.size w w' := by
  have cs1 : decide (2147483647 < (s.size : Int)) = true := decide_eq_true (by omega)
  have cs2 : decide (2147483647 < s.size) = true := decide_eq_true (by omega)
  clear hs
  go_enter Tryd.func7, Tryd.ntmps7
  go_wp2_with fail
  go_ret
  exact ⟨rfl, Below.refl _ _⟩
def laws_FnVersionWays.f (s : ByteArray) : Option Bool := if s.size ≤ maxLen then some true else none
theorem laws_FnVersionWays.calls (a0 : ByteArray) (r : Bool) (w : World) (h : laws_FnVersionWays.f a0 = some r) (hV : VT.V w) :
    Calls Tryd.prog 7 #[.string a0] w fun e w' => e = .returned (.bool r) ∧ Below w.heap.size w w' := by
  unfold laws_FnVersionWays.f at h
  split at h
  · rename_i hm
    obtain rfl : true = r := by simpa using h
    by_cases hs : a0.size ≤ 2147483647
    · exact ways_calls a0 w hs hV
    · exact ways_big a0 w hs hm
  · cases h
end Go.Proofs.YtmfgkidppchobaaDoor.Ver9
