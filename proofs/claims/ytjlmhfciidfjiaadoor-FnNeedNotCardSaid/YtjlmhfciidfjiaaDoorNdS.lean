/- Requirements: comparisons. -/
import Derived.Test.YtjlmhfciidfjiaaDoorNdQ
import Derived.Deep.RegionWith
set_option linter.unusedSimpArgs false
set_option linter.unusedVariables false
namespace Go.Proofs.YtjlmhfciidfjiaaDoor.NdS
open Go.RowKit Go.Maps Go.Proofs.YtjlmhfciidfjiaaDoorW.PrintWords Go.Proofs.YtjlmhfciidfjiaaDoorW.PrintLast Go.Proofs.YtjlmhfciidfjiaaDoor.EvL Go.Proofs.YtjlmhfciidfjiaaDoor.SetGen Go.Proofs.YtjlmhfciidfjiaaDoor.MapGen Go.Proofs.YtjlmhfciidfjiaaDoor.XFnNeedNot Go.Proofs.YtjlmhfciidfjiaaDoor.LabS Go.Proofs.YtjlmhfciidfjiaaDoor.NdR Go.Proofs.YtjlmhfciidfjiaaDoor.NdP Go.Proofs.YtjlmhfciidfjiaaDoor.NdQ
set_option maxHeartbeats 4000000 in
set_option maxRecDepth 100000 in
theorem mt_gt_none (g : Nat) (key : ByteArray) (hkey : key.size ≤ maxLen) (A : Option Addr) (c : Nat) (b N : Nat) (f : ByteArray → Option ByteArray) (w : World) (hM : M w b N f) (hR : Rq w g key o_gt A 1 c) (hf : f key = none) :
    Calls Tryd.prog 14 #[.pointer (some ⟨g, 0, none⟩), .iface 45 (.map (some b))] w fun e w' => e = .returned (.bool (false)) ∧ Below w.heap.size w w' := by
  obtain ⟨z0, z1, _⟩ := hR.c
  have hq := Aside0.mk (fun W (hb : Below w.heap.size w W) => lookup_none b N f key hkey hf W (M_below hM hb))
  have hX := Aside0.mk (Below.refl w.heap.size w)
  have a1 := na_L
  have a2 := me_L
  clear hM hf hR
  go_enter Tryd.func14, Tryd.ntmps14
  go_wp2_with fail
  go_region_with (go_at_call 76; refine (hq.out _ ?_).mono ?_; (first | exact hX.out | exact below_drew hX.out | exact pw_below_drewN hX.out _); rintro e w6 ⟨rfl, rfl⟩)
  all_goals (go_wp2_with fail)
  all_goals
    go_ret
    exact ⟨rfl, by first | exact hX.out | exact below_drew hX.out | exact pw_below_drewN hX.out _⟩
set_option maxHeartbeats 4000000 in
set_option maxRecDepth 100000 in
theorem mt_gt_bad (g : Nat) (key : ByteArray) (hkey : key.size ≤ maxLen) (A : Option Addr) (c : Nat) (b N : Nat) (f : ByteArray → Option ByteArray) (w : World) (hM : M w b N f) (hR : Rq w g key o_gt A 1 c) (u : ByteArray) (hf : f key = some u) (hu : u.size ≤ 140737488351232) (hw : whole u = none) (hV : Vars.Vars w) :
    Calls Tryd.prog 14 #[.pointer (some ⟨g, 0, none⟩), .iface 45 (.map (some b))] w fun e w' => e = .returned (.bool (false)) ∧ Below w.heap.size w w' := by
  obtain ⟨z0, z1, _⟩ := hR.c
  have hq := Aside0.mk (fun W (hb : Below w.heap.size w W) => lookup_some b N f key hkey u hf W (M_below hM hb))
  have hp := Aside0.mk (fun W (hb : Below w.heap.size w W) => parse_bad u hu hw W (hV.below hb))
  have hX := Aside0.mk (Below.refl w.heap.size w)
  have a1 := na_L
  have a2 := me_L
  clear hM hf hR
  go_enter Tryd.func14, Tryd.ntmps14
  go_wp2_with fail
  go_region_with (go_at_call 76; refine (hq.out _ ?_).mono ?_; (first | exact hX.out | exact below_drew hX.out | exact pw_below_drewN hX.out _); rintro e w6 ⟨rfl, rfl⟩)
  all_goals (go_wp2_with fail)
  all_goals
    refine (hp.out _ (by first | exact hX.out | exact below_drew hX.out | exact pw_below_drewN hX.out _)).mono ?_
    rintro e w7 ⟨q, p, rfl, hb⟩
    replace hb := Aside0.mk hb
    clear z0 z1
    go_wp2_with fail
    go_ret
    exact ⟨rfl, by first | exact below_then hX.out hX.out.size hb.out | exact below_then (below_drew hX.out) (below_drew hX.out).size hb.out | exact below_then (pw_below_drewN hX.out _) (pw_below_drewN hX.out _).size hb.out⟩
set_option maxHeartbeats 4000000 in
set_option maxRecDepth 100000 in
theorem mt_gt_num (g : Nat) (key : ByteArray) (hkey : key.size ≤ maxLen) (A : Option Addr) (c : Nat) (b N : Nat) (f : ByteArray → Option ByteArray) (w : World) (hM : M w b N f) (hR : Rq w g key o_gt A 1 c) (u : ByteArray) (hf : f key = some u) (hu : u.size ≤ 140737488351232) (x : Int) (hw : whole u = some x) (v : ByteArray) (hv : v.size ≤ 140737488351232) (y : Int) (hy : whole v = some y) (hC : Kd.string.C w A 1 [v]) :
    Calls Tryd.prog 14 #[.pointer (some ⟨g, 0, none⟩), .iface 45 (.map (some b))] w fun e w' => e = .returned (.bool (decide (y < x))) ∧ Below w.heap.size w w' := by
  obtain ⟨z0, z1, _⟩ := hR.c
  have hq := Aside0.mk (fun W (hb : Below w.heap.size w W) => lookup_some b N f key hkey u hf W (M_below hM hb))
  have hp := Aside0.mk (fun W => parse_ok u hu x hw W)
  have hp2 := Aside0.mk (fun W => parse_ok v hv y hy W)
  have hRa := Aside0.mk hR
  replace hC := Aside0.mk hC
  replace hw := Aside0.mk hw
  replace hy := Aside0.mk hy
  have hX := Aside0.mk (Below.refl w.heap.size w)
  have a1 := na_L
  have a2 := me_L
  clear hM hf hR
  go_enter Tryd.func14, Tryd.ntmps14
  go_wp2_with fail
  go_region_with (go_at_call 76; refine (hq.out _ ?_).mono ?_; (first | exact hX.out | exact below_drew hX.out | exact pw_below_drewN hX.out _); rintro e w6 ⟨rfl, rfl⟩)
  all_goals (go_wp2_with fail)
  all_goals
    refine (hp.out _).mono ?_
    rintro e w7 ⟨rfl, hb⟩
    have hB7 : Below w.heap.size w w7 := by first | exact below_then hX.out hX.out.size hb | exact below_then (below_drew hX.out) (below_drew hX.out).size hb | exact below_then (pw_below_drewN hX.out _) (pw_below_drewN hX.out _).size hb
    clear z0 z1 hb
    obtain ⟨z0, z1, z2⟩ := (hRa.out.below hB7).c
    replace hB7 := Aside0.mk hB7
    go_wp2_with fail
    go_loopw [12, 13, 119] (fun er rv i wr => ∃ k : Nat, k ≤ 1 ∧ i = .int .i64 (k : Int) ∧ er = .nilIface ∧ rv = .int .i64 (if k = 0 then 0 else y) ∧ Aside0 (Below w.heap.size w wr)) (fun _ _ i _ => 1 - (intOf i).toNat)
    case atStart => exact ⟨0, by omega, rfl, rfl, rfl, hB7⟩
    case round =>
      clear z0 z1 z2
      obtain ⟨k, hk, rfl, rfl, rfl, hB⟩ := hrel
      obtain ⟨z0, z1, z2⟩ := (hRa.out.below hB.out).c
      by_cases hk2 : k < 1
      · obtain ⟨ad, e1, hcell⟩ := Kd.at_string hC.out (k : Int) (Int.natCast_nonneg k) (by omega)
        have hr : rdOf ByteArray.empty [v] (k : Int) = v := by rw [show k = 0 by omega]; rfl
        rw [hr, Int.toNat_natCast] at hcell
        cases e1
        replace hcell := (hB.out.cell (World.block_lt_of_cell? w _ hcell)).trans hcell
        clear hr
        go_wp2_with fail
        refine (hp2.out _).mono ?_
        rintro e w8 ⟨rfl, hb⟩
        replace hB := Aside0.mk (below_then hB.out hB.out.size hb)
        clear hb hcell z0 z1 z2
        go_wp2_with fail
        go_roundw
        case rel => exact ⟨k + 1, by omega, by go_num, rfl, by rw [if_neg (by omega)], hB⟩
        case measure => simp [intOf]; omega
      · have hk3 : k = 1 := by omega
        subst hk3
        rw [if_neg (show ¬ (1 : Nat) = 0 by decide)]
        go_wp2_with fail
        all_goals
          go_ret
          exact ⟨by first | rfl | (simp [*]; done), hB.out⟩
set_option maxHeartbeats 4000000 in
set_option maxRecDepth 100000 in
theorem mt_lt_none (g : Nat) (key : ByteArray) (hkey : key.size ≤ maxLen) (A : Option Addr) (c : Nat) (b N : Nat) (f : ByteArray → Option ByteArray) (w : World) (hM : M w b N f) (hR : Rq w g key o_lt A 1 c) (hf : f key = none) :
    Calls Tryd.prog 14 #[.pointer (some ⟨g, 0, none⟩), .iface 45 (.map (some b))] w fun e w' => e = .returned (.bool (false)) ∧ Below w.heap.size w w' := by
  obtain ⟨z0, z1, _⟩ := hR.c
  have hq := Aside0.mk (fun W (hb : Below w.heap.size w W) => lookup_none b N f key hkey hf W (M_below hM hb))
  have hX := Aside0.mk (Below.refl w.heap.size w)
  have a1 := na_L
  have a2 := me_L
  clear hM hf hR
  go_enter Tryd.func14, Tryd.ntmps14
  go_wp2_with fail
  go_region_with (go_at_call 76; refine (hq.out _ ?_).mono ?_; (first | exact hX.out | exact below_drew hX.out | exact pw_below_drewN hX.out _); rintro e w6 ⟨rfl, rfl⟩)
  all_goals (go_wp2_with fail)
  all_goals
    go_ret
    exact ⟨rfl, by first | exact hX.out | exact below_drew hX.out | exact pw_below_drewN hX.out _⟩
set_option maxHeartbeats 4000000 in
set_option maxRecDepth 100000 in
theorem mt_lt_bad (g : Nat) (key : ByteArray) (hkey : key.size ≤ maxLen) (A : Option Addr) (c : Nat) (b N : Nat) (f : ByteArray → Option ByteArray) (w : World) (hM : M w b N f) (hR : Rq w g key o_lt A 1 c) (u : ByteArray) (hf : f key = some u) (hu : u.size ≤ 140737488351232) (hw : whole u = none) (hV : Vars.Vars w) :
    Calls Tryd.prog 14 #[.pointer (some ⟨g, 0, none⟩), .iface 45 (.map (some b))] w fun e w' => e = .returned (.bool (false)) ∧ Below w.heap.size w w' := by
  obtain ⟨z0, z1, _⟩ := hR.c
  have hq := Aside0.mk (fun W (hb : Below w.heap.size w W) => lookup_some b N f key hkey u hf W (M_below hM hb))
  have hp := Aside0.mk (fun W (hb : Below w.heap.size w W) => parse_bad u hu hw W (hV.below hb))
  have hX := Aside0.mk (Below.refl w.heap.size w)
  have a1 := na_L
  have a2 := me_L
  clear hM hf hR
  go_enter Tryd.func14, Tryd.ntmps14
  go_wp2_with fail
  go_region_with (go_at_call 76; refine (hq.out _ ?_).mono ?_; (first | exact hX.out | exact below_drew hX.out | exact pw_below_drewN hX.out _); rintro e w6 ⟨rfl, rfl⟩)
  all_goals (go_wp2_with fail)
  all_goals
    refine (hp.out _ (by first | exact hX.out | exact below_drew hX.out | exact pw_below_drewN hX.out _)).mono ?_
    rintro e w7 ⟨q, p, rfl, hb⟩
    replace hb := Aside0.mk hb
    clear z0 z1
    go_wp2_with fail
    go_ret
    exact ⟨rfl, by first | exact below_then hX.out hX.out.size hb.out | exact below_then (below_drew hX.out) (below_drew hX.out).size hb.out | exact below_then (pw_below_drewN hX.out _) (pw_below_drewN hX.out _).size hb.out⟩
set_option maxHeartbeats 4000000 in
set_option maxRecDepth 100000 in
theorem mt_lt_num (g : Nat) (key : ByteArray) (hkey : key.size ≤ maxLen) (A : Option Addr) (c : Nat) (b N : Nat) (f : ByteArray → Option ByteArray) (w : World) (hM : M w b N f) (hR : Rq w g key o_lt A 1 c) (u : ByteArray) (hf : f key = some u) (hu : u.size ≤ 140737488351232) (x : Int) (hw : whole u = some x) (v : ByteArray) (hv : v.size ≤ 140737488351232) (y : Int) (hy : whole v = some y) (hC : Kd.string.C w A 1 [v]) :
    Calls Tryd.prog 14 #[.pointer (some ⟨g, 0, none⟩), .iface 45 (.map (some b))] w fun e w' => e = .returned (.bool (decide (x < y))) ∧ Below w.heap.size w w' := by
  obtain ⟨z0, z1, _⟩ := hR.c
  have hq := Aside0.mk (fun W (hb : Below w.heap.size w W) => lookup_some b N f key hkey u hf W (M_below hM hb))
  have hp := Aside0.mk (fun W => parse_ok u hu x hw W)
  have hp2 := Aside0.mk (fun W => parse_ok v hv y hy W)
  have hRa := Aside0.mk hR
  replace hC := Aside0.mk hC
  replace hw := Aside0.mk hw
  replace hy := Aside0.mk hy
  have hX := Aside0.mk (Below.refl w.heap.size w)
  have a1 := na_L
  have a2 := me_L
  clear hM hf hR
  go_enter Tryd.func14, Tryd.ntmps14
  go_wp2_with fail
  go_region_with (go_at_call 76; refine (hq.out _ ?_).mono ?_; (first | exact hX.out | exact below_drew hX.out | exact pw_below_drewN hX.out _); rintro e w6 ⟨rfl, rfl⟩)
  all_goals (go_wp2_with fail)
  all_goals
    refine (hp.out _).mono ?_
    rintro e w7 ⟨rfl, hb⟩
    have hB7 : Below w.heap.size w w7 := by first | exact below_then hX.out hX.out.size hb | exact below_then (below_drew hX.out) (below_drew hX.out).size hb | exact below_then (pw_below_drewN hX.out _) (pw_below_drewN hX.out _).size hb
    clear z0 z1 hb
    obtain ⟨z0, z1, z2⟩ := (hRa.out.below hB7).c
    replace hB7 := Aside0.mk hB7
    go_wp2_with fail
    go_loopw [12, 13, 119] (fun er rv i wr => ∃ k : Nat, k ≤ 1 ∧ i = .int .i64 (k : Int) ∧ er = .nilIface ∧ rv = .int .i64 (if k = 0 then 0 else y) ∧ Aside0 (Below w.heap.size w wr)) (fun _ _ i _ => 1 - (intOf i).toNat)
    case atStart => exact ⟨0, by omega, rfl, rfl, rfl, hB7⟩
    case round =>
      clear z0 z1 z2
      obtain ⟨k, hk, rfl, rfl, rfl, hB⟩ := hrel
      obtain ⟨z0, z1, z2⟩ := (hRa.out.below hB.out).c
      by_cases hk2 : k < 1
      · obtain ⟨ad, e1, hcell⟩ := Kd.at_string hC.out (k : Int) (Int.natCast_nonneg k) (by omega)
        have hr : rdOf ByteArray.empty [v] (k : Int) = v := by rw [show k = 0 by omega]; rfl
        rw [hr, Int.toNat_natCast] at hcell
        cases e1
        replace hcell := (hB.out.cell (World.block_lt_of_cell? w _ hcell)).trans hcell
        clear hr
        go_wp2_with fail
        refine (hp2.out _).mono ?_
        rintro e w8 ⟨rfl, hb⟩
        replace hB := Aside0.mk (below_then hB.out hB.out.size hb)
        clear hb hcell z0 z1 z2
        go_wp2_with fail
        go_roundw
        case rel => exact ⟨k + 1, by omega, by go_num, rfl, by rw [if_neg (by omega)], hB⟩
        case measure => simp [intOf]; omega
      · have hk3 : k = 1 := by omega
        subst hk3
        rw [if_neg (show ¬ (1 : Nat) = 0 by decide)]
        go_wp2_with fail
        all_goals
          go_ret
          exact ⟨by first | rfl | (simp [*]; done), hB.out⟩
end Go.Proofs.YtjlmhfciidfjiaaDoor.NdS
