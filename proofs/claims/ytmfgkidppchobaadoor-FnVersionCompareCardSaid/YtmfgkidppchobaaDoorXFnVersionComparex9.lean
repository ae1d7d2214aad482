/- A text of this session: the functions of the law FnVersionCompare, by a program that calls the kit's print and lays this session's own contracts of single functions beside. -/
import Derived.Test.YtmfgkidppchobaaDoorXFnVersionComparex0
import Derived.Test.YtmfgkidppchobaaDoorXFnVersionComparex8
namespace Go.Proofs.YtmfgkidppchobaaDoor.XFnVersionCompare
open Go.RowKit Go.Proofs.YtmfgkidppchobaaDoorW.PrintWords Go.Proofs.YtmfgkidppchobaaDoorW.PrintLast Go.Proofs.YtmfgkidppchobaaDoorW.PrintMore
attribute [local go_sem] max2_int min2_int max_two min_two max_three min_three max_four min_four
set_option linter.unusedVariables false
set_option linter.unusedSimpArgs false
mutual
def spec_Versions.l0 : Nat → Int → List Int → Bool → ByteArray → ByteArray → List Int → Bool → ByteArray → ByteArray → Option (Int)
 | 0, _, _, _, _, _, _, _, _, _ => none
 | k + 1, x5, x238000, x238001, x238002, x238003, x239000, x239001, x239002, x239003 => if x5 < (x238000.length : Int) then (spec_Versions.j1 k x5 true x238000 x238001 x238002 x238003 x239000 x239001 x239002 x239003) else (spec_Versions.j1 k x5 (decide (x5 < (x239000.length : Int))) x238000 x238001 x238002 x238003 x239000 x239001 x239002 x239003)
def spec_Versions.j1 : Nat → Int → Bool → List Int → Bool → ByteArray → ByteArray → List Int → Bool → ByteArray → ByteArray → Option (Int)
 | 0, _, _, _, _, _, _, _, _, _, _ => none
 | k + 1, x5, x17, x238000, x238001, x238002, x238003, x239000, x239001, x239002, x239003 => if x17 = true then ((spec_Version_part.f x238000 x238001 x238002 x238003 x5).bind fun t240 => ((spec_Version_part.f x239000 x239001 x239002 x239003 x5).bind fun t241 => (if t240 < t241 then (some (-1)) else ((spec_Version_part.f x238000 x238001 x238002 x238003 x5).bind fun t242 => ((spec_Version_part.f x239000 x239001 x239002 x239003 x5).bind fun t243 => (if t242 > t243 then (some 1) else (spec_Versions.l0 k (wrap64 (x5 + 1)) x238000 x238001 x238002 x238003 x239000 x239001 x239002 x239003))))))) else (if x238001 = true then (if x239001 = true then ((spec_VerPrecedence.f k x238002 x239002).bind fun t239 => (some t239)) else (some 0)) else (some 0))
end
def spec_Versions.f (k : Nat) (l0_0 : List Int) (a0_1 : Bool) (a0_2 : ByteArray) (a0_3 : ByteArray) (l1_0 : List Int) (a1_1 : Bool) (a1_2 : ByteArray) (a1_3 : ByteArray) : Option (Int) := spec_Versions.l0 k 0 l0_0 a0_1 a0_2 a0_3 l1_0 a1_1 a1_2 a1_3
set_option maxHeartbeats 8000000 in
set_option maxRecDepth 100000 in
theorem spec_Versions.calls (k : Nat) (A0_0 : Option Addr) (c0_0 : Nat) (l0_0 : List Int) (a0_1 : Bool) (a0_2 : ByteArray) (a0_3 : ByteArray) (A1_0 : Option Addr) (c1_0 : Nat) (l1_0 : List Int) (a1_1 : Bool) (a1_2 : ByteArray) (a1_3 : ByteArray) (r : Int) (w : World) (hr0_0 : Kd.C (Kd.int .u64) w A0_0 l0_0.length l0_0) (hc0_0 : l0_0.length ≤ c0_0) (hr1_0 : Kd.C (Kd.int .u64) w A1_0 l1_0.length l1_0) (hc1_0 : l1_0.length ≤ c1_0) (h : spec_Versions.f k l0_0 a0_1 a0_2 a0_3 l1_0 a1_1 a1_2 a1_3 = some r) :
  Calls Tryd.prog 12 #[.agg #[.slice A0_0 l0_0.length c0_0, .bool a0_1, .string a0_2, .string a0_3], .agg #[.slice A1_0 l1_0.length c1_0, .bool a1_1, .string a1_2, .string a1_3]] w fun e w' => e = .returned (.int .i64 r) ∧ Below w.heap.size w w' := by
 have hu25 := Tryd.underlying25
 have HR0_0 := Aside0.mk hr0_0
 have HC0_0 := Aside0.mk hc0_0
 clear hr0_0 hc0_0
 have HR1_0 := Aside0.mk hr1_0
 have HC1_0 := Aside0.mk hc1_0
 clear hr1_0 hc1_0
 have HB := Aside0.mk (Below.refl w.heap.size w)
 have H : (spec_Versions.l0 k 0 l0_0 a0_1 a0_2 a0_3 l1_0 a1_1 a1_2 a1_3) = some r := h
 clear h
 have H' := Aside0.mk H
 clear H
 go_enter Tryd.func12, Tryd.ntmps12
 go_wp2_with (first | ((with_reducible refine gate_dst (N := 2) rfl ?_); (try (refine gate_guard (by rfl) ?_; dsimp only)); refine box_event ?hg (N := 2) ?hd (cs := #[.slice A0_0 l0_0.length c0_0, .bool a0_1, .string a0_2, .string a0_3]) (t := 25) ?hr ?_; (case hd => rfl); (case hg => rfl); (case hr => first | (go_simp; done) | (go_simp; rfl)); intro gb237 hg w3 hbox hb; have n0_ := Aside0.mk (below_step (by repeat (first | (with_reducible first | exact HB.out | apply below_alloc | apply pw_below_drewN | apply below_drew1) | exact HB.out)) hb); have n1_ := Aside0.mk (hbox); have n2_ := Aside0.mk ((by rw [hg]; exact (below_size (by repeat (first | (with_reducible first | exact HB.out | apply below_alloc | apply pw_below_drewN | apply below_drew1) | exact HB.out))) : w.heap.size ≤ gb237)); have n3_ := Aside0.mk ((by rw [hg]; exact (below_size (by repeat (first | (with_reducible first | exact HB.out | apply below_alloc | apply pw_below_drewN | apply below_drew1) | exact HB.out))) : w.heap.size ≤ gb237)); clear HB; have HB := n0_; have BK237 := n1_; have GW237 := n2_; have GE237 := n3_; clear n0_ n1_ n2_ n3_; clear hb hbox hg) | ((with_reducible refine gate_dst (N := 3) rfl ?_); (try (refine gate_guard (by rfl) ?_; dsimp only)); refine box_event ?hg (N := 3) ?hd (cs := #[.slice A1_0 l1_0.length c1_0, .bool a1_1, .string a1_2, .string a1_3]) (t := 25) ?hr ?_; (case hd => rfl); (case hg => rfl); (case hr => first | (go_simp; done) | (go_simp; rfl)); intro gb238 hg w4 hbox hb; have n0_ := Aside0.mk (blk_below (g := gb237) (o := .cells #[.slice A0_0 l0_0.length c0_0, .bool a0_1, .string a0_2, .string a0_3] 25 (0, 0)) (by (with_reducible repeat (first | refine blk_drewN ?_ _ | refine blk_drew ?_ | refine blk_alloc ?_ _)); exact BK237.out) hb); have n1_ := Aside0.mk (below_step (by repeat (first | (with_reducible first | exact HB.out | apply below_alloc | apply pw_below_drewN | apply below_drew1 | refine below_set ?_ GE237.out) | exact HB.out)) hb); have n2_ := Aside0.mk (hbox); have n3_ := Aside0.mk ((by rw [hg]; exact (below_size (by repeat (first | (with_reducible first | exact HB.out | apply below_alloc | apply pw_below_drewN | apply below_drew1 | refine below_set ?_ GE237.out) | exact HB.out))) : w.heap.size ≤ gb238)); have n4_ := Aside0.mk ((by rw [hg]; exact (below_size (by repeat (first | (with_reducible first | exact HB.out | apply below_alloc | apply pw_below_drewN | apply below_drew1 | refine below_set ?_ GE237.out) | exact HB.out))) : w.heap.size ≤ gb238)); have n5_ := Aside0.mk ((by rw [hg]; exact Nat.ne_of_lt (blk_lt (g := gb237) (o := .cells #[.slice A0_0 l0_0.length c0_0, .bool a0_1, .string a0_2, .string a0_3] 25 (0, 0)) (by (with_reducible repeat (first | refine blk_drewN ?_ _ | refine blk_drew ?_ | refine blk_alloc ?_ _)); exact BK237.out)) : gb237 ≠ gb238)); have n6_ := Aside0.mk ((by rw [hg]; exact Nat.ne_of_gt (blk_lt (g := gb237) (o := .cells #[.slice A0_0 l0_0.length c0_0, .bool a0_1, .string a0_2, .string a0_3] 25 (0, 0)) (by (with_reducible repeat (first | refine blk_drewN ?_ _ | refine blk_drew ?_ | refine blk_alloc ?_ _)); exact BK237.out)) : gb238 ≠ gb237)); clear BK237; clear HB; have BK237 := n0_; have HB := n1_; have BK238 := n2_; have GW238 := n3_; have GE238 := n4_; have NB237_238 := n5_; have NB238_237 := n6_; clear n0_ n1_ n2_ n3_ n4_ n5_ n6_; clear hb hbox hg))
 go_loopg [5] k (fun kq v5 w' => ∃ (x5_1 : Int), v5 = .int .i64 x5_1 ∧ Aside0 (spec_Versions.l0 kq x5_1 l0_0 a0_1 a0_2 a0_3 l1_0 a1_1 a1_2 a1_3 = some r) ∧ Aside0 (kq ≤ k) ∧ Aside0 (w'.heap[gb237]? = some (.cells #[(.slice A0_0 l0_0.length c0_0), .bool a0_1, .string a0_2, .string a0_3] 25 (0, 0))) ∧ Aside0 (w'.heap[gb238]? = some (.cells #[(.slice A1_0 l1_0.length c1_0), .bool a1_1, .string a1_2, .string a1_3] 25 (0, 0))) ∧ Aside0 (Below w.heap.size w w'))
 case atStart => exact ⟨(0), (by first | rfl | (simp; done) | (simp [*]; done)), H', ⟨Nat.le_refl _⟩, ⟨by (with_reducible repeat (first | refine blk_drewN ?_ _ | refine blk_drew ?_ | refine blk_alloc ?_ _)); exact BK237.out⟩, ⟨by (with_reducible repeat (first | refine blk_drewN ?_ _ | refine blk_drew ?_ | refine blk_alloc ?_ _)); exact BK238.out⟩, ⟨by repeat (first | (with_reducible first | exact HB.out | apply below_alloc | apply pw_below_drewN | apply below_drew1 | refine below_set ?_ GE237.out | refine below_set ?_ GE238.out) | exact HB.out)⟩⟩
 case round =>
  clear H'
  try clear c1
  try clear p2
  obtain ⟨x5_1, rfl, HA, HK1, BK237, BK238, HB⟩ := hrel
  cases gk with
  | zero => exact absurd HA.out (by simp [spec_Versions.l0])
  | succ k1 =>
   have H := HA.out
   clear HA
   simp only [spec_Versions.l0] at H
   have HC5 := Aside0.mk H
   clear H
   go_upto_region 2 with (fail)
   go_cut [17] (fun v17 wc => ∃ (kq : Nat) (x17_4 : Bool), v17 = .bool x17_4 ∧ Aside0 (spec_Versions.j1 kq x5_1 x17_4 l0_0 a0_1 a0_2 a0_3 l1_0 a1_1 a1_2 a1_3 = some r) ∧ Aside0 (kq ≤ k1) ∧ Aside0 (wc.heap[gb237]? = some (.cells #[(.slice A0_0 l0_0.length c0_0), .bool a0_1, .string a0_2, .string a0_3] 25 (0, 0))) ∧ Aside0 (wc.heap[gb238]? = some (.cells #[(.slice A1_0 l1_0.length c1_0), .bool a1_1, .string a1_2, .string a1_3] 25 (0, 0))) ∧ Aside0 (Below w.heap.size w wc))
   case first =>
    have H := HC5.out
    clear HC5
    by_cases c6 : x5_1 < (l0_0.length : Int)
    ·rw [if_pos c6] at H
     have c6b0 : decide (x5_1 < (l0_0.length : Int)) = true := decide_eq_true c6
     clear c6
     (first | rw [c6b0] | (simp only [i64_w, i32_w]; rw [c6b0]) | skip)
     have H' := Aside0.mk H
     clear H
     have hnb7 := NB237_238.out
     have hnc7 := NB238_237.out
     have hcz8_0 : wr.cell? ⟨gb237, 0, none⟩ = some (.slice A0_0 l0_0.length c0_0) := (blk_cell BK237.out 0).trans rfl
     have hcz8_1 : wr.cell? ⟨gb237, 1, none⟩ = some (.bool a0_1) := (blk_cell BK237.out 1).trans rfl
     have hcz8_2 : wr.cell? ⟨gb237, 2, none⟩ = some (.string a0_2) := (blk_cell BK237.out 2).trans rfl
     have hcz8_3 : wr.cell? ⟨gb237, 3, none⟩ = some (.string a0_3) := (blk_cell BK237.out 3).trans rfl
     have hfz8_0 := blk_frozen BK237.out 0
     have hfz8_1 := blk_frozen BK237.out 1
     have hfz8_2 := blk_frozen BK237.out 2
     have hfz8_3 := blk_frozen BK237.out 3
     go_wp2
     go_meet
     case rel => exact ⟨_, (true), (by first | rfl | (simp; done) | (simp [*]; done)), H', ⟨by have := HK1.out; first | omega | exact Nat.le_refl _⟩, ⟨by (with_reducible repeat (first | refine blk_drewN ?_ _ | refine blk_drew ?_ | refine blk_alloc ?_ _)); exact BK237.out⟩, ⟨by (with_reducible repeat (first | refine blk_drewN ?_ _ | refine blk_drew ?_ | refine blk_alloc ?_ _)); exact BK238.out⟩, ⟨by repeat (first | (with_reducible first | exact HB.out | apply below_alloc | apply pw_below_drewN | apply below_drew1 | refine below_set ?_ GE237.out | refine below_set ?_ GE238.out) | exact HB.out)⟩⟩
    ·rw [if_neg c6] at H
     have c6b0 : decide (x5_1 < (l0_0.length : Int)) = false := decide_eq_false c6
     clear c6
     (first | rw [c6b0] | (simp only [i64_w, i32_w]; rw [c6b0]) | skip)
     have H' := Aside0.mk H
     clear H
     have hnb9 := NB237_238.out
     have hnc9 := NB238_237.out
     have hcz10_0 : wr.cell? ⟨gb237, 0, none⟩ = some (.slice A0_0 l0_0.length c0_0) := (blk_cell BK237.out 0).trans rfl
     have hcz10_1 : wr.cell? ⟨gb237, 1, none⟩ = some (.bool a0_1) := (blk_cell BK237.out 1).trans rfl
     have hcz10_2 : wr.cell? ⟨gb237, 2, none⟩ = some (.string a0_2) := (blk_cell BK237.out 2).trans rfl
     have hcz10_3 : wr.cell? ⟨gb237, 3, none⟩ = some (.string a0_3) := (blk_cell BK237.out 3).trans rfl
     have hfz10_0 := blk_frozen BK237.out 0
     have hfz10_1 := blk_frozen BK237.out 1
     have hfz10_2 := blk_frozen BK237.out 2
     have hfz10_3 := blk_frozen BK237.out 3
     have hcz11_0 : wr.cell? ⟨gb238, 0, none⟩ = some (.slice A1_0 l1_0.length c1_0) := (blk_cell BK238.out 0).trans rfl
     have hcz11_1 : wr.cell? ⟨gb238, 1, none⟩ = some (.bool a1_1) := (blk_cell BK238.out 1).trans rfl
     have hcz11_2 : wr.cell? ⟨gb238, 2, none⟩ = some (.string a1_2) := (blk_cell BK238.out 2).trans rfl
     have hcz11_3 : wr.cell? ⟨gb238, 3, none⟩ = some (.string a1_3) := (blk_cell BK238.out 3).trans rfl
     have hfz11_0 := blk_frozen BK238.out 0
     have hfz11_1 := blk_frozen BK238.out 1
     have hfz11_2 := blk_frozen BK238.out 2
     have hfz11_3 := blk_frozen BK238.out 3
     go_wp2
     go_meet
     case rel => exact ⟨_, (decide (x5_1 < (l1_0.length : Int))), (by first | rfl | (simp; done) | (simp [*]; done)), H', ⟨by have := HK1.out; first | omega | exact Nat.le_refl _⟩, ⟨by (with_reducible repeat (first | refine blk_drewN ?_ _ | refine blk_drew ?_ | refine blk_alloc ?_ _)); exact BK237.out⟩, ⟨by (with_reducible repeat (first | refine blk_drewN ?_ _ | refine blk_drew ?_ | refine blk_alloc ?_ _)); exact BK238.out⟩, ⟨by repeat (first | (with_reducible first | exact HB.out | apply below_alloc | apply pw_below_drewN | apply below_drew1 | refine below_set ?_ GE237.out | refine below_set ?_ GE238.out) | exact HB.out)⟩⟩
   case rest =>
    clear HC5
    try clear c1
    try clear p2
    try clear c6
    try clear c6b0
    try clear c7
    try clear c9
    try clear hcz10_0
    try clear hcz10_1
    try clear hcz10_2
    try clear hcz10_3
    try clear hcz11_0
    try clear hcz11_1
    try clear hcz11_2
    try clear hcz11_3
    try clear hcz8_0
    try clear hcz8_1
    try clear hcz8_2
    try clear hcz8_3
    try clear hfz10_0
    try clear hfz10_1
    try clear hfz10_2
    try clear hfz10_3
    try clear hfz11_0
    try clear hfz11_1
    try clear hfz11_2
    try clear hfz11_3
    try clear hfz8_0
    try clear hfz8_1
    try clear hfz8_2
    try clear hfz8_3
    try clear p2
    obtain ⟨kq, x17_4, rfl, HA, HJ4, BK237, BK238, HB⟩ := hcut
    cases kq with
    | zero => exact absurd HA.out (by simp [spec_Versions.j1])
    | succ kj4 =>
     have H := HA.out
     clear HA
     simp only [spec_Versions.j1] at H
     by_cases c12 : x17_4 = true
     ·subst c12
      have H1 : ((spec_Version_part.f l0_0 a0_1 a0_2 a0_3 x5_1).bind fun t240 => ((spec_Version_part.f l1_0 a1_1 a1_2 a1_3 x5_1).bind fun t241 => (if t240 < t241 then (some (-1)) else ((spec_Version_part.f l0_0 a0_1 a0_2 a0_3 x5_1).bind fun t242 => ((spec_Version_part.f l1_0 a1_1 a1_2 a1_3 x5_1).bind fun t243 => (if t242 > t243 then (some 1) else (spec_Versions.l0 kj4 (wrap64 (x5_1 + 1)) l0_0 a0_1 a0_2 a0_3 l1_0 a1_1 a1_2 a1_3))))))) = some r := by rw [if_pos rfl] at H; exact H
      clear H
      have H := H1
      clear H1
      replace H := Option.bind_eq_some_iff.mp H
      obtain ⟨t240, A130, H⟩ := H
      replace H : ((spec_Version_part.f l1_0 a1_1 a1_2 a1_3 x5_1).bind fun t241 => (if t240 < t241 then (some (-1)) else ((spec_Version_part.f l0_0 a0_1 a0_2 a0_3 x5_1).bind fun t242 => ((spec_Version_part.f l1_0 a1_1 a1_2 a1_3 x5_1).bind fun t243 => (if t242 > t243 then (some 1) else (spec_Versions.l0 kj4 (wrap64 (x5_1 + 1)) l0_0 a0_1 a0_2 a0_3 l1_0 a1_1 a1_2 a1_3)))))) = some r := H
      have A13 := Aside0.mk A130
      clear A130
      replace H := Option.bind_eq_some_iff.mp H
      obtain ⟨t241, A140, H⟩ := H
      replace H : (if t240 < t241 then (some (-1)) else ((spec_Version_part.f l0_0 a0_1 a0_2 a0_3 x5_1).bind fun t242 => ((spec_Version_part.f l1_0 a1_1 a1_2 a1_3 x5_1).bind fun t243 => (if t242 > t243 then (some 1) else (spec_Versions.l0 kj4 (wrap64 (x5_1 + 1)) l0_0 a0_1 a0_2 a0_3 l1_0 a1_1 a1_2 a1_3))))) = some r := H
      have A14 := Aside0.mk A140
      clear A140
      by_cases c15 : t240 < t241
      ·rw [if_pos c15] at H
       have c15b0 : decide (t240 < t241) = true := decide_eq_true c15
       clear c15
       obtain rfl := Option.some.inj H
       try go_wp2
       have n0_ := Aside0.mk (blk_drew BK237.out)
       have n1_ := Aside0.mk (blk_drew BK238.out)
       have n2_ := Aside0.mk (below_drew1 HB.out)
       clear BK237
       clear BK238
       clear HB
       have BK237 := n0_
       have BK238 := n1_
       have HB := n2_
       clear n0_ n1_ n2_
       refine start_ (n := 7) (S := fun w' => w'.cell? ⟨gb237, 0, none⟩ = some (.slice A0_0 l0_0.length c0_0) ∧ w'.cell? ⟨gb237, 1, none⟩ = some (.bool a0_1) ∧ w'.cell? ⟨gb237, 2, none⟩ = some (.string a0_2) ∧ w'.cell? ⟨gb237, 3, none⟩ = some (.string a0_3) ∧ w'.cell? ⟨gb238, 0, none⟩ = some (.slice A1_0 l1_0.length c1_0) ∧ w'.cell? ⟨gb238, 1, none⟩ = some (.bool a1_1) ∧ w'.cell? ⟨gb238, 2, none⟩ = some (.string a1_2) ∧ w'.cell? ⟨gb238, 3, none⟩ = some (.string a1_3)) (ds := []) #[false, false, false, false, false, false, false] (by kernel_rfl) rfl rfl ⟨(blk_cell BK237.out 0).trans rfl, (blk_cell BK237.out 1).trans rfl, (blk_cell BK237.out 2).trans rfl, (blk_cell BK237.out 3).trans rfl, (blk_cell BK238.out 0).trans rfl, (blk_cell BK238.out 1).trans rfl, (blk_cell BK238.out 2).trans rfl, (blk_cell BK238.out 3).trans rfl⟩ (fun hHeld => ?_)
       generalize wc.drew = w16 at BK237 BK238 HB hHeld ⊢
       refine pure_ (i := 1) (N := some 21) (v := ?_) (a' := ?_) #[false, true, false, false, false, false, false] rfl rfl (by kernel_rfl) (fun _ _ _ h => h) (Or.inl ⟨by rfl, ?_⟩) ?_ ?_
       rotate_left
       ·intro w'
        go_simp
        with_reducible rfl
       rotate_left
       ·simp only [Act.put, List.setIfInBounds_toArray, List.set_cons_zero, List.set_cons_succ, i64_w, i32_w]
        rfl
       refine pure_ (i := 4) (N := some 24) (v := ?_) (a' := ?_) #[false, true, false, false, true, false, false] rfl rfl (by kernel_rfl) (fun _ _ _ h => h) (Or.inl ⟨by rfl, ?_⟩) ?_ ?_
       rotate_left
       ·intro w'
        go_simp
        with_reducible rfl
       rotate_left
       ·simp only [Act.put, List.setIfInBounds_toArray, List.set_cons_zero, List.set_cons_succ, i64_w, i32_w]
        rfl
       refine take_ (i := 0) (N := some 20) (v := ?_) (a' := ?_) #[true, true, false, false, true, false, false] rfl rfl (by kernel_rfl) (fun _ _ _ h => h) (Or.inl ⟨by rfl, ?_⟩) hHeld ?_ ?_
       rotate_left
       ·rintro w' ⟨s0, s1, s2, s3, s4, s5, s6, s7⟩
        go_simp
        with_reducible rfl
       rotate_left
       ·simp only [Act.put, List.setIfInBounds_toArray, List.set_cons_zero, List.set_cons_succ, i64_w, i32_w]
        rfl
       refine take_ (i := 3) (N := some 23) (v := ?_) (a' := ?_) #[true, true, false, true, true, false, false] rfl rfl (by kernel_rfl) (fun _ _ _ h => h) (Or.inl ⟨by rfl, ?_⟩) hHeld ?_ ?_
       rotate_left
       ·rintro w' ⟨s0, s1, s2, s3, s4, s5, s6, s7⟩
        go_simp
        with_reducible rfl
       rotate_left
       ·simp only [Act.put, List.setIfInBounds_toArray, List.set_cons_zero, List.set_cons_succ, i64_w, i32_w]
        rfl
       refine one_ (i := 2) (N := some 22) #[true, true, true, true, true, false, false] rfl rfl (by kernel_rfl) (by decide) (fun K hK => ?_)
       refine goes_ Tryd.func31 (by kernel_rfl) rfl #[.agg #[.slice A0_0 l0_0.length c0_0, .bool a0_1, .string a0_2, .string a0_3], .int .i64 x5_1] (by rfl) rfl rfl (by (try simp only [List.map_toArray, List.map_cons, List.map_nil]); first | done | rfl | (simp only [List.length_drop, List.length_take]; rfl)) ?_
       with_reducible refine (spec_Version_part.calls _ _ l0_0 a0_1 a0_2 a0_3 x5_1 t240 _ ?side1 ?side2 A13.out).mono ?_
       (case side1 => repeat (first | exact (Kd.C_below HR0_0.out HB.out) | (with_reducible refine Kd.C_alloc ?_ _) | (with_reducible refine Kd.C_drewN ?_ _) | (with_reducible refine Kd.C_drew ?_)))
       (case side2 => exact HC0_0.out)
       rintro e w17 ⟨rfl, hb⟩
       refine ⟨_, rfl, ?_⟩
       have n0_ := Aside0.mk (blk_below (g := gb237) (o := .cells #[.slice A0_0 l0_0.length c0_0, .bool a0_1, .string a0_2, .string a0_3] 25 (0, 0)) (by (with_reducible repeat (first | refine blk_drewN ?_ _ | refine blk_drew ?_ | refine blk_alloc ?_ _)); exact BK237.out) hb)
       have n1_ := Aside0.mk (blk_below (g := gb238) (o := .cells #[.slice A1_0 l1_0.length c1_0, .bool a1_1, .string a1_2, .string a1_3] 25 (0, 0)) (by (with_reducible repeat (first | refine blk_drewN ?_ _ | refine blk_drew ?_ | refine blk_alloc ?_ _)); exact BK238.out) hb)
       have n2_ := Aside0.mk (below_step (by repeat (first | (with_reducible first | exact HB.out | apply below_alloc | apply pw_below_drewN | apply below_drew1 | refine below_set ?_ GE237.out | refine below_set ?_ GE238.out) | exact HB.out)) hb)
       clear BK237
       clear BK238
       clear HB
       have BK237 := n0_
       have BK238 := n1_
       have HB := n2_
       clear n0_ n1_ n2_
       (try clear hb)
       (try clear hb2)
       (try clear hk)
       (try clear hi)
       refine hK.out _ _ ⟨(blk_cell BK237.out 0).trans rfl, (blk_cell BK237.out 1).trans rfl, (blk_cell BK237.out 2).trans rfl, (blk_cell BK237.out 3).trans rfl, (blk_cell BK238.out 0).trans rfl, (blk_cell BK238.out 1).trans rfl, (blk_cell BK238.out 2).trans rfl, (blk_cell BK238.out 3).trans rfl⟩ (fun hHeld => ?_)
       clear hK K
       refine norm_ (a' := ?_) ?_ ?_
       rotate_left
       ·show Act.put _ (some 22) _ = _
        simp only [Act.put, List.setIfInBounds_toArray, List.set_cons_zero, List.set_cons_succ, i64_w, i32_w]
        rfl
       refine one_ (i := 5) (N := some 25) #[true, true, true, true, true, true, false] rfl rfl (by kernel_rfl) (by decide) (fun K hK => ?_)
       refine goes_ Tryd.func31 (by kernel_rfl) rfl #[.agg #[.slice A1_0 l1_0.length c1_0, .bool a1_1, .string a1_2, .string a1_3], .int .i64 x5_1] (by rfl) rfl rfl (by (try simp only [List.map_toArray, List.map_cons, List.map_nil]); first | done | rfl | (simp only [List.length_drop, List.length_take]; rfl)) ?_
       with_reducible refine (spec_Version_part.calls _ _ l1_0 a1_1 a1_2 a1_3 x5_1 t241 _ ?side1 ?side2 A14.out).mono ?_
       (case side1 => repeat (first | exact (Kd.C_below HR1_0.out HB.out) | (with_reducible refine Kd.C_alloc ?_ _) | (with_reducible refine Kd.C_drewN ?_ _) | (with_reducible refine Kd.C_drew ?_)))
       (case side2 => exact HC1_0.out)
       rintro e w18 ⟨rfl, hb⟩
       refine ⟨_, rfl, ?_⟩
       have n0_ := Aside0.mk (blk_below (g := gb237) (o := .cells #[.slice A0_0 l0_0.length c0_0, .bool a0_1, .string a0_2, .string a0_3] 25 (0, 0)) (by (with_reducible repeat (first | refine blk_drewN ?_ _ | refine blk_drew ?_ | refine blk_alloc ?_ _)); exact BK237.out) hb)
       have n1_ := Aside0.mk (blk_below (g := gb238) (o := .cells #[.slice A1_0 l1_0.length c1_0, .bool a1_1, .string a1_2, .string a1_3] 25 (0, 0)) (by (with_reducible repeat (first | refine blk_drewN ?_ _ | refine blk_drew ?_ | refine blk_alloc ?_ _)); exact BK238.out) hb)
       have n2_ := Aside0.mk (below_step (by repeat (first | (with_reducible first | exact HB.out | apply below_alloc | apply pw_below_drewN | apply below_drew1 | refine below_set ?_ GE237.out | refine below_set ?_ GE238.out) | exact HB.out)) hb)
       clear BK237
       clear BK238
       clear HB
       have BK237 := n0_
       have BK238 := n1_
       have HB := n2_
       clear n0_ n1_ n2_
       (try clear hb)
       (try clear hb2)
       (try clear hk)
       (try clear hi)
       refine hK.out _ _ ⟨(blk_cell BK237.out 0).trans rfl, (blk_cell BK237.out 1).trans rfl, (blk_cell BK237.out 2).trans rfl, (blk_cell BK237.out 3).trans rfl, (blk_cell BK238.out 0).trans rfl, (blk_cell BK238.out 1).trans rfl, (blk_cell BK238.out 2).trans rfl, (blk_cell BK238.out 3).trans rfl⟩ (fun hHeld => ?_)
       clear hK K
       refine norm_ (a' := ?_) ?_ ?_
       rotate_left
       ·show Act.put _ (some 25) _ = _
        simp only [Act.put, List.setIfInBounds_toArray, List.set_cons_zero, List.set_cons_succ, i64_w, i32_w]
        rfl
       refine pure_ (i := 6) (N := some 26) (v := ?_) (a' := ?_) #[true, true, true, true, true, true, true] rfl rfl (by kernel_rfl) (fun _ _ _ h => h) (Or.inl ⟨by rfl, ?_⟩) ?_ ?_
       rotate_left
       ·intro w'
        go_simp
        with_reducible rfl
       rotate_left
       ·simp only [Act.put, List.setIfInBounds_toArray, List.set_cons_zero, List.set_cons_succ, i64_w, i32_w]
        rfl
       refine done_ (by kernel_rfl) ?_
       try go_wp2
       go_ret
       exact ⟨by first | rfl | (simp [errW_none, errW_some] <;> rfl) | (simp [*, errW_none, errW_some] <;> rfl), by repeat (first | (with_reducible first | exact HB.out | apply below_alloc | apply pw_below_drewN | apply below_drew1 | refine below_set ?_ GE237.out | refine below_set ?_ GE238.out) | exact HB.out)⟩
      ·rw [if_neg c15] at H
       have c15b0 : decide (t240 < t241) = false := decide_eq_false c15
       clear c15
       replace H := Option.bind_eq_some_iff.mp H
       obtain ⟨t242, A190, H⟩ := H
       replace H : ((spec_Version_part.f l1_0 a1_1 a1_2 a1_3 x5_1).bind fun t243 => (if t242 > t243 then (some 1) else (spec_Versions.l0 kj4 (wrap64 (x5_1 + 1)) l0_0 a0_1 a0_2 a0_3 l1_0 a1_1 a1_2 a1_3))) = some r := H
       have A19 := Aside0.mk A190
       clear A190
       replace H := Option.bind_eq_some_iff.mp H
       obtain ⟨t243, A200, H⟩ := H
       replace H : (if t242 > t243 then (some 1) else (spec_Versions.l0 kj4 (wrap64 (x5_1 + 1)) l0_0 a0_1 a0_2 a0_3 l1_0 a1_1 a1_2 a1_3)) = some r := H
       have A20 := Aside0.mk A200
       clear A200
       by_cases c21 : t242 > t243
       ·rw [if_pos c21] at H
        have c21b0 : decide (t243 < t242) = true := decide_eq_true c21
        clear c21
        obtain rfl := Option.some.inj H
        try go_wp2
        have n0_ := Aside0.mk (blk_drew BK237.out)
        have n1_ := Aside0.mk (blk_drew BK238.out)
        have n2_ := Aside0.mk (below_drew1 HB.out)
        clear BK237
        clear BK238
        clear HB
        have BK237 := n0_
        have BK238 := n1_
        have HB := n2_
        clear n0_ n1_ n2_
        refine start_ (n := 7) (S := fun w' => w'.cell? ⟨gb237, 0, none⟩ = some (.slice A0_0 l0_0.length c0_0) ∧ w'.cell? ⟨gb237, 1, none⟩ = some (.bool a0_1) ∧ w'.cell? ⟨gb237, 2, none⟩ = some (.string a0_2) ∧ w'.cell? ⟨gb237, 3, none⟩ = some (.string a0_3) ∧ w'.cell? ⟨gb238, 0, none⟩ = some (.slice A1_0 l1_0.length c1_0) ∧ w'.cell? ⟨gb238, 1, none⟩ = some (.bool a1_1) ∧ w'.cell? ⟨gb238, 2, none⟩ = some (.string a1_2) ∧ w'.cell? ⟨gb238, 3, none⟩ = some (.string a1_3)) (ds := []) #[false, false, false, false, false, false, false] (by kernel_rfl) rfl rfl ⟨(blk_cell BK237.out 0).trans rfl, (blk_cell BK237.out 1).trans rfl, (blk_cell BK237.out 2).trans rfl, (blk_cell BK237.out 3).trans rfl, (blk_cell BK238.out 0).trans rfl, (blk_cell BK238.out 1).trans rfl, (blk_cell BK238.out 2).trans rfl, (blk_cell BK238.out 3).trans rfl⟩ (fun hHeld => ?_)
        generalize wc.drew = w22 at BK237 BK238 HB hHeld ⊢
        refine pure_ (i := 1) (N := some 21) (v := ?_) (a' := ?_) #[false, true, false, false, false, false, false] rfl rfl (by kernel_rfl) (fun _ _ _ h => h) (Or.inl ⟨by rfl, ?_⟩) ?_ ?_
        rotate_left
        ·intro w'
         go_simp
         with_reducible rfl
        rotate_left
        ·simp only [Act.put, List.setIfInBounds_toArray, List.set_cons_zero, List.set_cons_succ, i64_w, i32_w]
         rfl
        refine pure_ (i := 4) (N := some 24) (v := ?_) (a' := ?_) #[false, true, false, false, true, false, false] rfl rfl (by kernel_rfl) (fun _ _ _ h => h) (Or.inl ⟨by rfl, ?_⟩) ?_ ?_
        rotate_left
        ·intro w'
         go_simp
         with_reducible rfl
        rotate_left
        ·simp only [Act.put, List.setIfInBounds_toArray, List.set_cons_zero, List.set_cons_succ, i64_w, i32_w]
         rfl
        refine take_ (i := 0) (N := some 20) (v := ?_) (a' := ?_) #[true, true, false, false, true, false, false] rfl rfl (by kernel_rfl) (fun _ _ _ h => h) (Or.inl ⟨by rfl, ?_⟩) hHeld ?_ ?_
        rotate_left
        ·rintro w' ⟨s0, s1, s2, s3, s4, s5, s6, s7⟩
         go_simp
         with_reducible rfl
        rotate_left
        ·simp only [Act.put, List.setIfInBounds_toArray, List.set_cons_zero, List.set_cons_succ, i64_w, i32_w]
         rfl
        refine take_ (i := 3) (N := some 23) (v := ?_) (a' := ?_) #[true, true, false, true, true, false, false] rfl rfl (by kernel_rfl) (fun _ _ _ h => h) (Or.inl ⟨by rfl, ?_⟩) hHeld ?_ ?_
        rotate_left
        ·rintro w' ⟨s0, s1, s2, s3, s4, s5, s6, s7⟩
         go_simp
         with_reducible rfl
        rotate_left
        ·simp only [Act.put, List.setIfInBounds_toArray, List.set_cons_zero, List.set_cons_succ, i64_w, i32_w]
         rfl
        refine one_ (i := 2) (N := some 22) #[true, true, true, true, true, false, false] rfl rfl (by kernel_rfl) (by decide) (fun K hK => ?_)
        refine goes_ Tryd.func31 (by kernel_rfl) rfl #[.agg #[.slice A0_0 l0_0.length c0_0, .bool a0_1, .string a0_2, .string a0_3], .int .i64 x5_1] (by rfl) rfl rfl (by (try simp only [List.map_toArray, List.map_cons, List.map_nil]); first | done | rfl | (simp only [List.length_drop, List.length_take]; rfl)) ?_
        with_reducible refine (spec_Version_part.calls _ _ l0_0 a0_1 a0_2 a0_3 x5_1 t240 _ ?side1 ?side2 A13.out).mono ?_
        (case side1 => repeat (first | exact (Kd.C_below HR0_0.out HB.out) | (with_reducible refine Kd.C_alloc ?_ _) | (with_reducible refine Kd.C_drewN ?_ _) | (with_reducible refine Kd.C_drew ?_)))
        (case side2 => exact HC0_0.out)
        rintro e w23 ⟨rfl, hb⟩
        refine ⟨_, rfl, ?_⟩
        have n0_ := Aside0.mk (blk_below (g := gb237) (o := .cells #[.slice A0_0 l0_0.length c0_0, .bool a0_1, .string a0_2, .string a0_3] 25 (0, 0)) (by (with_reducible repeat (first | refine blk_drewN ?_ _ | refine blk_drew ?_ | refine blk_alloc ?_ _)); exact BK237.out) hb)
        have n1_ := Aside0.mk (blk_below (g := gb238) (o := .cells #[.slice A1_0 l1_0.length c1_0, .bool a1_1, .string a1_2, .string a1_3] 25 (0, 0)) (by (with_reducible repeat (first | refine blk_drewN ?_ _ | refine blk_drew ?_ | refine blk_alloc ?_ _)); exact BK238.out) hb)
        have n2_ := Aside0.mk (below_step (by repeat (first | (with_reducible first | exact HB.out | apply below_alloc | apply pw_below_drewN | apply below_drew1 | refine below_set ?_ GE237.out | refine below_set ?_ GE238.out) | exact HB.out)) hb)
        clear BK237
        clear BK238
        clear HB
        have BK237 := n0_
        have BK238 := n1_
        have HB := n2_
        clear n0_ n1_ n2_
        (try clear hb)
        (try clear hb2)
        (try clear hk)
        (try clear hi)
        refine hK.out _ _ ⟨(blk_cell BK237.out 0).trans rfl, (blk_cell BK237.out 1).trans rfl, (blk_cell BK237.out 2).trans rfl, (blk_cell BK237.out 3).trans rfl, (blk_cell BK238.out 0).trans rfl, (blk_cell BK238.out 1).trans rfl, (blk_cell BK238.out 2).trans rfl, (blk_cell BK238.out 3).trans rfl⟩ (fun hHeld => ?_)
        clear hK K
        refine norm_ (a' := ?_) ?_ ?_
        rotate_left
        ·show Act.put _ (some 22) _ = _
         simp only [Act.put, List.setIfInBounds_toArray, List.set_cons_zero, List.set_cons_succ, i64_w, i32_w]
         rfl
        refine one_ (i := 5) (N := some 25) #[true, true, true, true, true, true, false] rfl rfl (by kernel_rfl) (by decide) (fun K hK => ?_)
        refine goes_ Tryd.func31 (by kernel_rfl) rfl #[.agg #[.slice A1_0 l1_0.length c1_0, .bool a1_1, .string a1_2, .string a1_3], .int .i64 x5_1] (by rfl) rfl rfl (by (try simp only [List.map_toArray, List.map_cons, List.map_nil]); first | done | rfl | (simp only [List.length_drop, List.length_take]; rfl)) ?_
        with_reducible refine (spec_Version_part.calls _ _ l1_0 a1_1 a1_2 a1_3 x5_1 t241 _ ?side1 ?side2 A14.out).mono ?_
        (case side1 => repeat (first | exact (Kd.C_below HR1_0.out HB.out) | (with_reducible refine Kd.C_alloc ?_ _) | (with_reducible refine Kd.C_drewN ?_ _) | (with_reducible refine Kd.C_drew ?_)))
        (case side2 => exact HC1_0.out)
        rintro e w24 ⟨rfl, hb⟩
        refine ⟨_, rfl, ?_⟩
        have n0_ := Aside0.mk (blk_below (g := gb237) (o := .cells #[.slice A0_0 l0_0.length c0_0, .bool a0_1, .string a0_2, .string a0_3] 25 (0, 0)) (by (with_reducible repeat (first | refine blk_drewN ?_ _ | refine blk_drew ?_ | refine blk_alloc ?_ _)); exact BK237.out) hb)
        have n1_ := Aside0.mk (blk_below (g := gb238) (o := .cells #[.slice A1_0 l1_0.length c1_0, .bool a1_1, .string a1_2, .string a1_3] 25 (0, 0)) (by (with_reducible repeat (first | refine blk_drewN ?_ _ | refine blk_drew ?_ | refine blk_alloc ?_ _)); exact BK238.out) hb)
        have n2_ := Aside0.mk (below_step (by repeat (first | (with_reducible first | exact HB.out | apply below_alloc | apply pw_below_drewN | apply below_drew1 | refine below_set ?_ GE237.out | refine below_set ?_ GE238.out) | exact HB.out)) hb)
        clear BK237
        clear BK238
        clear HB
        have BK237 := n0_
        have BK238 := n1_
        have HB := n2_
        clear n0_ n1_ n2_
        (try clear hb)
        (try clear hb2)
        (try clear hk)
        (try clear hi)
        refine hK.out _ _ ⟨(blk_cell BK237.out 0).trans rfl, (blk_cell BK237.out 1).trans rfl, (blk_cell BK237.out 2).trans rfl, (blk_cell BK237.out 3).trans rfl, (blk_cell BK238.out 0).trans rfl, (blk_cell BK238.out 1).trans rfl, (blk_cell BK238.out 2).trans rfl, (blk_cell BK238.out 3).trans rfl⟩ (fun hHeld => ?_)
        clear hK K
        refine norm_ (a' := ?_) ?_ ?_
        rotate_left
        ·show Act.put _ (some 25) _ = _
         simp only [Act.put, List.setIfInBounds_toArray, List.set_cons_zero, List.set_cons_succ, i64_w, i32_w]
         rfl
        refine pure_ (i := 6) (N := some 26) (v := ?_) (a' := ?_) #[true, true, true, true, true, true, true] rfl rfl (by kernel_rfl) (fun _ _ _ h => h) (Or.inl ⟨by rfl, ?_⟩) ?_ ?_
        rotate_left
        ·intro w'
         go_simp
         with_reducible rfl
        rotate_left
        ·simp only [Act.put, List.setIfInBounds_toArray, List.set_cons_zero, List.set_cons_succ, i64_w, i32_w]
         rfl
        refine done_ (by kernel_rfl) ?_
        try go_wp2
        have n0_ := Aside0.mk (blk_drew BK237.out)
        have n1_ := Aside0.mk (blk_drew BK238.out)
        have n2_ := Aside0.mk (below_drew1 HB.out)
        clear BK237
        clear BK238
        clear HB
        have BK237 := n0_
        have BK238 := n1_
        have HB := n2_
        clear n0_ n1_ n2_
        refine start_ (n := 7) (S := fun w' => w'.cell? ⟨gb237, 0, none⟩ = some (.slice A0_0 l0_0.length c0_0) ∧ w'.cell? ⟨gb237, 1, none⟩ = some (.bool a0_1) ∧ w'.cell? ⟨gb237, 2, none⟩ = some (.string a0_2) ∧ w'.cell? ⟨gb237, 3, none⟩ = some (.string a0_3) ∧ w'.cell? ⟨gb238, 0, none⟩ = some (.slice A1_0 l1_0.length c1_0) ∧ w'.cell? ⟨gb238, 1, none⟩ = some (.bool a1_1) ∧ w'.cell? ⟨gb238, 2, none⟩ = some (.string a1_2) ∧ w'.cell? ⟨gb238, 3, none⟩ = some (.string a1_3)) (ds := []) #[false, false, false, false, false, false, false] (by kernel_rfl) rfl rfl ⟨(blk_cell BK237.out 0).trans rfl, (blk_cell BK237.out 1).trans rfl, (blk_cell BK237.out 2).trans rfl, (blk_cell BK237.out 3).trans rfl, (blk_cell BK238.out 0).trans rfl, (blk_cell BK238.out 1).trans rfl, (blk_cell BK238.out 2).trans rfl, (blk_cell BK238.out 3).trans rfl⟩ (fun hHeld => ?_)
        generalize w24.drew = w25 at BK237 BK238 HB hHeld ⊢
        refine pure_ (i := 1) (N := some 28) (v := ?_) (a' := ?_) #[false, true, false, false, false, false, false] rfl rfl (by kernel_rfl) (fun _ _ _ h => h) (Or.inl ⟨by rfl, ?_⟩) ?_ ?_
        rotate_left
        ·intro w'
         go_simp
         with_reducible rfl
        rotate_left
        ·simp only [Act.put, List.setIfInBounds_toArray, List.set_cons_zero, List.set_cons_succ, i64_w, i32_w]
         rfl
        refine pure_ (i := 4) (N := some 31) (v := ?_) (a' := ?_) #[false, true, false, false, true, false, false] rfl rfl (by kernel_rfl) (fun _ _ _ h => h) (Or.inl ⟨by rfl, ?_⟩) ?_ ?_
        rotate_left
        ·intro w'
         go_simp
         with_reducible rfl
        rotate_left
        ·simp only [Act.put, List.setIfInBounds_toArray, List.set_cons_zero, List.set_cons_succ, i64_w, i32_w]
         rfl
        refine take_ (i := 0) (N := some 27) (v := ?_) (a' := ?_) #[true, true, false, false, true, false, false] rfl rfl (by kernel_rfl) (fun _ _ _ h => h) (Or.inl ⟨by rfl, ?_⟩) hHeld ?_ ?_
        rotate_left
        ·rintro w' ⟨s0, s1, s2, s3, s4, s5, s6, s7⟩
         go_simp
         with_reducible rfl
        rotate_left
        ·simp only [Act.put, List.setIfInBounds_toArray, List.set_cons_zero, List.set_cons_succ, i64_w, i32_w]
         rfl
        refine take_ (i := 3) (N := some 30) (v := ?_) (a' := ?_) #[true, true, false, true, true, false, false] rfl rfl (by kernel_rfl) (fun _ _ _ h => h) (Or.inl ⟨by rfl, ?_⟩) hHeld ?_ ?_
        rotate_left
        ·rintro w' ⟨s0, s1, s2, s3, s4, s5, s6, s7⟩
         go_simp
         with_reducible rfl
        rotate_left
        ·simp only [Act.put, List.setIfInBounds_toArray, List.set_cons_zero, List.set_cons_succ, i64_w, i32_w]
         rfl
        refine one_ (i := 2) (N := some 29) #[true, true, true, true, true, false, false] rfl rfl (by kernel_rfl) (by decide) (fun K hK => ?_)
        refine goes_ Tryd.func31 (by kernel_rfl) rfl #[.agg #[.slice A0_0 l0_0.length c0_0, .bool a0_1, .string a0_2, .string a0_3], .int .i64 x5_1] (by rfl) rfl rfl (by (try simp only [List.map_toArray, List.map_cons, List.map_nil]); first | done | rfl | (simp only [List.length_drop, List.length_take]; rfl)) ?_
        with_reducible refine (spec_Version_part.calls _ _ l0_0 a0_1 a0_2 a0_3 x5_1 t242 _ ?side1 ?side2 A19.out).mono ?_
        (case side1 => repeat (first | exact (Kd.C_below HR0_0.out HB.out) | (with_reducible refine Kd.C_alloc ?_ _) | (with_reducible refine Kd.C_drewN ?_ _) | (with_reducible refine Kd.C_drew ?_)))
        (case side2 => exact HC0_0.out)
        rintro e w26 ⟨rfl, hb⟩
        refine ⟨_, rfl, ?_⟩
        have n0_ := Aside0.mk (blk_below (g := gb237) (o := .cells #[.slice A0_0 l0_0.length c0_0, .bool a0_1, .string a0_2, .string a0_3] 25 (0, 0)) (by (with_reducible repeat (first | refine blk_drewN ?_ _ | refine blk_drew ?_ | refine blk_alloc ?_ _)); exact BK237.out) hb)
        have n1_ := Aside0.mk (blk_below (g := gb238) (o := .cells #[.slice A1_0 l1_0.length c1_0, .bool a1_1, .string a1_2, .string a1_3] 25 (0, 0)) (by (with_reducible repeat (first | refine blk_drewN ?_ _ | refine blk_drew ?_ | refine blk_alloc ?_ _)); exact BK238.out) hb)
        have n2_ := Aside0.mk (below_step (by repeat (first | (with_reducible first | exact HB.out | apply below_alloc | apply pw_below_drewN | apply below_drew1 | refine below_set ?_ GE237.out | refine below_set ?_ GE238.out) | exact HB.out)) hb)
        clear BK237
        clear BK238
        clear HB
        have BK237 := n0_
        have BK238 := n1_
        have HB := n2_
        clear n0_ n1_ n2_
        (try clear hb)
        (try clear hb2)
        (try clear hk)
        (try clear hi)
        refine hK.out _ _ ⟨(blk_cell BK237.out 0).trans rfl, (blk_cell BK237.out 1).trans rfl, (blk_cell BK237.out 2).trans rfl, (blk_cell BK237.out 3).trans rfl, (blk_cell BK238.out 0).trans rfl, (blk_cell BK238.out 1).trans rfl, (blk_cell BK238.out 2).trans rfl, (blk_cell BK238.out 3).trans rfl⟩ (fun hHeld => ?_)
        clear hK K
        refine norm_ (a' := ?_) ?_ ?_
        rotate_left
        ·show Act.put _ (some 29) _ = _
         simp only [Act.put, List.setIfInBounds_toArray, List.set_cons_zero, List.set_cons_succ, i64_w, i32_w]
         rfl
        refine one_ (i := 5) (N := some 32) #[true, true, true, true, true, true, false] rfl rfl (by kernel_rfl) (by decide) (fun K hK => ?_)
        refine goes_ Tryd.func31 (by kernel_rfl) rfl #[.agg #[.slice A1_0 l1_0.length c1_0, .bool a1_1, .string a1_2, .string a1_3], .int .i64 x5_1] (by rfl) rfl rfl (by (try simp only [List.map_toArray, List.map_cons, List.map_nil]); first | done | rfl | (simp only [List.length_drop, List.length_take]; rfl)) ?_
        with_reducible refine (spec_Version_part.calls _ _ l1_0 a1_1 a1_2 a1_3 x5_1 t243 _ ?side1 ?side2 A20.out).mono ?_
        (case side1 => repeat (first | exact (Kd.C_below HR1_0.out HB.out) | (with_reducible refine Kd.C_alloc ?_ _) | (with_reducible refine Kd.C_drewN ?_ _) | (with_reducible refine Kd.C_drew ?_)))
        (case side2 => exact HC1_0.out)
        rintro e w27 ⟨rfl, hb⟩
        refine ⟨_, rfl, ?_⟩
        have n0_ := Aside0.mk (blk_below (g := gb237) (o := .cells #[.slice A0_0 l0_0.length c0_0, .bool a0_1, .string a0_2, .string a0_3] 25 (0, 0)) (by (with_reducible repeat (first | refine blk_drewN ?_ _ | refine blk_drew ?_ | refine blk_alloc ?_ _)); exact BK237.out) hb)
        have n1_ := Aside0.mk (blk_below (g := gb238) (o := .cells #[.slice A1_0 l1_0.length c1_0, .bool a1_1, .string a1_2, .string a1_3] 25 (0, 0)) (by (with_reducible repeat (first | refine blk_drewN ?_ _ | refine blk_drew ?_ | refine blk_alloc ?_ _)); exact BK238.out) hb)
        have n2_ := Aside0.mk (below_step (by repeat (first | (with_reducible first | exact HB.out | apply below_alloc | apply pw_below_drewN | apply below_drew1 | refine below_set ?_ GE237.out | refine below_set ?_ GE238.out) | exact HB.out)) hb)
        clear BK237
        clear BK238
        clear HB
        have BK237 := n0_
        have BK238 := n1_
        have HB := n2_
        clear n0_ n1_ n2_
        (try clear hb)
        (try clear hb2)
        (try clear hk)
        (try clear hi)
        refine hK.out _ _ ⟨(blk_cell BK237.out 0).trans rfl, (blk_cell BK237.out 1).trans rfl, (blk_cell BK237.out 2).trans rfl, (blk_cell BK237.out 3).trans rfl, (blk_cell BK238.out 0).trans rfl, (blk_cell BK238.out 1).trans rfl, (blk_cell BK238.out 2).trans rfl, (blk_cell BK238.out 3).trans rfl⟩ (fun hHeld => ?_)
        clear hK K
        refine norm_ (a' := ?_) ?_ ?_
        rotate_left
        ·show Act.put _ (some 32) _ = _
         simp only [Act.put, List.setIfInBounds_toArray, List.set_cons_zero, List.set_cons_succ, i64_w, i32_w]
         rfl
        refine pure_ (i := 6) (N := some 33) (v := ?_) (a' := ?_) #[true, true, true, true, true, true, true] rfl rfl (by kernel_rfl) (fun _ _ _ h => h) (Or.inl ⟨by rfl, ?_⟩) ?_ ?_
        rotate_left
        ·intro w'
         go_simp
         with_reducible rfl
        rotate_left
        ·simp only [Act.put, List.setIfInBounds_toArray, List.set_cons_zero, List.set_cons_succ, i64_w, i32_w]
         rfl
        refine done_ (by kernel_rfl) ?_
        try go_wp2
        go_ret
        exact ⟨by first | rfl | (simp [errW_none, errW_some] <;> rfl) | (simp [*, errW_none, errW_some] <;> rfl), by repeat (first | (with_reducible first | exact HB.out | apply below_alloc | apply pw_below_drewN | apply below_drew1 | refine below_set ?_ GE237.out | refine below_set ?_ GE238.out) | exact HB.out)⟩
       ·rw [if_neg c21] at H
        have c21b0 : decide (t243 < t242) = false := decide_eq_false c21
        clear c21
        have H' := Aside0.mk H
        clear H
        try go_wp2
        have n0_ := Aside0.mk (blk_drew BK237.out)
        have n1_ := Aside0.mk (blk_drew BK238.out)
        have n2_ := Aside0.mk (below_drew1 HB.out)
        clear BK237
        clear BK238
        clear HB
        have BK237 := n0_
        have BK238 := n1_
        have HB := n2_
        clear n0_ n1_ n2_
        refine start_ (n := 7) (S := fun w' => w'.cell? ⟨gb237, 0, none⟩ = some (.slice A0_0 l0_0.length c0_0) ∧ w'.cell? ⟨gb237, 1, none⟩ = some (.bool a0_1) ∧ w'.cell? ⟨gb237, 2, none⟩ = some (.string a0_2) ∧ w'.cell? ⟨gb237, 3, none⟩ = some (.string a0_3) ∧ w'.cell? ⟨gb238, 0, none⟩ = some (.slice A1_0 l1_0.length c1_0) ∧ w'.cell? ⟨gb238, 1, none⟩ = some (.bool a1_1) ∧ w'.cell? ⟨gb238, 2, none⟩ = some (.string a1_2) ∧ w'.cell? ⟨gb238, 3, none⟩ = some (.string a1_3)) (ds := []) #[false, false, false, false, false, false, false] (by kernel_rfl) rfl rfl ⟨(blk_cell BK237.out 0).trans rfl, (blk_cell BK237.out 1).trans rfl, (blk_cell BK237.out 2).trans rfl, (blk_cell BK237.out 3).trans rfl, (blk_cell BK238.out 0).trans rfl, (blk_cell BK238.out 1).trans rfl, (blk_cell BK238.out 2).trans rfl, (blk_cell BK238.out 3).trans rfl⟩ (fun hHeld => ?_)
        generalize wc.drew = w28 at BK237 BK238 HB hHeld ⊢
        refine pure_ (i := 1) (N := some 21) (v := ?_) (a' := ?_) #[false, true, false, false, false, false, false] rfl rfl (by kernel_rfl) (fun _ _ _ h => h) (Or.inl ⟨by rfl, ?_⟩) ?_ ?_
        rotate_left
        ·intro w'
         go_simp
         with_reducible rfl
        rotate_left
        ·simp only [Act.put, List.setIfInBounds_toArray, List.set_cons_zero, List.set_cons_succ, i64_w, i32_w]
         rfl
        refine pure_ (i := 4) (N := some 24) (v := ?_) (a' := ?_) #[false, true, false, false, true, false, false] rfl rfl (by kernel_rfl) (fun _ _ _ h => h) (Or.inl ⟨by rfl, ?_⟩) ?_ ?_
        rotate_left
        ·intro w'
         go_simp
         with_reducible rfl
        rotate_left
        ·simp only [Act.put, List.setIfInBounds_toArray, List.set_cons_zero, List.set_cons_succ, i64_w, i32_w]
         rfl
        refine take_ (i := 0) (N := some 20) (v := ?_) (a' := ?_) #[true, true, false, false, true, false, false] rfl rfl (by kernel_rfl) (fun _ _ _ h => h) (Or.inl ⟨by rfl, ?_⟩) hHeld ?_ ?_
        rotate_left
        ·rintro w' ⟨s0, s1, s2, s3, s4, s5, s6, s7⟩
         go_simp
         with_reducible rfl
        rotate_left
        ·simp only [Act.put, List.setIfInBounds_toArray, List.set_cons_zero, List.set_cons_succ, i64_w, i32_w]
         rfl
        refine take_ (i := 3) (N := some 23) (v := ?_) (a' := ?_) #[true, true, false, true, true, false, false] rfl rfl (by kernel_rfl) (fun _ _ _ h => h) (Or.inl ⟨by rfl, ?_⟩) hHeld ?_ ?_
        rotate_left
        ·rintro w' ⟨s0, s1, s2, s3, s4, s5, s6, s7⟩
         go_simp
         with_reducible rfl
        rotate_left
        ·simp only [Act.put, List.setIfInBounds_toArray, List.set_cons_zero, List.set_cons_succ, i64_w, i32_w]
         rfl
        refine one_ (i := 2) (N := some 22) #[true, true, true, true, true, false, false] rfl rfl (by kernel_rfl) (by decide) (fun K hK => ?_)
        refine goes_ Tryd.func31 (by kernel_rfl) rfl #[.agg #[.slice A0_0 l0_0.length c0_0, .bool a0_1, .string a0_2, .string a0_3], .int .i64 x5_1] (by rfl) rfl rfl (by (try simp only [List.map_toArray, List.map_cons, List.map_nil]); first | done | rfl | (simp only [List.length_drop, List.length_take]; rfl)) ?_
        with_reducible refine (spec_Version_part.calls _ _ l0_0 a0_1 a0_2 a0_3 x5_1 t240 _ ?side1 ?side2 A13.out).mono ?_
        (case side1 => repeat (first | exact (Kd.C_below HR0_0.out HB.out) | (with_reducible refine Kd.C_alloc ?_ _) | (with_reducible refine Kd.C_drewN ?_ _) | (with_reducible refine Kd.C_drew ?_)))
        (case side2 => exact HC0_0.out)
        rintro e w29 ⟨rfl, hb⟩
        refine ⟨_, rfl, ?_⟩
        have n0_ := Aside0.mk (blk_below (g := gb237) (o := .cells #[.slice A0_0 l0_0.length c0_0, .bool a0_1, .string a0_2, .string a0_3] 25 (0, 0)) (by (with_reducible repeat (first | refine blk_drewN ?_ _ | refine blk_drew ?_ | refine blk_alloc ?_ _)); exact BK237.out) hb)
        have n1_ := Aside0.mk (blk_below (g := gb238) (o := .cells #[.slice A1_0 l1_0.length c1_0, .bool a1_1, .string a1_2, .string a1_3] 25 (0, 0)) (by (with_reducible repeat (first | refine blk_drewN ?_ _ | refine blk_drew ?_ | refine blk_alloc ?_ _)); exact BK238.out) hb)
        have n2_ := Aside0.mk (below_step (by repeat (first | (with_reducible first | exact HB.out | apply below_alloc | apply pw_below_drewN | apply below_drew1 | refine below_set ?_ GE237.out | refine below_set ?_ GE238.out) | exact HB.out)) hb)
        clear BK237
        clear BK238
        clear HB
        have BK237 := n0_
        have BK238 := n1_
        have HB := n2_
        clear n0_ n1_ n2_
        (try clear hb)
        (try clear hb2)
        (try clear hk)
        (try clear hi)
        refine hK.out _ _ ⟨(blk_cell BK237.out 0).trans rfl, (blk_cell BK237.out 1).trans rfl, (blk_cell BK237.out 2).trans rfl, (blk_cell BK237.out 3).trans rfl, (blk_cell BK238.out 0).trans rfl, (blk_cell BK238.out 1).trans rfl, (blk_cell BK238.out 2).trans rfl, (blk_cell BK238.out 3).trans rfl⟩ (fun hHeld => ?_)
        clear hK K
        refine norm_ (a' := ?_) ?_ ?_
        rotate_left
        ·show Act.put _ (some 22) _ = _
         simp only [Act.put, List.setIfInBounds_toArray, List.set_cons_zero, List.set_cons_succ, i64_w, i32_w]
         rfl
        refine one_ (i := 5) (N := some 25) #[true, true, true, true, true, true, false] rfl rfl (by kernel_rfl) (by decide) (fun K hK => ?_)
        refine goes_ Tryd.func31 (by kernel_rfl) rfl #[.agg #[.slice A1_0 l1_0.length c1_0, .bool a1_1, .string a1_2, .string a1_3], .int .i64 x5_1] (by rfl) rfl rfl (by (try simp only [List.map_toArray, List.map_cons, List.map_nil]); first | done | rfl | (simp only [List.length_drop, List.length_take]; rfl)) ?_
        with_reducible refine (spec_Version_part.calls _ _ l1_0 a1_1 a1_2 a1_3 x5_1 t241 _ ?side1 ?side2 A14.out).mono ?_
        (case side1 => repeat (first | exact (Kd.C_below HR1_0.out HB.out) | (with_reducible refine Kd.C_alloc ?_ _) | (with_reducible refine Kd.C_drewN ?_ _) | (with_reducible refine Kd.C_drew ?_)))
        (case side2 => exact HC1_0.out)
        rintro e w30 ⟨rfl, hb⟩
        refine ⟨_, rfl, ?_⟩
        have n0_ := Aside0.mk (blk_below (g := gb237) (o := .cells #[.slice A0_0 l0_0.length c0_0, .bool a0_1, .string a0_2, .string a0_3] 25 (0, 0)) (by (with_reducible repeat (first | refine blk_drewN ?_ _ | refine blk_drew ?_ | refine blk_alloc ?_ _)); exact BK237.out) hb)
        have n1_ := Aside0.mk (blk_below (g := gb238) (o := .cells #[.slice A1_0 l1_0.length c1_0, .bool a1_1, .string a1_2, .string a1_3] 25 (0, 0)) (by (with_reducible repeat (first | refine blk_drewN ?_ _ | refine blk_drew ?_ | refine blk_alloc ?_ _)); exact BK238.out) hb)
        have n2_ := Aside0.mk (below_step (by repeat (first | (with_reducible first | exact HB.out | apply below_alloc | apply pw_below_drewN | apply below_drew1 | refine below_set ?_ GE237.out | refine below_set ?_ GE238.out) | exact HB.out)) hb)
        clear BK237
        clear BK238
        clear HB
        have BK237 := n0_
        have BK238 := n1_
        have HB := n2_
        clear n0_ n1_ n2_
        (try clear hb)
        (try clear hb2)
        (try clear hk)
        (try clear hi)
        refine hK.out _ _ ⟨(blk_cell BK237.out 0).trans rfl, (blk_cell BK237.out 1).trans rfl, (blk_cell BK237.out 2).trans rfl, (blk_cell BK237.out 3).trans rfl, (blk_cell BK238.out 0).trans rfl, (blk_cell BK238.out 1).trans rfl, (blk_cell BK238.out 2).trans rfl, (blk_cell BK238.out 3).trans rfl⟩ (fun hHeld => ?_)
        clear hK K
        refine norm_ (a' := ?_) ?_ ?_
        rotate_left
        ·show Act.put _ (some 25) _ = _
         simp only [Act.put, List.setIfInBounds_toArray, List.set_cons_zero, List.set_cons_succ, i64_w, i32_w]
         rfl
        refine pure_ (i := 6) (N := some 26) (v := ?_) (a' := ?_) #[true, true, true, true, true, true, true] rfl rfl (by kernel_rfl) (fun _ _ _ h => h) (Or.inl ⟨by rfl, ?_⟩) ?_ ?_
        rotate_left
        ·intro w'
         go_simp
         with_reducible rfl
        rotate_left
        ·simp only [Act.put, List.setIfInBounds_toArray, List.set_cons_zero, List.set_cons_succ, i64_w, i32_w]
         rfl
        refine done_ (by kernel_rfl) ?_
        try go_wp2
        have n0_ := Aside0.mk (blk_drew BK237.out)
        have n1_ := Aside0.mk (blk_drew BK238.out)
        have n2_ := Aside0.mk (below_drew1 HB.out)
        clear BK237
        clear BK238
        clear HB
        have BK237 := n0_
        have BK238 := n1_
        have HB := n2_
        clear n0_ n1_ n2_
        refine start_ (n := 7) (S := fun w' => w'.cell? ⟨gb237, 0, none⟩ = some (.slice A0_0 l0_0.length c0_0) ∧ w'.cell? ⟨gb237, 1, none⟩ = some (.bool a0_1) ∧ w'.cell? ⟨gb237, 2, none⟩ = some (.string a0_2) ∧ w'.cell? ⟨gb237, 3, none⟩ = some (.string a0_3) ∧ w'.cell? ⟨gb238, 0, none⟩ = some (.slice A1_0 l1_0.length c1_0) ∧ w'.cell? ⟨gb238, 1, none⟩ = some (.bool a1_1) ∧ w'.cell? ⟨gb238, 2, none⟩ = some (.string a1_2) ∧ w'.cell? ⟨gb238, 3, none⟩ = some (.string a1_3)) (ds := []) #[false, false, false, false, false, false, false] (by kernel_rfl) rfl rfl ⟨(blk_cell BK237.out 0).trans rfl, (blk_cell BK237.out 1).trans rfl, (blk_cell BK237.out 2).trans rfl, (blk_cell BK237.out 3).trans rfl, (blk_cell BK238.out 0).trans rfl, (blk_cell BK238.out 1).trans rfl, (blk_cell BK238.out 2).trans rfl, (blk_cell BK238.out 3).trans rfl⟩ (fun hHeld => ?_)
        generalize w30.drew = w31 at BK237 BK238 HB hHeld ⊢
        refine pure_ (i := 1) (N := some 28) (v := ?_) (a' := ?_) #[false, true, false, false, false, false, false] rfl rfl (by kernel_rfl) (fun _ _ _ h => h) (Or.inl ⟨by rfl, ?_⟩) ?_ ?_
        rotate_left
        ·intro w'
         go_simp
         with_reducible rfl
        rotate_left
        ·simp only [Act.put, List.setIfInBounds_toArray, List.set_cons_zero, List.set_cons_succ, i64_w, i32_w]
         rfl
        refine pure_ (i := 4) (N := some 31) (v := ?_) (a' := ?_) #[false, true, false, false, true, false, false] rfl rfl (by kernel_rfl) (fun _ _ _ h => h) (Or.inl ⟨by rfl, ?_⟩) ?_ ?_
        rotate_left
        ·intro w'
         go_simp
         with_reducible rfl
        rotate_left
        ·simp only [Act.put, List.setIfInBounds_toArray, List.set_cons_zero, List.set_cons_succ, i64_w, i32_w]
         rfl
        refine take_ (i := 0) (N := some 27) (v := ?_) (a' := ?_) #[true, true, false, false, true, false, false] rfl rfl (by kernel_rfl) (fun _ _ _ h => h) (Or.inl ⟨by rfl, ?_⟩) hHeld ?_ ?_
        rotate_left
        ·rintro w' ⟨s0, s1, s2, s3, s4, s5, s6, s7⟩
         go_simp
         with_reducible rfl
        rotate_left
        ·simp only [Act.put, List.setIfInBounds_toArray, List.set_cons_zero, List.set_cons_succ, i64_w, i32_w]
         rfl
        refine take_ (i := 3) (N := some 30) (v := ?_) (a' := ?_) #[true, true, false, true, true, false, false] rfl rfl (by kernel_rfl) (fun _ _ _ h => h) (Or.inl ⟨by rfl, ?_⟩) hHeld ?_ ?_
        rotate_left
        ·rintro w' ⟨s0, s1, s2, s3, s4, s5, s6, s7⟩
         go_simp
         with_reducible rfl
        rotate_left
        ·simp only [Act.put, List.setIfInBounds_toArray, List.set_cons_zero, List.set_cons_succ, i64_w, i32_w]
         rfl
        refine one_ (i := 2) (N := some 29) #[true, true, true, true, true, false, false] rfl rfl (by kernel_rfl) (by decide) (fun K hK => ?_)
        refine goes_ Tryd.func31 (by kernel_rfl) rfl #[.agg #[.slice A0_0 l0_0.length c0_0, .bool a0_1, .string a0_2, .string a0_3], .int .i64 x5_1] (by rfl) rfl rfl (by (try simp only [List.map_toArray, List.map_cons, List.map_nil]); first | done | rfl | (simp only [List.length_drop, List.length_take]; rfl)) ?_
        with_reducible refine (spec_Version_part.calls _ _ l0_0 a0_1 a0_2 a0_3 x5_1 t242 _ ?side1 ?side2 A19.out).mono ?_
        (case side1 => repeat (first | exact (Kd.C_below HR0_0.out HB.out) | (with_reducible refine Kd.C_alloc ?_ _) | (with_reducible refine Kd.C_drewN ?_ _) | (with_reducible refine Kd.C_drew ?_)))
        (case side2 => exact HC0_0.out)
        rintro e w32 ⟨rfl, hb⟩
        refine ⟨_, rfl, ?_⟩
        have n0_ := Aside0.mk (blk_below (g := gb237) (o := .cells #[.slice A0_0 l0_0.length c0_0, .bool a0_1, .string a0_2, .string a0_3] 25 (0, 0)) (by (with_reducible repeat (first | refine blk_drewN ?_ _ | refine blk_drew ?_ | refine blk_alloc ?_ _)); exact BK237.out) hb)
        have n1_ := Aside0.mk (blk_below (g := gb238) (o := .cells #[.slice A1_0 l1_0.length c1_0, .bool a1_1, .string a1_2, .string a1_3] 25 (0, 0)) (by (with_reducible repeat (first | refine blk_drewN ?_ _ | refine blk_drew ?_ | refine blk_alloc ?_ _)); exact BK238.out) hb)
        have n2_ := Aside0.mk (below_step (by repeat (first | (with_reducible first | exact HB.out | apply below_alloc | apply pw_below_drewN | apply below_drew1 | refine below_set ?_ GE237.out | refine below_set ?_ GE238.out) | exact HB.out)) hb)
        clear BK237
        clear BK238
        clear HB
        have BK237 := n0_
        have BK238 := n1_
        have HB := n2_
        clear n0_ n1_ n2_
        (try clear hb)
        (try clear hb2)
        (try clear hk)
        (try clear hi)
        refine hK.out _ _ ⟨(blk_cell BK237.out 0).trans rfl, (blk_cell BK237.out 1).trans rfl, (blk_cell BK237.out 2).trans rfl, (blk_cell BK237.out 3).trans rfl, (blk_cell BK238.out 0).trans rfl, (blk_cell BK238.out 1).trans rfl, (blk_cell BK238.out 2).trans rfl, (blk_cell BK238.out 3).trans rfl⟩ (fun hHeld => ?_)
        clear hK K
        refine norm_ (a' := ?_) ?_ ?_
        rotate_left
        ·show Act.put _ (some 29) _ = _
         simp only [Act.put, List.setIfInBounds_toArray, List.set_cons_zero, List.set_cons_succ, i64_w, i32_w]
         rfl
        refine one_ (i := 5) (N := some 32) #[true, true, true, true, true, true, false] rfl rfl (by kernel_rfl) (by decide) (fun K hK => ?_)
        refine goes_ Tryd.func31 (by kernel_rfl) rfl #[.agg #[.slice A1_0 l1_0.length c1_0, .bool a1_1, .string a1_2, .string a1_3], .int .i64 x5_1] (by rfl) rfl rfl (by (try simp only [List.map_toArray, List.map_cons, List.map_nil]); first | done | rfl | (simp only [List.length_drop, List.length_take]; rfl)) ?_
        with_reducible refine (spec_Version_part.calls _ _ l1_0 a1_1 a1_2 a1_3 x5_1 t243 _ ?side1 ?side2 A20.out).mono ?_
        (case side1 => repeat (first | exact (Kd.C_below HR1_0.out HB.out) | (with_reducible refine Kd.C_alloc ?_ _) | (with_reducible refine Kd.C_drewN ?_ _) | (with_reducible refine Kd.C_drew ?_)))
        (case side2 => exact HC1_0.out)
        rintro e w33 ⟨rfl, hb⟩
        refine ⟨_, rfl, ?_⟩
        have n0_ := Aside0.mk (blk_below (g := gb237) (o := .cells #[.slice A0_0 l0_0.length c0_0, .bool a0_1, .string a0_2, .string a0_3] 25 (0, 0)) (by (with_reducible repeat (first | refine blk_drewN ?_ _ | refine blk_drew ?_ | refine blk_alloc ?_ _)); exact BK237.out) hb)
        have n1_ := Aside0.mk (blk_below (g := gb238) (o := .cells #[.slice A1_0 l1_0.length c1_0, .bool a1_1, .string a1_2, .string a1_3] 25 (0, 0)) (by (with_reducible repeat (first | refine blk_drewN ?_ _ | refine blk_drew ?_ | refine blk_alloc ?_ _)); exact BK238.out) hb)
        have n2_ := Aside0.mk (below_step (by repeat (first | (with_reducible first | exact HB.out | apply below_alloc | apply pw_below_drewN | apply below_drew1 | refine below_set ?_ GE237.out | refine below_set ?_ GE238.out) | exact HB.out)) hb)
        clear BK237
        clear BK238
        clear HB
        have BK237 := n0_
        have BK238 := n1_
        have HB := n2_
        clear n0_ n1_ n2_
        (try clear hb)
        (try clear hb2)
        (try clear hk)
        (try clear hi)
        refine hK.out _ _ ⟨(blk_cell BK237.out 0).trans rfl, (blk_cell BK237.out 1).trans rfl, (blk_cell BK237.out 2).trans rfl, (blk_cell BK237.out 3).trans rfl, (blk_cell BK238.out 0).trans rfl, (blk_cell BK238.out 1).trans rfl, (blk_cell BK238.out 2).trans rfl, (blk_cell BK238.out 3).trans rfl⟩ (fun hHeld => ?_)
        clear hK K
        refine norm_ (a' := ?_) ?_ ?_
        rotate_left
        ·show Act.put _ (some 32) _ = _
         simp only [Act.put, List.setIfInBounds_toArray, List.set_cons_zero, List.set_cons_succ, i64_w, i32_w]
         rfl
        refine pure_ (i := 6) (N := some 33) (v := ?_) (a' := ?_) #[true, true, true, true, true, true, true] rfl rfl (by kernel_rfl) (fun _ _ _ h => h) (Or.inl ⟨by rfl, ?_⟩) ?_ ?_
        rotate_left
        ·intro w'
         go_simp
         with_reducible rfl
        rotate_left
        ·simp only [Act.put, List.setIfInBounds_toArray, List.set_cons_zero, List.set_cons_succ, i64_w, i32_w]
         rfl
        refine done_ (by kernel_rfl) ?_
        try go_wp2
        go_roundg kj4
        case measure => have := HK1.out; have := HJ4.out; omega
        case rel => exact ⟨(wrap64 (x5_1 + 1)), (by first | rfl | (simp; done) | (simp [*]; done)), H', ⟨by have := HK1.out; have := HJ4.out; omega⟩, ⟨by (with_reducible repeat (first | refine blk_drewN ?_ _ | refine blk_drew ?_ | refine blk_alloc ?_ _)); exact BK237.out⟩, ⟨by (with_reducible repeat (first | refine blk_drewN ?_ _ | refine blk_drew ?_ | refine blk_alloc ?_ _)); exact BK238.out⟩, ⟨by repeat (first | (with_reducible first | exact HB.out | apply below_alloc | apply pw_below_drewN | apply below_drew1 | refine below_set ?_ GE237.out | refine below_set ?_ GE238.out) | exact HB.out)⟩⟩
     ·replace c12 := Bool.eq_false_iff.mpr c12
      subst c12
      have H1 : (if a0_1 = true then (if a1_1 = true then ((spec_VerPrecedence.f kj4 a0_2 a1_2).bind fun t239 => (some t239)) else (some 0)) else (some 0)) = some r := by rw [if_neg (show ¬ (false = true) by decide)] at H; exact H
      clear H
      have H := H1
      clear H1
      by_cases c34 : a0_1 = true
      ·subst c34
       have H1 : (if a1_1 = true then ((spec_VerPrecedence.f kj4 a0_2 a1_2).bind fun t239 => (some t239)) else (some 0)) = some r := by rw [if_pos rfl] at H; exact H
       clear H
       have H := H1
       clear H1
       by_cases c35 : a1_1 = true
       ·subst c35
        have H1 : ((spec_VerPrecedence.f kj4 a0_2 a1_2).bind fun t239 => (some t239)) = some r := by rw [if_pos rfl] at H; exact H
        clear H
        have H := H1
        clear H1
        replace H := Option.bind_eq_some_iff.mp H
        obtain ⟨t239, A360, H⟩ := H
        replace H : (some t239) = some r := H
        have A36 := Aside0.mk A360
        clear A360
        obtain rfl := Option.some.inj H
        have hnb37 := NB237_238.out
        have hnc37 := NB238_237.out
        have hcz38_0 : wc.cell? ⟨gb237, 0, none⟩ = some (.slice A0_0 l0_0.length c0_0) := (blk_cell BK237.out 0).trans rfl
        have hcz38_1 : wc.cell? ⟨gb237, 1, none⟩ = some (.bool true) := (blk_cell BK237.out 1).trans rfl
        have hcz38_2 : wc.cell? ⟨gb237, 2, none⟩ = some (.string a0_2) := (blk_cell BK237.out 2).trans rfl
        have hcz38_3 : wc.cell? ⟨gb237, 3, none⟩ = some (.string a0_3) := (blk_cell BK237.out 3).trans rfl
        have hfz38_0 := blk_frozen BK237.out 0
        have hfz38_1 := blk_frozen BK237.out 1
        have hfz38_2 := blk_frozen BK237.out 2
        have hfz38_3 := blk_frozen BK237.out 3
        have hcz39_0 : wc.cell? ⟨gb238, 0, none⟩ = some (.slice A1_0 l1_0.length c1_0) := (blk_cell BK238.out 0).trans rfl
        have hcz39_1 : wc.cell? ⟨gb238, 1, none⟩ = some (.bool true) := (blk_cell BK238.out 1).trans rfl
        have hcz39_2 : wc.cell? ⟨gb238, 2, none⟩ = some (.string a1_2) := (blk_cell BK238.out 2).trans rfl
        have hcz39_3 : wc.cell? ⟨gb238, 3, none⟩ = some (.string a1_3) := (blk_cell BK238.out 3).trans rfl
        have hfz39_0 := blk_frozen BK238.out 0
        have hfz39_1 := blk_frozen BK238.out 1
        have hfz39_2 := blk_frozen BK238.out 2
        have hfz39_3 := blk_frozen BK238.out 3
        go_wp2_with (first | ((with_reducible refine gate_callee (f := 32) rfl ?_); refine goesL_ (some 44) rfl rfl Tryd.func32 (by kernel_rfl) rfl #[.string a0_2, .string a1_2] rfl (by (try simp only [List.map_toArray, List.map_cons, List.map_nil]); first | done | rfl | (simp only [List.length_drop, List.length_take]; rfl)) ?_; (with_reducible refine (spec_VerPrecedence.calls kj4 a0_2 a1_2 t239 _ A36.out).mono ?_); rintro e w40 ⟨rfl, hb⟩; refine ⟨_, rfl, ?_⟩; have n0_ := Aside0.mk (blk_below (g := gb237) (o := .cells #[.slice A0_0 l0_0.length c0_0, .bool true, .string a0_2, .string a0_3] 25 (0, 0)) (by (with_reducible repeat (first | refine blk_drewN ?_ _ | refine blk_drew ?_ | refine blk_alloc ?_ _)); exact BK237.out) hb); have n1_ := Aside0.mk (blk_below (g := gb238) (o := .cells #[.slice A1_0 l1_0.length c1_0, .bool true, .string a1_2, .string a1_3] 25 (0, 0)) (by (with_reducible repeat (first | refine blk_drewN ?_ _ | refine blk_drew ?_ | refine blk_alloc ?_ _)); exact BK238.out) hb); have n2_ := Aside0.mk (below_step (by repeat (first | (with_reducible first | exact HB.out | apply below_alloc | apply pw_below_drewN | apply below_drew1 | refine below_set ?_ GE237.out | refine below_set ?_ GE238.out) | exact HB.out)) hb); clear BK237; clear BK238; clear HB; have BK237 := n0_; have BK238 := n1_; have HB := n2_; clear n0_ n1_ n2_; (try clear hb); (try clear hb2); (try clear hk); (try clear hi)))
        go_ret
        exact ⟨by first | rfl | (simp [errW_none, errW_some] <;> rfl) | (simp [*, errW_none, errW_some] <;> rfl), by repeat (first | (with_reducible first | exact HB.out | apply below_alloc | apply pw_below_drewN | apply below_drew1 | refine below_set ?_ GE237.out | refine below_set ?_ GE238.out) | exact HB.out)⟩
       ·replace c35 := Bool.eq_false_iff.mpr c35
        subst c35
        have H1 : (some 0) = some r := by rw [if_neg (show ¬ (false = true) by decide)] at H; exact H
        clear H
        have H := H1
        clear H1
        obtain rfl := Option.some.inj H
        have hnb41 := NB237_238.out
        have hnc41 := NB238_237.out
        have hcz42_0 : wc.cell? ⟨gb237, 0, none⟩ = some (.slice A0_0 l0_0.length c0_0) := (blk_cell BK237.out 0).trans rfl
        have hcz42_1 : wc.cell? ⟨gb237, 1, none⟩ = some (.bool true) := (blk_cell BK237.out 1).trans rfl
        have hcz42_2 : wc.cell? ⟨gb237, 2, none⟩ = some (.string a0_2) := (blk_cell BK237.out 2).trans rfl
        have hcz42_3 : wc.cell? ⟨gb237, 3, none⟩ = some (.string a0_3) := (blk_cell BK237.out 3).trans rfl
        have hfz42_0 := blk_frozen BK237.out 0
        have hfz42_1 := blk_frozen BK237.out 1
        have hfz42_2 := blk_frozen BK237.out 2
        have hfz42_3 := blk_frozen BK237.out 3
        have hcz43_0 : wc.cell? ⟨gb238, 0, none⟩ = some (.slice A1_0 l1_0.length c1_0) := (blk_cell BK238.out 0).trans rfl
        have hcz43_1 : wc.cell? ⟨gb238, 1, none⟩ = some (.bool false) := (blk_cell BK238.out 1).trans rfl
        have hcz43_2 : wc.cell? ⟨gb238, 2, none⟩ = some (.string a1_2) := (blk_cell BK238.out 2).trans rfl
        have hcz43_3 : wc.cell? ⟨gb238, 3, none⟩ = some (.string a1_3) := (blk_cell BK238.out 3).trans rfl
        have hfz43_0 := blk_frozen BK238.out 0
        have hfz43_1 := blk_frozen BK238.out 1
        have hfz43_2 := blk_frozen BK238.out 2
        have hfz43_3 := blk_frozen BK238.out 3
        go_wp2
        go_ret
        exact ⟨by first | rfl | (simp [errW_none, errW_some] <;> rfl) | (simp [*, errW_none, errW_some] <;> rfl), by repeat (first | (with_reducible first | exact HB.out | apply below_alloc | apply pw_below_drewN | apply below_drew1 | refine below_set ?_ GE237.out | refine below_set ?_ GE238.out) | exact HB.out)⟩
      ·replace c34 := Bool.eq_false_iff.mpr c34
       subst c34
       have H1 : (some 0) = some r := by rw [if_neg (show ¬ (false = true) by decide)] at H; exact H
       clear H
       have H := H1
       clear H1
       obtain rfl := Option.some.inj H
       have hnb44 := NB237_238.out
       have hnc44 := NB238_237.out
       have hcz45_0 : wc.cell? ⟨gb237, 0, none⟩ = some (.slice A0_0 l0_0.length c0_0) := (blk_cell BK237.out 0).trans rfl
       have hcz45_1 : wc.cell? ⟨gb237, 1, none⟩ = some (.bool false) := (blk_cell BK237.out 1).trans rfl
       have hcz45_2 : wc.cell? ⟨gb237, 2, none⟩ = some (.string a0_2) := (blk_cell BK237.out 2).trans rfl
       have hcz45_3 : wc.cell? ⟨gb237, 3, none⟩ = some (.string a0_3) := (blk_cell BK237.out 3).trans rfl
       have hfz45_0 := blk_frozen BK237.out 0
       have hfz45_1 := blk_frozen BK237.out 1
       have hfz45_2 := blk_frozen BK237.out 2
       have hfz45_3 := blk_frozen BK237.out 3
       go_wp2
       go_ret
       exact ⟨by first | rfl | (simp [errW_none, errW_some] <;> rfl) | (simp [*, errW_none, errW_some] <;> rfl), by repeat (first | (with_reducible first | exact HB.out | apply below_alloc | apply pw_below_drewN | apply below_drew1 | refine below_set ?_ GE237.out | refine below_set ?_ GE238.out) | exact HB.out)⟩
end Go.Proofs.YtmfgkidppchobaaDoor.XFnVersionCompare

