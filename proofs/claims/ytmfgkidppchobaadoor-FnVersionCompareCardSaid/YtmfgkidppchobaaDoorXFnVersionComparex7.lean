/- A text of this session: the functions of the law FnVersionCompare, by a program that calls the kit's print and lays this session's own contracts of single functions beside. -/
import Derived.Test.YtmfgkidppchobaaDoorXFnVersionComparex0
import Derived.Test.YtmfgkidppchobaaDoorXFnVersionComparex2
import Derived.Test.YtmfgkidppchobaaDoorXFnVersionComparex6
namespace Go.Proofs.YtmfgkidppchobaaDoor.XFnVersionCompare
open Go.RowKit Go.Proofs.YtmfgkidppchobaaDoorW.PrintWords Go.Proofs.YtmfgkidppchobaaDoorW.PrintLast Go.Proofs.YtmfgkidppchobaaDoorW.PrintMore
attribute [local go_sem] max2_int min2_int max_two min_two max_three min_three max_four min_four
set_option linter.unusedVariables false
set_option linter.unusedSimpArgs false
mutual
def spec_VerAsked.j0 : Nat → Bool → List Int → Bool → ByteArray → ByteArray → List Int → Bool → ByteArray → ByteArray → Option (Bool)
 | 0, _, _, _, _, _, _, _, _, _ => none
 | k + 1, x25, x211000, x211001, x211002, x211003, x212000, x212001, x212002, x212003 => if x25 = true then (some true) else ((spec_VerSplit.f k x211002).bind fun t212 => ((spec_VerSplit.f k x212002).bind fun t215 => (spec_VerAsked.l0 k t212 t215 0)))
def spec_VerAsked.l0 : Nat → List ByteArray → List ByteArray → Int → Option (Bool)
 | 0, _, _, _ => none
 | k + 1, x5, x6, x7 => if x7 < (x5.length : Int) then (spec_VerAsked.j2 k x5 x6 x7 (decide (x7 < (x6.length : Int)))) else (spec_VerAsked.j2 k x5 x6 x7 false)
def spec_VerAsked.j2 : Nat → List ByteArray → List ByteArray → Int → Bool → Option (Bool)
 | 0, _, _, _, _ => none
 | k + 1, x5, x6, x7, x41 => if x41 = true then (if 0 ≤ x7 then (if x7 < (x5.length : Int) then (if x7 < (x6.length : Int) then ((spec_verMixed.f k (rdOf ByteArray.empty x5 x7) (rdOf ByteArray.empty x6 x7)).bind fun t220 => (if t220 = true then (some false) else ((spec_verMixed.f k (rdOf ByteArray.empty x6 x7) (rdOf ByteArray.empty x5 x7)).bind fun t223 => (if t223 = true then (some false) else (spec_VerAsked.l0 k x5 x6 (wrap64 (x7 + 1))))))) else (none)) else (none)) else (none)) else (some true)
end
def spec_VerAsked.f (k : Nat) (l0_0 : List Int) (a0_1 : Bool) (a0_2 : ByteArray) (a0_3 : ByteArray) (l1_0 : List Int) (a1_1 : Bool) (a1_2 : ByteArray) (a1_3 : ByteArray) : Option (Bool) := if a0_1 = true then (if a1_1 = true then (if a0_2.toList = ([] : List UInt8) then (spec_VerAsked.j0 k true l0_0 a0_1 a0_2 a0_3 l1_0 a1_1 a1_2 a1_3) else (spec_VerAsked.j0 k (a1_2.toList == ([] : List UInt8)) l0_0 a0_1 a0_2 a0_3 l1_0 a1_1 a1_2 a1_3)) else (spec_VerAsked.j0 k true l0_0 a0_1 a0_2 a0_3 l1_0 a1_1 a1_2 a1_3)) else (spec_VerAsked.j0 k true l0_0 a0_1 a0_2 a0_3 l1_0 a1_1 a1_2 a1_3)
def spec_VerAsked.T3 : Bool × List (List Nat × List Nat) := (true, [([], []), ([0], [0]), ([1], [1]), ([], []), ([3], [3]), ([4, 2], [4]), ([2, 5, 0, 1, 2], [2]), ([5, 6, 0, 1, 2, 3, 4, 5, 6], [5])])
def spec_VerAsked.B3 : List Nat := [0, 1, 3, 0, 8, 31, 63, 127]
theorem spec_VerAsked.tab3 : rtab .any (opsOf Tryd.f11 3) = spec_VerAsked.T3 := by kernel_rfl
theorem spec_VerAsked.bits3 : waitsOk spec_VerAsked.T3.2 spec_VerAsked.B3 = true := by kernel_rfl
def spec_VerAsked.T7 : Bool × List (List Nat × List Nat) := (true, [([], []), ([], []), ([0, 1], [0, 1]), ([2], [2]), ([], []), ([], []), ([4, 5], [4, 5]), ([6], [6]), ([3, 7], [3, 7]), ([8, 8], [8]), ([9], [9]), ([9], [9]), ([10, 11, 9], [9, 10, 11]), ([12, 9], [9, 12]), ([9], [9]), ([9], [9]), ([14, 15, 9], [9, 14, 15]), ([16, 9], [9, 16]), ([13, 17, 9, 9], [9, 13, 17]), ([9, 18], [9, 18])])
def spec_VerAsked.B7 : List Nat := [0, 0, 3, 7, 0, 0, 48, 112, 255, 511, 1023, 1023, 4095, 8191, 1023, 1023, 50175, 115711, 262143, 524287]
theorem spec_VerAsked.tab7 : rtab .any (opsOf Tryd.f11 7) = spec_VerAsked.T7 := by kernel_rfl
theorem spec_VerAsked.bits7 : waitsOk spec_VerAsked.T7.2 spec_VerAsked.B7 = true := by kernel_rfl
set_option maxHeartbeats 8000000 in
set_option maxRecDepth 100000 in
theorem spec_VerAsked.calls (k : Nat) (A0_0 : Option Addr) (c0_0 : Nat) (l0_0 : List Int) (a0_1 : Bool) (a0_2 : ByteArray) (a0_3 : ByteArray) (A1_0 : Option Addr) (c1_0 : Nat) (l1_0 : List Int) (a1_1 : Bool) (a1_2 : ByteArray) (a1_3 : ByteArray) (r : Bool) (w : World) (hr0_0 : Kd.C (Kd.int .u64) w A0_0 l0_0.length l0_0) (hc0_0 : l0_0.length ≤ c0_0) (hr1_0 : Kd.C (Kd.int .u64) w A1_0 l1_0.length l1_0) (hc1_0 : l1_0.length ≤ c1_0) (h : spec_VerAsked.f k l0_0 a0_1 a0_2 a0_3 l1_0 a1_1 a1_2 a1_3 = some r) :
  Calls Tryd.prog 11 #[.agg #[.slice A0_0 l0_0.length c0_0, .bool a0_1, .string a0_2, .string a0_3], .agg #[.slice A1_0 l1_0.length c1_0, .bool a1_1, .string a1_2, .string a1_3]] w fun e w' => e = .returned (.bool r) ∧ Below w.heap.size w w' := by
 have hu25 := Tryd.underlying25
 have HR0_0 := Aside0.mk hr0_0
 have HC0_0 := Aside0.mk hc0_0
 clear hr0_0 hc0_0
 have HR1_0 := Aside0.mk hr1_0
 have HC1_0 := Aside0.mk hc1_0
 clear hr1_0 hc1_0
 have HB := Aside0.mk (Below.refl w.heap.size w)
 have H : (if a0_1 = true then (if a1_1 = true then (if a0_2.toList = ([] : List UInt8) then (spec_VerAsked.j0 k true l0_0 a0_1 a0_2 a0_3 l1_0 a1_1 a1_2 a1_3) else (spec_VerAsked.j0 k (a1_2.toList == ([] : List UInt8)) l0_0 a0_1 a0_2 a0_3 l1_0 a1_1 a1_2 a1_3)) else (spec_VerAsked.j0 k true l0_0 a0_1 a0_2 a0_3 l1_0 a1_1 a1_2 a1_3)) else (spec_VerAsked.j0 k true l0_0 a0_1 a0_2 a0_3 l1_0 a1_1 a1_2 a1_3)) = some r := h
 clear h
 have HC3 := Aside0.mk H
 clear H
 go_enter Tryd.func11, Tryd.ntmps11
 go_upto_region 1 with (first | ((with_reducible refine gate_dst (N := 2) rfl ?_); (try (refine gate_guard (by rfl) ?_; dsimp only)); refine box_event ?hg (N := 2) ?hd (cs := #[.slice A0_0 l0_0.length c0_0, .bool a0_1, .string a0_2, .string a0_3]) (t := 25) ?hr ?_; (case hd => rfl); (case hg => rfl); (case hr => first | (go_simp; done) | (go_simp; rfl)); intro gb210 hg w4 hbox hb; have n0_ := Aside0.mk (below_step (by repeat (first | (with_reducible first | exact HB.out | apply below_alloc | apply pw_below_drewN | apply below_drew1) | exact HB.out)) hb); have n1_ := Aside0.mk (hbox); have n2_ := Aside0.mk ((by rw [hg]; exact (below_size (by repeat (first | (with_reducible first | exact HB.out | apply below_alloc | apply pw_below_drewN | apply below_drew1) | exact HB.out))) : w.heap.size ≤ gb210)); have n3_ := Aside0.mk ((by rw [hg]; exact (below_size (by repeat (first | (with_reducible first | exact HB.out | apply below_alloc | apply pw_below_drewN | apply below_drew1) | exact HB.out))) : w.heap.size ≤ gb210)); clear HB; have HB := n0_; have BK210 := n1_; have GW210 := n2_; have GE210 := n3_; clear n0_ n1_ n2_ n3_; clear hb hbox hg) | ((with_reducible refine gate_dst (N := 3) rfl ?_); (try (refine gate_guard (by rfl) ?_; dsimp only)); refine box_event ?hg (N := 3) ?hd (cs := #[.slice A1_0 l1_0.length c1_0, .bool a1_1, .string a1_2, .string a1_3]) (t := 25) ?hr ?_; (case hd => rfl); (case hg => rfl); (case hr => first | (go_simp; done) | (go_simp; rfl)); intro gb211 hg w5 hbox hb; have n0_ := Aside0.mk (blk_below (g := gb210) (o := .cells #[.slice A0_0 l0_0.length c0_0, .bool a0_1, .string a0_2, .string a0_3] 25 (0, 0)) (by (with_reducible repeat (first | refine blk_drewN ?_ _ | refine blk_drew ?_ | refine blk_alloc ?_ _)); exact BK210.out) hb); have n1_ := Aside0.mk (below_step (by repeat (first | (with_reducible first | exact HB.out | apply below_alloc | apply pw_below_drewN | apply below_drew1 | refine below_set ?_ GE210.out) | exact HB.out)) hb); have n2_ := Aside0.mk (hbox); have n3_ := Aside0.mk ((by rw [hg]; exact (below_size (by repeat (first | (with_reducible first | exact HB.out | apply below_alloc | apply pw_below_drewN | apply below_drew1 | refine below_set ?_ GE210.out) | exact HB.out))) : w.heap.size ≤ gb211)); have n4_ := Aside0.mk ((by rw [hg]; exact (below_size (by repeat (first | (with_reducible first | exact HB.out | apply below_alloc | apply pw_below_drewN | apply below_drew1 | refine below_set ?_ GE210.out) | exact HB.out))) : w.heap.size ≤ gb211)); have n5_ := Aside0.mk ((by rw [hg]; exact Nat.ne_of_lt (blk_lt (g := gb210) (o := .cells #[.slice A0_0 l0_0.length c0_0, .bool a0_1, .string a0_2, .string a0_3] 25 (0, 0)) (by (with_reducible repeat (first | refine blk_drewN ?_ _ | refine blk_drew ?_ | refine blk_alloc ?_ _)); exact BK210.out)) : gb210 ≠ gb211)); have n6_ := Aside0.mk ((by rw [hg]; exact Nat.ne_of_gt (blk_lt (g := gb210) (o := .cells #[.slice A0_0 l0_0.length c0_0, .bool a0_1, .string a0_2, .string a0_3] 25 (0, 0)) (by (with_reducible repeat (first | refine blk_drewN ?_ _ | refine blk_drew ?_ | refine blk_alloc ?_ _)); exact BK210.out)) : gb211 ≠ gb210)); clear BK210; clear HB; have BK210 := n0_; have HB := n1_; have BK211 := n2_; have GW211 := n3_; have GE211 := n4_; have NB210_211 := n5_; have NB211_210 := n6_; clear n0_ n1_ n2_ n3_ n4_ n5_ n6_; clear hb hbox hg))
 (try simp only [Act.put, List.setIfInBounds_toArray, List.set_cons_zero, List.set_cons_succ])
 go_cut [25] (fun v25 wc => ∃ (kq : Nat) (x25_2 : Bool), v25 = .bool x25_2 ∧ Aside0 (spec_VerAsked.j0 kq x25_2 l0_0 a0_1 a0_2 a0_3 l1_0 a1_1 a1_2 a1_3 = some r) ∧ Aside0 (kq ≤ k) ∧ Aside0 (wc.heap[gb210]? = some (.cells #[(.slice A0_0 l0_0.length c0_0), .bool a0_1, .string a0_2, .string a0_3] 25 (0, 0))) ∧ Aside0 (wc.heap[gb211]? = some (.cells #[(.slice A1_0 l1_0.length c1_0), .bool a1_1, .string a1_2, .string a1_3] 25 (0, 0))) ∧ Aside0 (Below w.heap.size w wc))
 case first =>
  have H := HC3.out
  clear HC3
  by_cases c6 : a0_1 = true
  ·subst c6
   have H1 : (if a1_1 = true then (if a0_2.toList = ([] : List UInt8) then (spec_VerAsked.j0 k true l0_0 true a0_2 a0_3 l1_0 a1_1 a1_2 a1_3) else (spec_VerAsked.j0 k (a1_2.toList == ([] : List UInt8)) l0_0 true a0_2 a0_3 l1_0 a1_1 a1_2 a1_3)) else (spec_VerAsked.j0 k true l0_0 true a0_2 a0_3 l1_0 a1_1 a1_2 a1_3)) = some r := by rw [if_pos rfl] at H; exact H
   clear H
   have H := H1
   clear H1
   by_cases c7 : a1_1 = true
   ·subst c7
    have H1 : (if a0_2.toList = ([] : List UInt8) then (spec_VerAsked.j0 k true l0_0 true a0_2 a0_3 l1_0 true a1_2 a1_3) else (spec_VerAsked.j0 k (a1_2.toList == ([] : List UInt8)) l0_0 true a0_2 a0_3 l1_0 true a1_2 a1_3)) = some r := by rw [if_pos rfl] at H; exact H
    clear H
    have H := H1
    clear H1
    by_cases c8 : a0_2.toList = ([] : List UInt8)
    ·rw [if_pos c8] at H
     have c8b0 : (a0_2.toList == ([] : List UInt8)) = true := beq_iff_eq.mpr c8
     have c8b1 : (a0_2.toList != ([] : List UInt8)) = false := bne_eq_false_iff_eq.mpr c8
     clear c8
     (first | rw [c8b0] | (simp only [i64_w, i32_w]; rw [c8b0]) | skip)
     have H' := Aside0.mk H
     clear H
     have hnb9 := NB210_211.out
     have hnc9 := NB211_210.out
     have hcz10_0 : w5.cell? ⟨gb210, 0, none⟩ = some (.slice A0_0 l0_0.length c0_0) := (blk_cell BK210.out 0).trans rfl
     have hcz10_1 : w5.cell? ⟨gb210, 1, none⟩ = some (.bool true) := (blk_cell BK210.out 1).trans rfl
     have hcz10_2 : w5.cell? ⟨gb210, 2, none⟩ = some (.string a0_2) := (blk_cell BK210.out 2).trans rfl
     have hcz10_3 : w5.cell? ⟨gb210, 3, none⟩ = some (.string a0_3) := (blk_cell BK210.out 3).trans rfl
     have hfz10_0 := blk_frozen BK210.out 0
     have hfz10_1 := blk_frozen BK210.out 1
     have hfz10_2 := blk_frozen BK210.out 2
     have hfz10_3 := blk_frozen BK210.out 3
     have hcz11_0 : w5.cell? ⟨gb211, 0, none⟩ = some (.slice A1_0 l1_0.length c1_0) := (blk_cell BK211.out 0).trans rfl
     have hcz11_1 : w5.cell? ⟨gb211, 1, none⟩ = some (.bool true) := (blk_cell BK211.out 1).trans rfl
     have hcz11_2 : w5.cell? ⟨gb211, 2, none⟩ = some (.string a1_2) := (blk_cell BK211.out 2).trans rfl
     have hcz11_3 : w5.cell? ⟨gb211, 3, none⟩ = some (.string a1_3) := (blk_cell BK211.out 3).trans rfl
     have hfz11_0 := blk_frozen BK211.out 0
     have hfz11_1 := blk_frozen BK211.out 1
     have hfz11_2 := blk_frozen BK211.out 2
     have hfz11_3 := blk_frozen BK211.out 3
     go_wp2
     go_meet
     case rel => exact ⟨_, (true), (by first | rfl | (simp; done) | (simp [*]; done)), H', ⟨by first | omega | exact Nat.le_refl _⟩, ⟨by (with_reducible repeat (first | refine blk_drewN ?_ _ | refine blk_drew ?_ | refine blk_alloc ?_ _)); exact BK210.out⟩, ⟨by (with_reducible repeat (first | refine blk_drewN ?_ _ | refine blk_drew ?_ | refine blk_alloc ?_ _)); exact BK211.out⟩, ⟨by repeat (first | (with_reducible first | exact HB.out | apply below_alloc | apply pw_below_drewN | apply below_drew1 | refine below_set ?_ GE210.out | refine below_set ?_ GE211.out) | exact HB.out)⟩⟩
    ·rw [if_neg c8] at H
     have c8b0 : (a0_2.toList == ([] : List UInt8)) = false := beq_eq_false_iff_ne.mpr c8
     have c8b1 : (a0_2.toList != ([] : List UInt8)) = true := bne_iff_ne.mpr c8
     (first | rw [c8b0] | (simp only [i64_w, i32_w]; rw [c8b0]) | skip)
     have H' := Aside0.mk H
     clear H
     have hnb12 := NB210_211.out
     have hnc12 := NB211_210.out
     have hcz13_0 : w5.cell? ⟨gb210, 0, none⟩ = some (.slice A0_0 l0_0.length c0_0) := (blk_cell BK210.out 0).trans rfl
     have hcz13_1 : w5.cell? ⟨gb210, 1, none⟩ = some (.bool true) := (blk_cell BK210.out 1).trans rfl
     have hcz13_2 : w5.cell? ⟨gb210, 2, none⟩ = some (.string a0_2) := (blk_cell BK210.out 2).trans rfl
     have hcz13_3 : w5.cell? ⟨gb210, 3, none⟩ = some (.string a0_3) := (blk_cell BK210.out 3).trans rfl
     have hfz13_0 := blk_frozen BK210.out 0
     have hfz13_1 := blk_frozen BK210.out 1
     have hfz13_2 := blk_frozen BK210.out 2
     have hfz13_3 := blk_frozen BK210.out 3
     have hcz14_0 : w5.cell? ⟨gb211, 0, none⟩ = some (.slice A1_0 l1_0.length c1_0) := (blk_cell BK211.out 0).trans rfl
     have hcz14_1 : w5.cell? ⟨gb211, 1, none⟩ = some (.bool true) := (blk_cell BK211.out 1).trans rfl
     have hcz14_2 : w5.cell? ⟨gb211, 2, none⟩ = some (.string a1_2) := (blk_cell BK211.out 2).trans rfl
     have hcz14_3 : w5.cell? ⟨gb211, 3, none⟩ = some (.string a1_3) := (blk_cell BK211.out 3).trans rfl
     have hfz14_0 := blk_frozen BK211.out 0
     have hfz14_1 := blk_frozen BK211.out 1
     have hfz14_2 := blk_frozen BK211.out 2
     have hfz14_3 := blk_frozen BK211.out 3
     go_wp2
     go_meet
     case rel => exact ⟨_, ((a1_2.toList == ([] : List UInt8))), (by first | rfl | (simp; done) | (simp [*]; done)), H', ⟨by first | omega | exact Nat.le_refl _⟩, ⟨by (with_reducible repeat (first | refine blk_drewN ?_ _ | refine blk_drew ?_ | refine blk_alloc ?_ _)); exact BK210.out⟩, ⟨by (with_reducible repeat (first | refine blk_drewN ?_ _ | refine blk_drew ?_ | refine blk_alloc ?_ _)); exact BK211.out⟩, ⟨by repeat (first | (with_reducible first | exact HB.out | apply below_alloc | apply pw_below_drewN | apply below_drew1 | refine below_set ?_ GE210.out | refine below_set ?_ GE211.out) | exact HB.out)⟩⟩
   ·replace c7 := Bool.eq_false_iff.mpr c7
    subst c7
    have H1 : (spec_VerAsked.j0 k true l0_0 true a0_2 a0_3 l1_0 false a1_2 a1_3) = some r := by rw [if_neg (show ¬ (false = true) by decide)] at H; exact H
    clear H
    have H := H1
    clear H1
    have H' := Aside0.mk H
    clear H
    have hnb15 := NB210_211.out
    have hnc15 := NB211_210.out
    have hcz16_0 : w5.cell? ⟨gb210, 0, none⟩ = some (.slice A0_0 l0_0.length c0_0) := (blk_cell BK210.out 0).trans rfl
    have hcz16_1 : w5.cell? ⟨gb210, 1, none⟩ = some (.bool true) := (blk_cell BK210.out 1).trans rfl
    have hcz16_2 : w5.cell? ⟨gb210, 2, none⟩ = some (.string a0_2) := (blk_cell BK210.out 2).trans rfl
    have hcz16_3 : w5.cell? ⟨gb210, 3, none⟩ = some (.string a0_3) := (blk_cell BK210.out 3).trans rfl
    have hfz16_0 := blk_frozen BK210.out 0
    have hfz16_1 := blk_frozen BK210.out 1
    have hfz16_2 := blk_frozen BK210.out 2
    have hfz16_3 := blk_frozen BK210.out 3
    have hcz17_0 : w5.cell? ⟨gb211, 0, none⟩ = some (.slice A1_0 l1_0.length c1_0) := (blk_cell BK211.out 0).trans rfl
    have hcz17_1 : w5.cell? ⟨gb211, 1, none⟩ = some (.bool false) := (blk_cell BK211.out 1).trans rfl
    have hcz17_2 : w5.cell? ⟨gb211, 2, none⟩ = some (.string a1_2) := (blk_cell BK211.out 2).trans rfl
    have hcz17_3 : w5.cell? ⟨gb211, 3, none⟩ = some (.string a1_3) := (blk_cell BK211.out 3).trans rfl
    have hfz17_0 := blk_frozen BK211.out 0
    have hfz17_1 := blk_frozen BK211.out 1
    have hfz17_2 := blk_frozen BK211.out 2
    have hfz17_3 := blk_frozen BK211.out 3
    go_wp2
    go_meet
    case rel => exact ⟨_, (true), (by first | rfl | (simp; done) | (simp [*]; done)), H', ⟨by first | omega | exact Nat.le_refl _⟩, ⟨by (with_reducible repeat (first | refine blk_drewN ?_ _ | refine blk_drew ?_ | refine blk_alloc ?_ _)); exact BK210.out⟩, ⟨by (with_reducible repeat (first | refine blk_drewN ?_ _ | refine blk_drew ?_ | refine blk_alloc ?_ _)); exact BK211.out⟩, ⟨by repeat (first | (with_reducible first | exact HB.out | apply below_alloc | apply pw_below_drewN | apply below_drew1 | refine below_set ?_ GE210.out | refine below_set ?_ GE211.out) | exact HB.out)⟩⟩
  ·replace c6 := Bool.eq_false_iff.mpr c6
   subst c6
   have H1 : (spec_VerAsked.j0 k true l0_0 false a0_2 a0_3 l1_0 a1_1 a1_2 a1_3) = some r := by rw [if_neg (show ¬ (false = true) by decide)] at H; exact H
   clear H
   have H := H1
   clear H1
   have H' := Aside0.mk H
   clear H
   have hnb18 := NB210_211.out
   have hnc18 := NB211_210.out
   have hcz19_0 : w5.cell? ⟨gb210, 0, none⟩ = some (.slice A0_0 l0_0.length c0_0) := (blk_cell BK210.out 0).trans rfl
   have hcz19_1 : w5.cell? ⟨gb210, 1, none⟩ = some (.bool false) := (blk_cell BK210.out 1).trans rfl
   have hcz19_2 : w5.cell? ⟨gb210, 2, none⟩ = some (.string a0_2) := (blk_cell BK210.out 2).trans rfl
   have hcz19_3 : w5.cell? ⟨gb210, 3, none⟩ = some (.string a0_3) := (blk_cell BK210.out 3).trans rfl
   have hfz19_0 := blk_frozen BK210.out 0
   have hfz19_1 := blk_frozen BK210.out 1
   have hfz19_2 := blk_frozen BK210.out 2
   have hfz19_3 := blk_frozen BK210.out 3
   go_wp2
   go_meet
   case rel => exact ⟨_, (true), (by first | rfl | (simp; done) | (simp [*]; done)), H', ⟨by first | omega | exact Nat.le_refl _⟩, ⟨by (with_reducible repeat (first | refine blk_drewN ?_ _ | refine blk_drew ?_ | refine blk_alloc ?_ _)); exact BK210.out⟩, ⟨by (with_reducible repeat (first | refine blk_drewN ?_ _ | refine blk_drew ?_ | refine blk_alloc ?_ _)); exact BK211.out⟩, ⟨by repeat (first | (with_reducible first | exact HB.out | apply below_alloc | apply pw_below_drewN | apply below_drew1 | refine below_set ?_ GE210.out | refine below_set ?_ GE211.out) | exact HB.out)⟩⟩
 case rest =>
  clear HC3
  try clear c1
  try clear p2
  try clear c6
  try clear c7
  try clear c8
  try clear c8b0
  try clear c8b1
  try clear c9
  try clear c11
  try clear c12
  try clear c15
  try clear c18
  try clear hcz10_0
  try clear hcz10_1
  try clear hcz10_2
  try clear hcz10_3
  try clear hcz11_0
  try clear hcz11_1
  try clear hcz11_2
  try clear hcz11_3
  try clear hcz13_0
  try clear hcz13_1
  try clear hcz13_2
  try clear hcz13_3
  try clear hcz14_0
  try clear hcz14_1
  try clear hcz14_2
  try clear hcz14_3
  try clear hcz16_0
  try clear hcz16_1
  try clear hcz16_2
  try clear hcz16_3
  try clear hcz17_0
  try clear hcz17_1
  try clear hcz17_2
  try clear hcz17_3
  try clear hcz19_0
  try clear hcz19_1
  try clear hcz19_2
  try clear hcz19_3
  try clear hfz10_0
  try clear hfz10_1
  try clear hfz10_2
  try clear hfz10_3
  try clear hfz11_0
  try clear hfz11_1
  try clear hfz11_2
  try clear hfz11_3
  try clear hfz13_0
  try clear hfz13_1
  try clear hfz13_2
  try clear hfz13_3
  try clear hfz14_0
  try clear hfz14_1
  try clear hfz14_2
  try clear hfz14_3
  try clear hfz16_0
  try clear hfz16_1
  try clear hfz16_2
  try clear hfz16_3
  try clear hfz17_0
  try clear hfz17_1
  try clear hfz17_2
  try clear hfz17_3
  try clear hfz19_0
  try clear hfz19_1
  try clear hfz19_2
  try clear hfz19_3
  obtain ⟨kq, x25_2, rfl, HA, HJ2, BK210, BK211, HB⟩ := hcut
  cases kq with
  | zero => exact absurd HA.out (by simp [spec_VerAsked.j0])
  | succ kj2 =>
   have H := HA.out
   clear HA
   simp only [spec_VerAsked.j0] at H
   by_cases c20 : x25_2 = true
   ·subst c20
    have H1 : (some true) = some r := by rw [if_pos rfl] at H; exact H
    clear H
    have H := H1
    clear H1
    obtain rfl := Option.some.inj H
    go_wp2
    go_ret
    exact ⟨by first | rfl | (simp [errW_none, errW_some] <;> rfl) | (simp [*, errW_none, errW_some] <;> rfl), by repeat (first | (with_reducible first | exact HB.out | apply below_alloc | apply pw_below_drewN | apply below_drew1 | refine below_set ?_ GE210.out | refine below_set ?_ GE211.out) | exact HB.out)⟩
   ·replace c20 := Bool.eq_false_iff.mpr c20
    subst c20
    have H1 : ((spec_VerSplit.f kj2 a0_2).bind fun t212 => ((spec_VerSplit.f kj2 a1_2).bind fun t215 => (spec_VerAsked.l0 kj2 t212 t215 0))) = some r := by rw [if_neg (show ¬ (false = true) by decide)] at H; exact H
    clear H
    have H := H1
    clear H1
    replace H := Option.bind_eq_some_iff.mp H
    obtain ⟨t212, A210, H⟩ := H
    replace H : ((spec_VerSplit.f kj2 a1_2).bind fun t215 => (spec_VerAsked.l0 kj2 t212 t215 0)) = some r := H
    have A21 := Aside0.mk A210
    clear A210
    replace H := Option.bind_eq_some_iff.mp H
    obtain ⟨t215, A220, H⟩ := H
    replace H : (spec_VerAsked.l0 kj2 t212 t215 0) = some r := H
    have A22 := Aside0.mk A220
    clear A220
    have H' := Aside0.mk H
    clear H
    try go_wp2
    have n0_ := Aside0.mk (blk_drew BK210.out)
    have n1_ := Aside0.mk (blk_drew BK211.out)
    have n2_ := Aside0.mk (below_drew1 HB.out)
    clear BK210
    clear BK211
    clear HB
    have BK210 := n0_
    have BK211 := n1_
    have HB := n2_
    clear n0_ n1_ n2_
    refine start_ (n := 8) (S := fun w' => w'.cell? ⟨gb210, 0, none⟩ = some (.slice A0_0 l0_0.length c0_0) ∧ w'.cell? ⟨gb210, 1, none⟩ = some (.bool a0_1) ∧ w'.cell? ⟨gb210, 2, none⟩ = some (.string a0_2) ∧ w'.cell? ⟨gb210, 3, none⟩ = some (.string a0_3) ∧ w'.cell? ⟨gb211, 0, none⟩ = some (.slice A1_0 l1_0.length c1_0) ∧ w'.cell? ⟨gb211, 1, none⟩ = some (.bool a1_1) ∧ w'.cell? ⟨gb211, 2, none⟩ = some (.string a1_2) ∧ w'.cell? ⟨gb211, 3, none⟩ = some (.string a1_3)) (ds := []) #[false, false, false, false, false, false, false, false] (by kernel_rfl) rfl rfl ⟨(blk_cell BK210.out 0).trans rfl, (blk_cell BK210.out 1).trans rfl, (blk_cell BK210.out 2).trans rfl, (blk_cell BK210.out 3).trans rfl, (blk_cell BK211.out 0).trans rfl, (blk_cell BK211.out 1).trans rfl, (blk_cell BK211.out 2).trans rfl, (blk_cell BK211.out 3).trans rfl⟩ (fun hHeld => ?_); refine with_tabW spec_VerAsked.tab3 spec_VerAsked.bits3 (fun HT_ HW_ => ?_)
    generalize wc.drew = w23 at BK210 BK211 HB hHeld ⊢
    refine pure_ (i := 0) (N := some 26) (v := ?_) (a' := ?_) #[true, false, false, false, false, false, false, false] rfl rfl (any_of HT_.out (by kernel_rfl)) (fun _ _ _ h => h) (Or.inl ⟨by rfl, ?_⟩) ?_ ?_
    rotate_left
    ·intro w'
     go_simp
     with_reducible rfl
    rotate_left
    ·simp only [Act.put, List.setIfInBounds_toArray, List.set_cons_zero, List.set_cons_succ, i64_w, i32_w]
     rfl
    refine pure_ (i := 3) (N := some 29) (v := ?_) (a' := ?_) #[true, false, false, true, false, false, false, false] rfl rfl (any_of HT_.out (by kernel_rfl)) (fun _ _ _ h => h) (Or.inl ⟨by rfl, ?_⟩) ?_ ?_
    rotate_left
    ·intro w'
     go_simp
     with_reducible rfl
    rotate_left
    ·simp only [Act.put, List.setIfInBounds_toArray, List.set_cons_zero, List.set_cons_succ, i64_w, i32_w]
     rfl
    refine take_ (i := 1) (N := some 27) (v := ?_) (a' := ?_) #[true, true, false, true, false, false, false, false] rfl rfl (take_ofW HT_.out HW_.out (by kernel_rfl)) (fun _ _ _ h => h) (Or.inl ⟨by rfl, ?_⟩) hHeld ?_ ?_
    rotate_left
    ·rintro w' ⟨s0, s1, s2, s3, s4, s5, s6, s7⟩
     go_simp
     with_reducible rfl
    rotate_left
    ·simp only [Act.put, List.setIfInBounds_toArray, List.set_cons_zero, List.set_cons_succ, i64_w, i32_w]
     rfl
    refine take_ (i := 4) (N := some 30) (v := ?_) (a' := ?_) #[true, true, false, true, true, false, false, false] rfl rfl (take_ofW HT_.out HW_.out (by kernel_rfl)) (fun _ _ _ h => h) (Or.inl ⟨by rfl, ?_⟩) hHeld ?_ ?_
    rotate_left
    ·rintro w' ⟨s0, s1, s2, s3, s4, s5, s6, s7⟩
     go_simp
     with_reducible rfl
    rotate_left
    ·simp only [Act.put, List.setIfInBounds_toArray, List.set_cons_zero, List.set_cons_succ, i64_w, i32_w]
     rfl
    refine one_ (i := 2) (N := some 28) #[true, true, true, true, true, false, false, false] rfl rfl (one_of HT_.out (by kernel_rfl)) (by decide) (fun K hK => ?_)
    refine goes_ Tryd.func29 (by kernel_rfl) rfl #[.string a0_2] (by rfl) rfl rfl (by (try simp only [List.map_toArray, List.map_cons, List.map_nil]); first | done | rfl | (simp only [List.length_drop, List.length_take]; rfl)) ?_
    with_reducible refine (spec_VerSplit.calls kj2 a0_2 t212 _ A21.out).mono ?_
    rintro e w24 ⟨v213, rfl, ho0, hb⟩
    refine ⟨_, rfl, ?_⟩
    have n0_ := Aside0.mk (Kd.R_lower ho0 (below_size (by repeat (first | (with_reducible first | exact HB.out | apply below_alloc | apply pw_below_drewN | apply below_drew1 | refine below_set ?_ GE210.out | refine below_set ?_ GE211.out) | exact HB.out))))
    have n1_ := Aside0.mk (blk_below (g := gb210) (o := .cells #[.slice A0_0 l0_0.length c0_0, .bool a0_1, .string a0_2, .string a0_3] 25 (0, 0)) (by (with_reducible repeat (first | refine blk_drewN ?_ _ | refine blk_drew ?_ | refine blk_alloc ?_ _)); exact BK210.out) hb)
    have n2_ := Aside0.mk (blk_below (g := gb211) (o := .cells #[.slice A1_0 l1_0.length c1_0, .bool a1_1, .string a1_2, .string a1_3] 25 (0, 0)) (by (with_reducible repeat (first | refine blk_drewN ?_ _ | refine blk_drew ?_ | refine blk_alloc ?_ _)); exact BK211.out) hb)
    have n3_ := Aside0.mk (below_step (by repeat (first | (with_reducible first | exact HB.out | apply below_alloc | apply pw_below_drewN | apply below_drew1 | refine below_set ?_ GE210.out | refine below_set ?_ GE211.out) | exact HB.out)) hb)
    clear BK210
    clear BK211
    clear HB
    have HO214 := n0_
    have BK210 := n1_
    have BK211 := n2_
    have HB := n3_
    clear n0_ n1_ n2_ n3_
    (try clear hb)
    (try clear hb2)
    (try clear hk)
    (try clear hi)
    (try clear ho0)
    refine hK.out _ _ ⟨(blk_cell BK210.out 0).trans rfl, (blk_cell BK210.out 1).trans rfl, (blk_cell BK210.out 2).trans rfl, (blk_cell BK210.out 3).trans rfl, (blk_cell BK211.out 0).trans rfl, (blk_cell BK211.out 1).trans rfl, (blk_cell BK211.out 2).trans rfl, (blk_cell BK211.out 3).trans rfl⟩ (fun hHeld => ?_)
    clear hK K
    refine norm_ (a' := ?_) ?_ ?_
    rotate_left
    ·show Act.put _ (some 28) _ = _
     simp only [Act.put, List.setIfInBounds_toArray, List.set_cons_zero, List.set_cons_succ, i64_w, i32_w]
     rfl
    refine one_ (i := 5) (N := some 31) #[true, true, true, true, true, true, false, false] rfl rfl (one_of HT_.out (by kernel_rfl)) (by decide) (fun K hK => ?_)
    refine goes_ Tryd.func29 (by kernel_rfl) rfl #[.string a1_2] (by rfl) rfl rfl (by (try simp only [List.map_toArray, List.map_cons, List.map_nil]); first | done | rfl | (simp only [List.length_drop, List.length_take]; rfl)) ?_
    with_reducible refine (spec_VerSplit.calls kj2 a1_2 t215 _ A22.out).mono ?_
    rintro e w25 ⟨v216, rfl, ho0, hb⟩
    refine ⟨_, rfl, ?_⟩
    have n0_ := Aside0.mk (Kd.R_elder' (by (with_reducible repeat (first | apply Kd.R_alloc | apply Kd.R_drewN | apply Kd.R_drew)); exact HO214.out) (Kd.R_base ho0) hb)
    have n1_ := Aside0.mk (Kd.R_lower (Kd.R_new' ho0 (Kd.R_lt (by (with_reducible repeat (first | apply Kd.R_alloc | apply Kd.R_drewN | apply Kd.R_drew)); exact HO214.out))) (below_size (by repeat (first | (with_reducible first | exact HB.out | apply below_alloc | apply pw_below_drewN | apply below_drew1 | refine below_set ?_ GE210.out | refine below_set ?_ GE211.out) | exact HB.out))))
    have n2_ := Aside0.mk (blk_below (g := gb210) (o := .cells #[.slice A0_0 l0_0.length c0_0, .bool a0_1, .string a0_2, .string a0_3] 25 (0, 0)) (by (with_reducible repeat (first | refine blk_drewN ?_ _ | refine blk_drew ?_ | refine blk_alloc ?_ _)); exact BK210.out) hb)
    have n3_ := Aside0.mk (blk_below (g := gb211) (o := .cells #[.slice A1_0 l1_0.length c1_0, .bool a1_1, .string a1_2, .string a1_3] 25 (0, 0)) (by (with_reducible repeat (first | refine blk_drewN ?_ _ | refine blk_drew ?_ | refine blk_alloc ?_ _)); exact BK211.out) hb)
    have n4_ := Aside0.mk (below_step (by repeat (first | (with_reducible first | exact HB.out | apply below_alloc | apply pw_below_drewN | apply below_drew1 | refine below_set ?_ GE210.out | refine below_set ?_ GE211.out) | exact HB.out)) hb)
    clear HO214
    clear BK210
    clear BK211
    clear HB
    have HO214 := n0_
    have HO217 := n1_
    have BK210 := n2_
    have BK211 := n3_
    have HB := n4_
    clear n0_ n1_ n2_ n3_ n4_
    (try clear hb)
    (try clear hb2)
    (try clear hk)
    (try clear hi)
    (try clear ho0)
    refine hK.out _ _ ⟨(blk_cell BK210.out 0).trans rfl, (blk_cell BK210.out 1).trans rfl, (blk_cell BK210.out 2).trans rfl, (blk_cell BK210.out 3).trans rfl, (blk_cell BK211.out 0).trans rfl, (blk_cell BK211.out 1).trans rfl, (blk_cell BK211.out 2).trans rfl, (blk_cell BK211.out 3).trans rfl⟩ (fun hHeld => ?_)
    clear hK K
    refine norm_ (a' := ?_) ?_ ?_
    rotate_left
    ·show Act.put _ (some 31) _ = _
     simp only [Act.put, List.setIfInBounds_toArray, List.set_cons_zero, List.set_cons_succ, i64_w, i32_w]
     rfl
    refine pure_ (i := 6) (N := some 5) (v := ?_) (a' := ?_) #[true, true, true, true, true, true, true, false] rfl rfl (any_of HT_.out (by kernel_rfl)) (fun _ _ _ h => h) (Or.inl ⟨by rfl, ?_⟩) ?_ ?_
    rotate_left
    ·intro w'
     go_simp
     with_reducible rfl
    rotate_left
    ·simp only [Act.put, List.setIfInBounds_toArray, List.set_cons_zero, List.set_cons_succ, i64_w, i32_w]
     rfl
    refine pure_ (i := 7) (N := some 6) (v := ?_) (a' := ?_) #[true, true, true, true, true, true, true, true] rfl rfl (any_of HT_.out (by kernel_rfl)) (fun _ _ _ h => h) (Or.inl ⟨by rfl, ?_⟩) ?_ ?_
    rotate_left
    ·intro w'
     go_simp
     with_reducible rfl
    rotate_left
    ·simp only [Act.put, List.setIfInBounds_toArray, List.set_cons_zero, List.set_cons_succ, i64_w, i32_w]
     rfl
    refine done_ (done_of HT_.out (by kernel_rfl)) ?_
    try go_wp2
    go_loopg [7] kj2 (fun kq v7 w' => ∃ (x7_2 : Int), v7 = .int .i64 x7_2 ∧ Aside0 (spec_VerAsked.l0 kq t212 t215 x7_2 = some r) ∧ Aside0 (kq ≤ kj2) ∧ Aside0 (Kd.R Kd.string 9 w' w.heap.size (fun k_ => some k_ ≠ (v216 : Value).ownBlock) v213 t212) ∧ Aside0 (Kd.R Kd.string 9 w' w.heap.size (fun k_ => some k_ ≠ (v213 : Value).ownBlock) v216 t215) ∧ Aside0 (w'.heap[gb210]? = some (.cells #[(.slice A0_0 l0_0.length c0_0), .bool a0_1, .string a0_2, .string a0_3] 25 (0, 0))) ∧ Aside0 (w'.heap[gb211]? = some (.cells #[(.slice A1_0 l1_0.length c1_0), .bool a1_1, .string a1_2, .string a1_3] 25 (0, 0))) ∧ Aside0 (Below w.heap.size w w'))
    case atStart => exact ⟨(0), (by first | rfl | (simp; done) | (simp [*]; done)), H', ⟨Nat.le_refl _⟩, ⟨by (with_reducible repeat (first | apply Kd.R_alloc | apply Kd.R_drewN | apply Kd.R_drew)); exact Kd.R_mono HO214.out (fun _ hk => hk.2)⟩, ⟨by (with_reducible repeat (first | apply Kd.R_alloc | apply Kd.R_drewN | apply Kd.R_drew)); exact Kd.R_mono HO217.out (fun _ hk => hk.2)⟩, ⟨by (with_reducible repeat (first | refine blk_drewN ?_ _ | refine blk_drew ?_ | refine blk_alloc ?_ _)); exact BK210.out⟩, ⟨by (with_reducible repeat (first | refine blk_drewN ?_ _ | refine blk_drew ?_ | refine blk_alloc ?_ _)); exact BK211.out⟩, ⟨by repeat (first | (with_reducible first | exact HB.out | apply below_alloc | apply pw_below_drewN | apply below_drew1 | refine below_set ?_ GE210.out | refine below_set ?_ GE211.out) | exact HB.out)⟩⟩
    case round =>
     clear H'
     try clear c1
     try clear c2
     try clear p2
     try clear c6
     try clear c7
     try clear c8
     try clear c8b0
     try clear c8b1
     try clear c9
     try clear c11
     try clear c12
     try clear c15
     try clear c18
     try clear c20
     try clear hcz10_0
     try clear hcz10_1
     try clear hcz10_2
     try clear hcz10_3
     try clear hcz11_0
     try clear hcz11_1
     try clear hcz11_2
     try clear hcz11_3
     try clear hcz13_0
     try clear hcz13_1
     try clear hcz13_2
     try clear hcz13_3
     try clear hcz14_0
     try clear hcz14_1
     try clear hcz14_2
     try clear hcz14_3
     try clear hcz16_0
     try clear hcz16_1
     try clear hcz16_2
     try clear hcz16_3
     try clear hcz17_0
     try clear hcz17_1
     try clear hcz17_2
     try clear hcz17_3
     try clear hcz19_0
     try clear hcz19_1
     try clear hcz19_2
     try clear hcz19_3
     try clear hfz10_0
     try clear hfz10_1
     try clear hfz10_2
     try clear hfz10_3
     try clear hfz11_0
     try clear hfz11_1
     try clear hfz11_2
     try clear hfz11_3
     try clear hfz13_0
     try clear hfz13_1
     try clear hfz13_2
     try clear hfz13_3
     try clear hfz14_0
     try clear hfz14_1
     try clear hfz14_2
     try clear hfz14_3
     try clear hfz16_0
     try clear hfz16_1
     try clear hfz16_2
     try clear hfz16_3
     try clear hfz17_0
     try clear hfz17_1
     try clear hfz17_2
     try clear hfz17_3
     try clear hfz19_0
     try clear hfz19_1
     try clear hfz19_2
     try clear hfz19_3
     try clear p2
     obtain ⟨x7_2, rfl, HA, HK2, HO_5, HO_6, BK210, BK211, HB⟩ := hrel
     cases gk with
     | zero => exact absurd HA.out (by simp [spec_VerAsked.l0])
     | succ k2 =>
      have H := HA.out
      clear HA
      simp only [spec_VerAsked.l0] at H
      have HC26 := Aside0.mk H
      clear H
      go_upto_region 5 with (fail)
      go_cut [41] (fun v41 wc => ∃ (kq : Nat) (x41_25 : Bool), v41 = .bool x41_25 ∧ Aside0 (spec_VerAsked.j2 kq t212 t215 x7_2 x41_25 = some r) ∧ Aside0 (kq ≤ k2) ∧ Aside0 (Kd.R Kd.string 9 wc w.heap.size (fun k_ => some k_ ≠ (v216 : Value).ownBlock) v213 t212) ∧ Aside0 (Kd.R Kd.string 9 wc w.heap.size (fun k_ => some k_ ≠ (v213 : Value).ownBlock) v216 t215) ∧ Aside0 (wc.heap[gb210]? = some (.cells #[(.slice A0_0 l0_0.length c0_0), .bool a0_1, .string a0_2, .string a0_3] 25 (0, 0))) ∧ Aside0 (wc.heap[gb211]? = some (.cells #[(.slice A1_0 l1_0.length c1_0), .bool a1_1, .string a1_2, .string a1_3] 25 (0, 0))) ∧ Aside0 (Below w.heap.size w wc))
      case first =>
       have H := HC26.out
       clear HC26
       by_cases c27 : x7_2 < (t212.length : Int)
       ·rw [if_pos c27] at H
        have c27b0 : decide (x7_2 < (t212.length : Int)) = true := decide_eq_true c27
        clear c27
        (first | rw [c27b0] | (simp only [i64_w, i32_w]; rw [c27b0]) | skip)
        have H' := Aside0.mk H
        clear H
        obtain ⟨Ao28, co28, eo28⟩ := Kd.R_slice HO_5.out
        subst eo28
        obtain ⟨Ao29, co29, eo29⟩ := Kd.R_slice HO_6.out
        subst eo29
        go_wp2
        go_meet
        case rel => exact ⟨_, (decide (x7_2 < (t215.length : Int))), (by first | rfl | (simp; done) | (simp [*]; done)), H', ⟨by have := HJ2.out; have := HK2.out; first | omega | exact Nat.le_refl _⟩, ⟨by (with_reducible repeat (first | apply Kd.R_alloc | apply Kd.R_drewN | apply Kd.R_drew)); exact HO_5.out⟩, ⟨by (with_reducible repeat (first | apply Kd.R_alloc | apply Kd.R_drewN | apply Kd.R_drew)); exact HO_6.out⟩, ⟨by (with_reducible repeat (first | refine blk_drewN ?_ _ | refine blk_drew ?_ | refine blk_alloc ?_ _)); exact BK210.out⟩, ⟨by (with_reducible repeat (first | refine blk_drewN ?_ _ | refine blk_drew ?_ | refine blk_alloc ?_ _)); exact BK211.out⟩, ⟨by repeat (first | (with_reducible first | exact HB.out | apply below_alloc | apply pw_below_drewN | apply below_drew1 | refine below_set ?_ GE210.out | refine below_set ?_ GE211.out) | exact HB.out)⟩⟩
       ·rw [if_neg c27] at H
        have c27b0 : decide (x7_2 < (t212.length : Int)) = false := decide_eq_false c27
        clear c27
        (first | rw [c27b0] | (simp only [i64_w, i32_w]; rw [c27b0]) | skip)
        have H' := Aside0.mk H
        clear H
        obtain ⟨Ao30, co30, eo30⟩ := Kd.R_slice HO_5.out
        subst eo30
        go_wp2
        go_meet
        case rel => exact ⟨_, (false), (by first | rfl | (simp; done) | (simp [*]; done)), H', ⟨by have := HJ2.out; have := HK2.out; first | omega | exact Nat.le_refl _⟩, ⟨by (with_reducible repeat (first | apply Kd.R_alloc | apply Kd.R_drewN | apply Kd.R_drew)); exact HO_5.out⟩, ⟨by (with_reducible repeat (first | apply Kd.R_alloc | apply Kd.R_drewN | apply Kd.R_drew)); exact HO_6.out⟩, ⟨by (with_reducible repeat (first | refine blk_drewN ?_ _ | refine blk_drew ?_ | refine blk_alloc ?_ _)); exact BK210.out⟩, ⟨by (with_reducible repeat (first | refine blk_drewN ?_ _ | refine blk_drew ?_ | refine blk_alloc ?_ _)); exact BK211.out⟩, ⟨by repeat (first | (with_reducible first | exact HB.out | apply below_alloc | apply pw_below_drewN | apply below_drew1 | refine below_set ?_ GE210.out | refine below_set ?_ GE211.out) | exact HB.out)⟩⟩
      case rest =>
       clear HC26
       try clear c1
       try clear c2
       try clear p2
       try clear c6
       try clear c7
       try clear c8
       try clear c8b0
       try clear c8b1
       try clear c9
       try clear c11
       try clear c12
       try clear c15
       try clear c18
       try clear c20
       try clear c27
       try clear c27b0
       try clear c29
       try clear hcz10_0
       try clear hcz10_1
       try clear hcz10_2
       try clear hcz10_3
       try clear hcz11_0
       try clear hcz11_1
       try clear hcz11_2
       try clear hcz11_3
       try clear hcz13_0
       try clear hcz13_1
       try clear hcz13_2
       try clear hcz13_3
       try clear hcz14_0
       try clear hcz14_1
       try clear hcz14_2
       try clear hcz14_3
       try clear hcz16_0
       try clear hcz16_1
       try clear hcz16_2
       try clear hcz16_3
       try clear hcz17_0
       try clear hcz17_1
       try clear hcz17_2
       try clear hcz17_3
       try clear hcz19_0
       try clear hcz19_1
       try clear hcz19_2
       try clear hcz19_3
       try clear hfz10_0
       try clear hfz10_1
       try clear hfz10_2
       try clear hfz10_3
       try clear hfz11_0
       try clear hfz11_1
       try clear hfz11_2
       try clear hfz11_3
       try clear hfz13_0
       try clear hfz13_1
       try clear hfz13_2
       try clear hfz13_3
       try clear hfz14_0
       try clear hfz14_1
       try clear hfz14_2
       try clear hfz14_3
       try clear hfz16_0
       try clear hfz16_1
       try clear hfz16_2
       try clear hfz16_3
       try clear hfz17_0
       try clear hfz17_1
       try clear hfz17_2
       try clear hfz17_3
       try clear hfz19_0
       try clear hfz19_1
       try clear hfz19_2
       try clear hfz19_3
       try clear p2
       obtain ⟨kq, x41_25, rfl, HA, HJ25, HO_5, HO_6, BK210, BK211, HB⟩ := hcut
       cases kq with
       | zero => exact absurd HA.out (by simp [spec_VerAsked.j2])
       | succ kj25 =>
        have H := HA.out
        clear HA
        simp only [spec_VerAsked.j2] at H
        by_cases c31 : x41_25 = true
        ·subst c31
         have H1 : (if 0 ≤ x7_2 then (if x7_2 < (t212.length : Int) then (if x7_2 < (t215.length : Int) then ((spec_verMixed.f kj25 (rdOf ByteArray.empty t212 x7_2) (rdOf ByteArray.empty t215 x7_2)).bind fun t220 => (if t220 = true then (some false) else ((spec_verMixed.f kj25 (rdOf ByteArray.empty t215 x7_2) (rdOf ByteArray.empty t212 x7_2)).bind fun t223 => (if t223 = true then (some false) else (spec_VerAsked.l0 kj25 t212 t215 (wrap64 (x7_2 + 1))))))) else (none)) else (none)) else (none)) = some r := by rw [if_pos rfl] at H; exact H
         clear H
         have H := H1
         clear H1
         by_cases c32 : 0 ≤ x7_2
         ·rw [if_pos c32] at H
          have c32b0 : decide (0 ≤ x7_2) = true := decide_eq_true c32
          clear c32
          by_cases c33 : x7_2 < (t212.length : Int)
          ·rw [if_pos c33] at H
           have c33b0 : decide (x7_2 < (t212.length : Int)) = true := decide_eq_true c33
           clear c33
           by_cases c34 : x7_2 < (t215.length : Int)
           ·rw [if_pos c34] at H
            have c34b0 : decide (x7_2 < (t215.length : Int)) = true := decide_eq_true c34
            clear c34
            replace H := Option.bind_eq_some_iff.mp H
            obtain ⟨t220, A350, H⟩ := H
            replace H : (if t220 = true then (some false) else ((spec_verMixed.f kj25 (rdOf ByteArray.empty t215 x7_2) (rdOf ByteArray.empty t212 x7_2)).bind fun t223 => (if t223 = true then (some false) else (spec_VerAsked.l0 kj25 t212 t215 (wrap64 (x7_2 + 1)))))) = some r := H
            have A35 := Aside0.mk A350
            clear A350
            by_cases c36 : t220 = true
            ·subst c36
             have H1 : (some false) = some r := by rw [if_pos rfl] at H; exact H
             clear H
             have H := H1
             clear H1
             obtain rfl := Option.some.inj H
             try go_wp2
             have n0_ := Aside0.mk (Kd.R_drew HO_5.out)
             have n1_ := Aside0.mk (Kd.R_drew HO_6.out)
             have n2_ := Aside0.mk (blk_drew BK210.out)
             have n3_ := Aside0.mk (blk_drew BK211.out)
             have n4_ := Aside0.mk (below_drew1 HB.out)
             clear HO_5
             clear HO_6
             clear BK210
             clear BK211
             clear HB
             have HO_5 := n0_
             have HO_6 := n1_
             have BK210 := n2_
             have BK211 := n3_
             have HB := n4_
             clear n0_ n1_ n2_ n3_ n4_
             obtain ⟨Ao38, co38, eo38⟩ := Kd.R_slice HO_5.out
             (first | subst eo38 | (injection eo38 with f1_ f2_ f3_; have f4_ := f1_.symm; have f5_ := f3_.symm; clear f1_ f2_ f3_; subst f4_; subst f5_))
             have p218 : 0 ≤ (x7_2 : Int) := of_decide_eq_true (by assumption)
             have q218 : x7_2 < (t212.length : Int) := of_decide_eq_true (by assumption)
             obtain ⟨ad218, e218, hx218_0⟩ := Kd.at_string (Kd.R_reads' HO_5.out).2.2 x7_2 p218 q218
             cases e218
             replace p218 := eq_true p218
             replace q218 := eq_true q218
             obtain ⟨Ao39, co39, eo39⟩ := Kd.R_slice HO_6.out
             (first | subst eo39 | (injection eo39 with f1_ f2_ f3_; have f4_ := f1_.symm; have f5_ := f3_.symm; clear f1_ f2_ f3_; subst f4_; subst f5_))
             have p219 : 0 ≤ (x7_2 : Int) := of_decide_eq_true (by assumption)
             have q219 : x7_2 < (t215.length : Int) := of_decide_eq_true (by assumption)
             obtain ⟨ad219, e219, hx219_0⟩ := Kd.at_string (Kd.R_reads' HO_6.out).2.2 x7_2 p219 q219
             cases e219
             replace p219 := eq_true p219
             replace q219 := eq_true q219
             refine start_ (n := 20) (S := fun w' => w'.cell? (ad218.add (x7_2).toNat) = some (.string (rdOf ByteArray.empty t212 x7_2)) ∧ w'.cell? (ad219.add (x7_2).toNat) = some (.string (rdOf ByteArray.empty t215 x7_2))) (ds := []) #[false, false, false, false, false, false, false, false, false, false, false, false, false, false, false, false, false, false, false, false] (by kernel_rfl) rfl rfl ⟨hx218_0, hx219_0⟩ (fun hHeld => ?_); refine with_tabW spec_VerAsked.tab7 spec_VerAsked.bits7 (fun HT_ HW_ => ?_)
             generalize wc.drew = w37 at HO_5 HO_6 BK210 BK211 HB hx218_0 hx219_0 hHeld ⊢
             refine pure_ (i := 0) (N := some 44) (v := ?_) (a' := ?_) #[true, false, false, false, false, false, false, false, false, false, false, false, false, false, false, false, false, false, false, false] rfl rfl (any_of HT_.out (by kernel_rfl)) (fun _ _ _ h => h) (Or.inl ⟨by rfl, ?_⟩) ?_ ?_
             rotate_left
             ·intro w'
              go_simp
              with_reducible rfl
             rotate_left
             ·simp only [Act.put, List.setIfInBounds_toArray, List.set_cons_zero, List.set_cons_succ, i64_w, i32_w]
              rfl
             refine pure_ (i := 1) (N := some 45) (v := ?_) (a' := ?_) #[true, true, false, false, false, false, false, false, false, false, false, false, false, false, false, false, false, false, false, false] rfl rfl (any_of HT_.out (by kernel_rfl)) (fun _ _ _ h => h) (Or.inl ⟨by rfl, ?_⟩) ?_ ?_
             rotate_left
             ·intro w'
              go_simp
              with_reducible rfl
             rotate_left
             ·simp only [Act.put, List.setIfInBounds_toArray, List.set_cons_zero, List.set_cons_succ, i64_w, i32_w]
              rfl
             refine pure_ (i := 2) (N := some 46) (v := ?_) (a' := ?_) #[true, true, true, false, false, false, false, false, false, false, false, false, false, false, false, false, false, false, false, false] rfl rfl (any_of HT_.out (by kernel_rfl)) (fun _ _ _ h => h) (Or.inl ⟨by rfl, ?_⟩) ?_ ?_
             rotate_left
             ·intro w'
              go_simp
              with_reducible rfl
             rotate_left
             ·simp only [Act.put, List.setIfInBounds_toArray, List.set_cons_zero, List.set_cons_succ, i64_w, i32_w]
              rfl
             refine pure_ (i := 4) (N := some 48) (v := ?_) (a' := ?_) #[true, true, true, false, true, false, false, false, false, false, false, false, false, false, false, false, false, false, false, false] rfl rfl (any_of HT_.out (by kernel_rfl)) (fun _ _ _ h => h) (Or.inl ⟨by rfl, ?_⟩) ?_ ?_
             rotate_left
             ·intro w'
              go_simp
              with_reducible rfl
             rotate_left
             ·simp only [Act.put, List.setIfInBounds_toArray, List.set_cons_zero, List.set_cons_succ, i64_w, i32_w]
              rfl
             refine pure_ (i := 5) (N := some 49) (v := ?_) (a' := ?_) #[true, true, true, false, true, true, false, false, false, false, false, false, false, false, false, false, false, false, false, false] rfl rfl (any_of HT_.out (by kernel_rfl)) (fun _ _ _ h => h) (Or.inl ⟨by rfl, ?_⟩) ?_ ?_
             rotate_left
             ·intro w'
              go_simp
              with_reducible rfl
             rotate_left
             ·simp only [Act.put, List.setIfInBounds_toArray, List.set_cons_zero, List.set_cons_succ, i64_w, i32_w]
              rfl
             refine pure_ (i := 6) (N := some 50) (v := ?_) (a' := ?_) #[true, true, true, false, true, true, true, false, false, false, false, false, false, false, false, false, false, false, false, false] rfl rfl (any_of HT_.out (by kernel_rfl)) (fun _ _ _ h => h) (Or.inl ⟨by rfl, ?_⟩) ?_ ?_
             rotate_left
             ·intro w'
              go_simp
              with_reducible rfl
             rotate_left
             ·simp only [Act.put, List.setIfInBounds_toArray, List.set_cons_zero, List.set_cons_succ, i64_w, i32_w]
              rfl
             refine take_ (i := 3) (N := some 47) (v := ?_) (a' := ?_) #[true, true, true, true, true, true, true, false, false, false, false, false, false, false, false, false, false, false, false, false] rfl rfl (take_ofW HT_.out HW_.out (by kernel_rfl)) (fun _ _ _ h => h) (Or.inl ⟨by rfl, ?_⟩) hHeld ?_ ?_
             rotate_left
             ·rintro w' ⟨s0, s1⟩
              go_simp
              with_reducible rfl
             rotate_left
             ·simp only [Act.put, List.setIfInBounds_toArray, List.set_cons_zero, List.set_cons_succ, i64_w, i32_w]
              rfl
             refine take_ (i := 7) (N := some 51) (v := ?_) (a' := ?_) #[true, true, true, true, true, true, true, true, false, false, false, false, false, false, false, false, false, false, false, false] rfl rfl (take_ofW HT_.out HW_.out (by kernel_rfl)) (fun _ _ _ h => h) (Or.inl ⟨by rfl, ?_⟩) hHeld ?_ ?_
             rotate_left
             ·rintro w' ⟨s0, s1⟩
              go_simp
              with_reducible rfl
             rotate_left
             ·simp only [Act.put, List.setIfInBounds_toArray, List.set_cons_zero, List.set_cons_succ, i64_w, i32_w]
              rfl
             refine one_ (i := 8) (N := some 52) #[true, true, true, true, true, true, true, true, true, false, false, false, false, false, false, false, false, false, false, false] rfl rfl (one_of HT_.out (by kernel_rfl)) (by decide) (fun K hK => ?_)
             refine goes_ Tryd.func30 (by kernel_rfl) rfl #[.string (rdOf ByteArray.empty t212 x7_2), .string (rdOf ByteArray.empty t215 x7_2)] (by rfl) rfl rfl (by (try simp only [List.map_toArray, List.map_cons, List.map_nil]); first | done | rfl | (simp only [List.length_drop, List.length_take]; rfl)) ?_
             with_reducible refine (spec_verMixed.calls kj25 (rdOf ByteArray.empty t212 x7_2) (rdOf ByteArray.empty t215 x7_2) true _ A35.out).mono ?_
             rintro e w' ⟨rfl, ⟨nd, rfl⟩⟩
             refine ⟨_, rfl, ?_⟩
             refine hK.out _ _ ⟨hHeld.1, hHeld.2⟩ (fun hHeld => ?_)
             clear hK K
             refine norm_ (a' := ?_) ?_ ?_
             rotate_left
             ·show Act.put _ (some 52) _ = _
              simp only [Act.put, List.setIfInBounds_toArray, List.set_cons_zero, List.set_cons_succ, i64_w, i32_w]
              rfl
             refine pure_ (i := 9) (N := some 53) (v := ?_) (a' := ?_) #[true, true, true, true, true, true, true, true, true, true, false, false, false, false, false, false, false, false, false, false] rfl rfl (any_of HT_.out (by kernel_rfl)) (fun _ _ _ h => h) (Or.inl ⟨by rfl, ?_⟩) ?_ ?_
             rotate_left
             ·intro w'
              go_simp
              with_reducible rfl
             rotate_left
             ·simp only [Act.put, List.setIfInBounds_toArray, List.set_cons_zero, List.set_cons_succ, i64_w, i32_w]
              rfl
             refine pure_ (i := 10) (N := some 54) (v := undef) (a' := ?_) #[true, true, true, true, true, true, true, true, true, true, true, false, false, false, false, false, false, false, false, false] rfl rfl (any_of HT_.out (by kernel_rfl)) (fun _ _ _ h => h) (Or.inr ⟨by rfl, rfl⟩) ?_ ?_
             rotate_left
             ·simp only [Act.put, List.setIfInBounds_toArray, List.set_cons_zero, List.set_cons_succ, i64_w, i32_w]
              rfl
             refine pure_ (i := 11) (N := some 55) (v := undef) (a' := ?_) #[true, true, true, true, true, true, true, true, true, true, true, true, false, false, false, false, false, false, false, false] rfl rfl (any_of HT_.out (by kernel_rfl)) (fun _ _ _ h => h) (Or.inr ⟨by rfl, rfl⟩) ?_ ?_
             rotate_left
             ·simp only [Act.put, List.setIfInBounds_toArray, List.set_cons_zero, List.set_cons_succ, i64_w, i32_w]
              rfl
             refine pure_ (i := 12) (N := some 56) (v := undef) (a' := ?_) #[true, true, true, true, true, true, true, true, true, true, true, true, true, false, false, false, false, false, false, false] rfl rfl (any_of HT_.out (by kernel_rfl)) (fun _ _ _ h => h) (Or.inr ⟨by rfl, rfl⟩) ?_ ?_
             rotate_left
             ·simp only [Act.put, List.setIfInBounds_toArray, List.set_cons_zero, List.set_cons_succ, i64_w, i32_w]
              rfl
             refine pure_ (i := 13) (N := some 57) (v := undef) (a' := ?_) #[true, true, true, true, true, true, true, true, true, true, true, true, true, true, false, false, false, false, false, false] rfl rfl (any_of HT_.out (by kernel_rfl)) (fun _ _ _ h => h) (Or.inr ⟨by rfl, rfl⟩) ?_ ?_
             rotate_left
             ·simp only [Act.put, List.setIfInBounds_toArray, List.set_cons_zero, List.set_cons_succ, i64_w, i32_w]
              rfl
             refine pure_ (i := 14) (N := some 58) (v := undef) (a' := ?_) #[true, true, true, true, true, true, true, true, true, true, true, true, true, true, true, false, false, false, false, false] rfl rfl (any_of HT_.out (by kernel_rfl)) (fun _ _ _ h => h) (Or.inr ⟨by rfl, rfl⟩) ?_ ?_
             rotate_left
             ·simp only [Act.put, List.setIfInBounds_toArray, List.set_cons_zero, List.set_cons_succ, i64_w, i32_w]
              rfl
             refine pure_ (i := 15) (N := some 59) (v := undef) (a' := ?_) #[true, true, true, true, true, true, true, true, true, true, true, true, true, true, true, true, false, false, false, false] rfl rfl (any_of HT_.out (by kernel_rfl)) (fun _ _ _ h => h) (Or.inr ⟨by rfl, rfl⟩) ?_ ?_
             rotate_left
             ·simp only [Act.put, List.setIfInBounds_toArray, List.set_cons_zero, List.set_cons_succ, i64_w, i32_w]
              rfl
             refine pure_ (i := 16) (N := some 60) (v := undef) (a' := ?_) #[true, true, true, true, true, true, true, true, true, true, true, true, true, true, true, true, true, false, false, false] rfl rfl (any_of HT_.out (by kernel_rfl)) (fun _ _ _ h => h) (Or.inr ⟨by rfl, rfl⟩) ?_ ?_
             rotate_left
             ·simp only [Act.put, List.setIfInBounds_toArray, List.set_cons_zero, List.set_cons_succ, i64_w, i32_w]
              rfl
             refine pure_ (i := 17) (N := some 61) (v := undef) (a' := ?_) #[true, true, true, true, true, true, true, true, true, true, true, true, true, true, true, true, true, true, false, false] rfl rfl (any_of HT_.out (by kernel_rfl)) (fun _ _ _ h => h) (Or.inr ⟨by rfl, rfl⟩) ?_ ?_
             rotate_left
             ·simp only [Act.put, List.setIfInBounds_toArray, List.set_cons_zero, List.set_cons_succ, i64_w, i32_w]
              rfl
             refine pure_ (i := 18) (N := some 62) (v := undef) (a' := ?_) #[true, true, true, true, true, true, true, true, true, true, true, true, true, true, true, true, true, true, true, false] rfl rfl (any_of HT_.out (by kernel_rfl)) (fun _ _ _ h => h) (Or.inr ⟨by rfl, rfl⟩) ?_ ?_
             rotate_left
             ·simp only [Act.put, List.setIfInBounds_toArray, List.set_cons_zero, List.set_cons_succ, i64_w, i32_w]
              rfl
             refine pure_ (i := 19) (N := some 63) (v := ?_) (a' := ?_) #[true, true, true, true, true, true, true, true, true, true, true, true, true, true, true, true, true, true, true, true] rfl rfl (any_of HT_.out (by kernel_rfl)) (fun _ _ _ h => h) (Or.inl ⟨by rfl, ?_⟩) ?_ ?_
             rotate_left
             ·intro w'
              go_simp
              with_reducible rfl
             rotate_left
             ·simp only [Act.put, List.setIfInBounds_toArray, List.set_cons_zero, List.set_cons_succ, i64_w, i32_w]
              rfl
             refine done_ (done_of HT_.out (by kernel_rfl)) ?_
             try go_wp2
             go_ret
             exact ⟨by first | rfl | (simp [errW_none, errW_some] <;> rfl) | (simp [*, errW_none, errW_some] <;> rfl), by repeat (first | (with_reducible first | exact HB.out | apply below_alloc | apply pw_below_drewN | apply below_drew1 | refine below_set ?_ GE210.out | refine below_set ?_ GE211.out) | exact HB.out)⟩
            ·replace c36 := Bool.eq_false_iff.mpr c36
             subst c36
             have H1 : ((spec_verMixed.f kj25 (rdOf ByteArray.empty t215 x7_2) (rdOf ByteArray.empty t212 x7_2)).bind fun t223 => (if t223 = true then (some false) else (spec_VerAsked.l0 kj25 t212 t215 (wrap64 (x7_2 + 1))))) = some r := by rw [if_neg (show ¬ (false = true) by decide)] at H; exact H
             clear H
             have H := H1
             clear H1
             replace H := Option.bind_eq_some_iff.mp H
             obtain ⟨t223, A400, H⟩ := H
             replace H : (if t223 = true then (some false) else (spec_VerAsked.l0 kj25 t212 t215 (wrap64 (x7_2 + 1)))) = some r := H
             have A40 := Aside0.mk A400
             clear A400
             by_cases c41 : t223 = true
             ·subst c41
              have H1 : (some false) = some r := by rw [if_pos rfl] at H; exact H
              clear H
              have H := H1
              clear H1
              obtain rfl := Option.some.inj H
              try go_wp2
              have n0_ := Aside0.mk (Kd.R_drew HO_5.out)
              have n1_ := Aside0.mk (Kd.R_drew HO_6.out)
              have n2_ := Aside0.mk (blk_drew BK210.out)
              have n3_ := Aside0.mk (blk_drew BK211.out)
              have n4_ := Aside0.mk (below_drew1 HB.out)
              clear HO_5
              clear HO_6
              clear BK210
              clear BK211
              clear HB
              have HO_5 := n0_
              have HO_6 := n1_
              have BK210 := n2_
              have BK211 := n3_
              have HB := n4_
              clear n0_ n1_ n2_ n3_ n4_
              obtain ⟨Ao43, co43, eo43⟩ := Kd.R_slice HO_5.out
              (first | subst eo43 | (injection eo43 with f1_ f2_ f3_; have f4_ := f1_.symm; have f5_ := f3_.symm; clear f1_ f2_ f3_; subst f4_; subst f5_))
              have p218 : 0 ≤ (x7_2 : Int) := of_decide_eq_true (by assumption)
              have q218 : x7_2 < (t212.length : Int) := of_decide_eq_true (by assumption)
              obtain ⟨ad218, e218, hx218_0⟩ := Kd.at_string (Kd.R_reads' HO_5.out).2.2 x7_2 p218 q218
              cases e218
              replace p218 := eq_true p218
              replace q218 := eq_true q218
              obtain ⟨Ao44, co44, eo44⟩ := Kd.R_slice HO_6.out
              (first | subst eo44 | (injection eo44 with f1_ f2_ f3_; have f4_ := f1_.symm; have f5_ := f3_.symm; clear f1_ f2_ f3_; subst f4_; subst f5_))
              have p219 : 0 ≤ (x7_2 : Int) := of_decide_eq_true (by assumption)
              have q219 : x7_2 < (t215.length : Int) := of_decide_eq_true (by assumption)
              obtain ⟨ad219, e219, hx219_0⟩ := Kd.at_string (Kd.R_reads' HO_6.out).2.2 x7_2 p219 q219
              cases e219
              replace p219 := eq_true p219
              replace q219 := eq_true q219
              have p221 : 0 ≤ (x7_2 : Int) := of_decide_eq_true (by assumption)
              have q221 : x7_2 < (t215.length : Int) := of_decide_eq_true (by assumption)
              obtain ⟨ad221, e221, hx221_0⟩ := Kd.at_string (Kd.R_reads' HO_6.out).2.2 x7_2 p221 q221
              obtain rfl : ad219 = ad221 := (by injection e221)
              replace p221 := eq_true p221
              replace q221 := eq_true q221
              have p222 : 0 ≤ (x7_2 : Int) := of_decide_eq_true (by assumption)
              have q222 : x7_2 < (t212.length : Int) := of_decide_eq_true (by assumption)
              obtain ⟨ad222, e222, hx222_0⟩ := Kd.at_string (Kd.R_reads' HO_5.out).2.2 x7_2 p222 q222
              obtain rfl : ad218 = ad222 := (by injection e222)
              replace p222 := eq_true p222
              replace q222 := eq_true q222
              refine start_ (n := 20) (S := fun w' => w'.cell? (ad218.add (x7_2).toNat) = some (.string (rdOf ByteArray.empty t212 x7_2)) ∧ w'.cell? (ad219.add (x7_2).toNat) = some (.string (rdOf ByteArray.empty t215 x7_2)) ∧ w'.cell? (ad219.add (x7_2).toNat) = some (.string (rdOf ByteArray.empty t215 x7_2)) ∧ w'.cell? (ad218.add (x7_2).toNat) = some (.string (rdOf ByteArray.empty t212 x7_2))) (ds := []) #[false, false, false, false, false, false, false, false, false, false, false, false, false, false, false, false, false, false, false, false] (by kernel_rfl) rfl rfl ⟨hx218_0, hx219_0, hx221_0, hx222_0⟩ (fun hHeld => ?_); refine with_tabW spec_VerAsked.tab7 spec_VerAsked.bits7 (fun HT_ HW_ => ?_)
              generalize wc.drew = w42 at HO_5 HO_6 BK210 BK211 HB hx218_0 hx219_0 hx221_0 hx222_0 hHeld ⊢
              refine pure_ (i := 0) (N := some 44) (v := ?_) (a' := ?_) #[true, false, false, false, false, false, false, false, false, false, false, false, false, false, false, false, false, false, false, false] rfl rfl (any_of HT_.out (by kernel_rfl)) (fun _ _ _ h => h) (Or.inl ⟨by rfl, ?_⟩) ?_ ?_
              rotate_left
              ·intro w'
               go_simp
               with_reducible rfl
              rotate_left
              ·simp only [Act.put, List.setIfInBounds_toArray, List.set_cons_zero, List.set_cons_succ, i64_w, i32_w]
               rfl
              refine pure_ (i := 1) (N := some 45) (v := ?_) (a' := ?_) #[true, true, false, false, false, false, false, false, false, false, false, false, false, false, false, false, false, false, false, false] rfl rfl (any_of HT_.out (by kernel_rfl)) (fun _ _ _ h => h) (Or.inl ⟨by rfl, ?_⟩) ?_ ?_
              rotate_left
              ·intro w'
               go_simp
               with_reducible rfl
              rotate_left
              ·simp only [Act.put, List.setIfInBounds_toArray, List.set_cons_zero, List.set_cons_succ, i64_w, i32_w]
               rfl
              refine pure_ (i := 2) (N := some 46) (v := ?_) (a' := ?_) #[true, true, true, false, false, false, false, false, false, false, false, false, false, false, false, false, false, false, false, false] rfl rfl (any_of HT_.out (by kernel_rfl)) (fun _ _ _ h => h) (Or.inl ⟨by rfl, ?_⟩) ?_ ?_
              rotate_left
              ·intro w'
               go_simp
               with_reducible rfl
              rotate_left
              ·simp only [Act.put, List.setIfInBounds_toArray, List.set_cons_zero, List.set_cons_succ, i64_w, i32_w]
               rfl
              refine pure_ (i := 4) (N := some 48) (v := ?_) (a' := ?_) #[true, true, true, false, true, false, false, false, false, false, false, false, false, false, false, false, false, false, false, false] rfl rfl (any_of HT_.out (by kernel_rfl)) (fun _ _ _ h => h) (Or.inl ⟨by rfl, ?_⟩) ?_ ?_
              rotate_left
              ·intro w'
               go_simp
               with_reducible rfl
              rotate_left
              ·simp only [Act.put, List.setIfInBounds_toArray, List.set_cons_zero, List.set_cons_succ, i64_w, i32_w]
               rfl
              refine pure_ (i := 5) (N := some 49) (v := ?_) (a' := ?_) #[true, true, true, false, true, true, false, false, false, false, false, false, false, false, false, false, false, false, false, false] rfl rfl (any_of HT_.out (by kernel_rfl)) (fun _ _ _ h => h) (Or.inl ⟨by rfl, ?_⟩) ?_ ?_
              rotate_left
              ·intro w'
               go_simp
               with_reducible rfl
              rotate_left
              ·simp only [Act.put, List.setIfInBounds_toArray, List.set_cons_zero, List.set_cons_succ, i64_w, i32_w]
               rfl
              refine pure_ (i := 6) (N := some 50) (v := ?_) (a' := ?_) #[true, true, true, false, true, true, true, false, false, false, false, false, false, false, false, false, false, false, false, false] rfl rfl (any_of HT_.out (by kernel_rfl)) (fun _ _ _ h => h) (Or.inl ⟨by rfl, ?_⟩) ?_ ?_
              rotate_left
              ·intro w'
               go_simp
               with_reducible rfl
              rotate_left
              ·simp only [Act.put, List.setIfInBounds_toArray, List.set_cons_zero, List.set_cons_succ, i64_w, i32_w]
               rfl
              refine take_ (i := 3) (N := some 47) (v := ?_) (a' := ?_) #[true, true, true, true, true, true, true, false, false, false, false, false, false, false, false, false, false, false, false, false] rfl rfl (take_ofW HT_.out HW_.out (by kernel_rfl)) (fun _ _ _ h => h) (Or.inl ⟨by rfl, ?_⟩) hHeld ?_ ?_
              rotate_left
              ·rintro w' ⟨s0, s1, s2, s3⟩
               go_simp
               with_reducible rfl
              rotate_left
              ·simp only [Act.put, List.setIfInBounds_toArray, List.set_cons_zero, List.set_cons_succ, i64_w, i32_w]
               rfl
              refine take_ (i := 7) (N := some 51) (v := ?_) (a' := ?_) #[true, true, true, true, true, true, true, true, false, false, false, false, false, false, false, false, false, false, false, false] rfl rfl (take_ofW HT_.out HW_.out (by kernel_rfl)) (fun _ _ _ h => h) (Or.inl ⟨by rfl, ?_⟩) hHeld ?_ ?_
              rotate_left
              ·rintro w' ⟨s0, s1, s2, s3⟩
               go_simp
               with_reducible rfl
              rotate_left
              ·simp only [Act.put, List.setIfInBounds_toArray, List.set_cons_zero, List.set_cons_succ, i64_w, i32_w]
               rfl
              refine one_ (i := 8) (N := some 52) #[true, true, true, true, true, true, true, true, true, false, false, false, false, false, false, false, false, false, false, false] rfl rfl (one_of HT_.out (by kernel_rfl)) (by decide) (fun K hK => ?_)
              refine goes_ Tryd.func30 (by kernel_rfl) rfl #[.string (rdOf ByteArray.empty t212 x7_2), .string (rdOf ByteArray.empty t215 x7_2)] (by rfl) rfl rfl (by (try simp only [List.map_toArray, List.map_cons, List.map_nil]); first | done | rfl | (simp only [List.length_drop, List.length_take]; rfl)) ?_
              with_reducible refine (spec_verMixed.calls kj25 (rdOf ByteArray.empty t212 x7_2) (rdOf ByteArray.empty t215 x7_2) false _ A35.out).mono ?_
              rintro e w' ⟨rfl, ⟨nd, rfl⟩⟩
              refine ⟨_, rfl, ?_⟩
              refine hK.out _ _ ⟨hHeld.1, hHeld.2.1, hHeld.2.2.1, hHeld.2.2.2⟩ (fun hHeld => ?_)
              clear hK K
              refine norm_ (a' := ?_) ?_ ?_
              rotate_left
              ·show Act.put _ (some 52) _ = _
               simp only [Act.put, List.setIfInBounds_toArray, List.set_cons_zero, List.set_cons_succ, i64_w, i32_w]
               rfl
              refine pure_ (i := 9) (N := some 53) (v := ?_) (a' := ?_) #[true, true, true, true, true, true, true, true, true, true, false, false, false, false, false, false, false, false, false, false] rfl rfl (any_of HT_.out (by kernel_rfl)) (fun _ _ _ h => h) (Or.inl ⟨by rfl, ?_⟩) ?_ ?_
              rotate_left
              ·intro w'
               go_simp
               with_reducible rfl
              rotate_left
              ·simp only [Act.put, List.setIfInBounds_toArray, List.set_cons_zero, List.set_cons_succ, i64_w, i32_w]
               rfl
              refine pure_ (i := 10) (N := some 54) (v := ?_) (a' := ?_) #[true, true, true, true, true, true, true, true, true, true, true, false, false, false, false, false, false, false, false, false] rfl rfl (any_of HT_.out (by kernel_rfl)) (fun _ _ _ h => h) (Or.inl ⟨by rfl, ?_⟩) ?_ ?_
              rotate_left
              ·intro w'
               go_simp
               with_reducible rfl
              rotate_left
              ·simp only [Act.put, List.setIfInBounds_toArray, List.set_cons_zero, List.set_cons_succ, i64_w, i32_w]
               rfl
              refine pure_ (i := 11) (N := some 55) (v := ?_) (a' := ?_) #[true, true, true, true, true, true, true, true, true, true, true, true, false, false, false, false, false, false, false, false] rfl rfl (any_of HT_.out (by kernel_rfl)) (fun _ _ _ h => h) (Or.inl ⟨by rfl, ?_⟩) ?_ ?_
              rotate_left
              ·intro w'
               go_simp
               with_reducible rfl
              rotate_left
              ·simp only [Act.put, List.setIfInBounds_toArray, List.set_cons_zero, List.set_cons_succ, i64_w, i32_w]
               rfl
              refine pure_ (i := 12) (N := some 56) (v := ?_) (a' := ?_) #[true, true, true, true, true, true, true, true, true, true, true, true, true, false, false, false, false, false, false, false] rfl rfl (any_of HT_.out (by kernel_rfl)) (fun _ _ _ h => h) (Or.inl ⟨by rfl, ?_⟩) ?_ ?_
              rotate_left
              ·intro w'
               go_simp
               with_reducible rfl
              rotate_left
              ·simp only [Act.put, List.setIfInBounds_toArray, List.set_cons_zero, List.set_cons_succ, i64_w, i32_w]
               rfl
              refine pure_ (i := 14) (N := some 58) (v := ?_) (a' := ?_) #[true, true, true, true, true, true, true, true, true, true, true, true, true, false, true, false, false, false, false, false] rfl rfl (any_of HT_.out (by kernel_rfl)) (fun _ _ _ h => h) (Or.inl ⟨by rfl, ?_⟩) ?_ ?_
              rotate_left
              ·intro w'
               go_simp
               with_reducible rfl
              rotate_left
              ·simp only [Act.put, List.setIfInBounds_toArray, List.set_cons_zero, List.set_cons_succ, i64_w, i32_w]
               rfl
              refine pure_ (i := 15) (N := some 59) (v := ?_) (a' := ?_) #[true, true, true, true, true, true, true, true, true, true, true, true, true, false, true, true, false, false, false, false] rfl rfl (any_of HT_.out (by kernel_rfl)) (fun _ _ _ h => h) (Or.inl ⟨by rfl, ?_⟩) ?_ ?_
              rotate_left
              ·intro w'
               go_simp
               with_reducible rfl
              rotate_left
              ·simp only [Act.put, List.setIfInBounds_toArray, List.set_cons_zero, List.set_cons_succ, i64_w, i32_w]
               rfl
              refine pure_ (i := 16) (N := some 60) (v := ?_) (a' := ?_) #[true, true, true, true, true, true, true, true, true, true, true, true, true, false, true, true, true, false, false, false] rfl rfl (any_of HT_.out (by kernel_rfl)) (fun _ _ _ h => h) (Or.inl ⟨by rfl, ?_⟩) ?_ ?_
              rotate_left
              ·intro w'
               go_simp
               with_reducible rfl
              rotate_left
              ·simp only [Act.put, List.setIfInBounds_toArray, List.set_cons_zero, List.set_cons_succ, i64_w, i32_w]
               rfl
              refine take_ (i := 13) (N := some 57) (v := ?_) (a' := ?_) #[true, true, true, true, true, true, true, true, true, true, true, true, true, true, true, true, true, false, false, false] rfl rfl (take_ofW HT_.out HW_.out (by kernel_rfl)) (fun _ _ _ h => h) (Or.inl ⟨by rfl, ?_⟩) hHeld ?_ ?_
              rotate_left
              ·rintro w' ⟨s0, s1, s2, s3⟩
               go_simp
               with_reducible rfl
              rotate_left
              ·simp only [Act.put, List.setIfInBounds_toArray, List.set_cons_zero, List.set_cons_succ, i64_w, i32_w]
               rfl
              refine take_ (i := 17) (N := some 61) (v := ?_) (a' := ?_) #[true, true, true, true, true, true, true, true, true, true, true, true, true, true, true, true, true, true, false, false] rfl rfl (take_ofW HT_.out HW_.out (by kernel_rfl)) (fun _ _ _ h => h) (Or.inl ⟨by rfl, ?_⟩) hHeld ?_ ?_
              rotate_left
              ·rintro w' ⟨s0, s1, s2, s3⟩
               go_simp
               with_reducible rfl
              rotate_left
              ·simp only [Act.put, List.setIfInBounds_toArray, List.set_cons_zero, List.set_cons_succ, i64_w, i32_w]
               rfl
              refine one_ (i := 18) (N := some 62) #[true, true, true, true, true, true, true, true, true, true, true, true, true, true, true, true, true, true, true, false] rfl rfl (one_of HT_.out (by kernel_rfl)) (by decide) (fun K hK => ?_)
              refine goes_ Tryd.func30 (by kernel_rfl) rfl #[.string (rdOf ByteArray.empty t215 x7_2), .string (rdOf ByteArray.empty t212 x7_2)] (by rfl) rfl rfl (by (try simp only [List.map_toArray, List.map_cons, List.map_nil]); first | done | rfl | (simp only [List.length_drop, List.length_take]; rfl)) ?_
              with_reducible refine (spec_verMixed.calls kj25 (rdOf ByteArray.empty t215 x7_2) (rdOf ByteArray.empty t212 x7_2) true _ A40.out).mono ?_
              rintro e w' ⟨rfl, ⟨nd, rfl⟩⟩
              refine ⟨_, rfl, ?_⟩
              refine hK.out _ _ ⟨hHeld.1, hHeld.2.1, hHeld.2.2.1, hHeld.2.2.2⟩ (fun hHeld => ?_)
              clear hK K
              refine norm_ (a' := ?_) ?_ ?_
              rotate_left
              ·show Act.put _ (some 62) _ = _
               simp only [Act.put, List.setIfInBounds_toArray, List.set_cons_zero, List.set_cons_succ, i64_w, i32_w]
               rfl
              refine pure_ (i := 19) (N := some 63) (v := ?_) (a' := ?_) #[true, true, true, true, true, true, true, true, true, true, true, true, true, true, true, true, true, true, true, true] rfl rfl (any_of HT_.out (by kernel_rfl)) (fun _ _ _ h => h) (Or.inl ⟨by rfl, ?_⟩) ?_ ?_
              rotate_left
              ·intro w'
               go_simp
               with_reducible rfl
              rotate_left
              ·simp only [Act.put, List.setIfInBounds_toArray, List.set_cons_zero, List.set_cons_succ, i64_w, i32_w]
               rfl
              refine done_ (done_of HT_.out (by kernel_rfl)) ?_
              try go_wp2
              go_ret
              exact ⟨by first | rfl | (simp [errW_none, errW_some] <;> rfl) | (simp [*, errW_none, errW_some] <;> rfl), by repeat (first | (with_reducible first | exact HB.out | apply below_alloc | apply pw_below_drewN | apply below_drew1 | refine below_set ?_ GE210.out | refine below_set ?_ GE211.out) | exact HB.out)⟩
             ·replace c41 := Bool.eq_false_iff.mpr c41
              subst c41
              have H1 : (spec_VerAsked.l0 kj25 t212 t215 (wrap64 (x7_2 + 1))) = some r := by rw [if_neg (show ¬ (false = true) by decide)] at H; exact H
              clear H
              have H := H1
              clear H1
              have H' := Aside0.mk H
              clear H
              try go_wp2
              have n0_ := Aside0.mk (Kd.R_drew HO_5.out)
              have n1_ := Aside0.mk (Kd.R_drew HO_6.out)
              have n2_ := Aside0.mk (blk_drew BK210.out)
              have n3_ := Aside0.mk (blk_drew BK211.out)
              have n4_ := Aside0.mk (below_drew1 HB.out)
              clear HO_5
              clear HO_6
              clear BK210
              clear BK211
              clear HB
              have HO_5 := n0_
              have HO_6 := n1_
              have BK210 := n2_
              have BK211 := n3_
              have HB := n4_
              clear n0_ n1_ n2_ n3_ n4_
              obtain ⟨Ao46, co46, eo46⟩ := Kd.R_slice HO_5.out
              (first | subst eo46 | (injection eo46 with f1_ f2_ f3_; have f4_ := f1_.symm; have f5_ := f3_.symm; clear f1_ f2_ f3_; subst f4_; subst f5_))
              have p218 : 0 ≤ (x7_2 : Int) := of_decide_eq_true (by assumption)
              have q218 : x7_2 < (t212.length : Int) := of_decide_eq_true (by assumption)
              obtain ⟨ad218, e218, hx218_0⟩ := Kd.at_string (Kd.R_reads' HO_5.out).2.2 x7_2 p218 q218
              cases e218
              replace p218 := eq_true p218
              replace q218 := eq_true q218
              obtain ⟨Ao47, co47, eo47⟩ := Kd.R_slice HO_6.out
              (first | subst eo47 | (injection eo47 with f1_ f2_ f3_; have f4_ := f1_.symm; have f5_ := f3_.symm; clear f1_ f2_ f3_; subst f4_; subst f5_))
              have p219 : 0 ≤ (x7_2 : Int) := of_decide_eq_true (by assumption)
              have q219 : x7_2 < (t215.length : Int) := of_decide_eq_true (by assumption)
              obtain ⟨ad219, e219, hx219_0⟩ := Kd.at_string (Kd.R_reads' HO_6.out).2.2 x7_2 p219 q219
              cases e219
              replace p219 := eq_true p219
              replace q219 := eq_true q219
              have p221 : 0 ≤ (x7_2 : Int) := of_decide_eq_true (by assumption)
              have q221 : x7_2 < (t215.length : Int) := of_decide_eq_true (by assumption)
              obtain ⟨ad221, e221, hx221_0⟩ := Kd.at_string (Kd.R_reads' HO_6.out).2.2 x7_2 p221 q221
              obtain rfl : ad219 = ad221 := (by injection e221)
              replace p221 := eq_true p221
              replace q221 := eq_true q221
              have p222 : 0 ≤ (x7_2 : Int) := of_decide_eq_true (by assumption)
              have q222 : x7_2 < (t212.length : Int) := of_decide_eq_true (by assumption)
              obtain ⟨ad222, e222, hx222_0⟩ := Kd.at_string (Kd.R_reads' HO_5.out).2.2 x7_2 p222 q222
              obtain rfl : ad218 = ad222 := (by injection e222)
              replace p222 := eq_true p222
              replace q222 := eq_true q222
              refine start_ (n := 20) (S := fun w' => w'.cell? (ad218.add (x7_2).toNat) = some (.string (rdOf ByteArray.empty t212 x7_2)) ∧ w'.cell? (ad219.add (x7_2).toNat) = some (.string (rdOf ByteArray.empty t215 x7_2)) ∧ w'.cell? (ad219.add (x7_2).toNat) = some (.string (rdOf ByteArray.empty t215 x7_2)) ∧ w'.cell? (ad218.add (x7_2).toNat) = some (.string (rdOf ByteArray.empty t212 x7_2))) (ds := []) #[false, false, false, false, false, false, false, false, false, false, false, false, false, false, false, false, false, false, false, false] (by kernel_rfl) rfl rfl ⟨hx218_0, hx219_0, hx221_0, hx222_0⟩ (fun hHeld => ?_); refine with_tabW spec_VerAsked.tab7 spec_VerAsked.bits7 (fun HT_ HW_ => ?_)
              generalize wc.drew = w45 at HO_5 HO_6 BK210 BK211 HB hx218_0 hx219_0 hx221_0 hx222_0 hHeld ⊢
              refine pure_ (i := 0) (N := some 44) (v := ?_) (a' := ?_) #[true, false, false, false, false, false, false, false, false, false, false, false, false, false, false, false, false, false, false, false] rfl rfl (any_of HT_.out (by kernel_rfl)) (fun _ _ _ h => h) (Or.inl ⟨by rfl, ?_⟩) ?_ ?_
              rotate_left
              ·intro w'
               go_simp
               with_reducible rfl
              rotate_left
              ·simp only [Act.put, List.setIfInBounds_toArray, List.set_cons_zero, List.set_cons_succ, i64_w, i32_w]
               rfl
              refine pure_ (i := 1) (N := some 45) (v := ?_) (a' := ?_) #[true, true, false, false, false, false, false, false, false, false, false, false, false, false, false, false, false, false, false, false] rfl rfl (any_of HT_.out (by kernel_rfl)) (fun _ _ _ h => h) (Or.inl ⟨by rfl, ?_⟩) ?_ ?_
              rotate_left
              ·intro w'
               go_simp
               with_reducible rfl
              rotate_left
              ·simp only [Act.put, List.setIfInBounds_toArray, List.set_cons_zero, List.set_cons_succ, i64_w, i32_w]
               rfl
              refine pure_ (i := 2) (N := some 46) (v := ?_) (a' := ?_) #[true, true, true, false, false, false, false, false, false, false, false, false, false, false, false, false, false, false, false, false] rfl rfl (any_of HT_.out (by kernel_rfl)) (fun _ _ _ h => h) (Or.inl ⟨by rfl, ?_⟩) ?_ ?_
              rotate_left
              ·intro w'
               go_simp
               with_reducible rfl
              rotate_left
              ·simp only [Act.put, List.setIfInBounds_toArray, List.set_cons_zero, List.set_cons_succ, i64_w, i32_w]
               rfl
              refine pure_ (i := 4) (N := some 48) (v := ?_) (a' := ?_) #[true, true, true, false, true, false, false, false, false, false, false, false, false, false, false, false, false, false, false, false] rfl rfl (any_of HT_.out (by kernel_rfl)) (fun _ _ _ h => h) (Or.inl ⟨by rfl, ?_⟩) ?_ ?_
              rotate_left
              ·intro w'
               go_simp
               with_reducible rfl
              rotate_left
              ·simp only [Act.put, List.setIfInBounds_toArray, List.set_cons_zero, List.set_cons_succ, i64_w, i32_w]
               rfl
              refine pure_ (i := 5) (N := some 49) (v := ?_) (a' := ?_) #[true, true, true, false, true, true, false, false, false, false, false, false, false, false, false, false, false, false, false, false] rfl rfl (any_of HT_.out (by kernel_rfl)) (fun _ _ _ h => h) (Or.inl ⟨by rfl, ?_⟩) ?_ ?_
              rotate_left
              ·intro w'
               go_simp
               with_reducible rfl
              rotate_left
              ·simp only [Act.put, List.setIfInBounds_toArray, List.set_cons_zero, List.set_cons_succ, i64_w, i32_w]
               rfl
              refine pure_ (i := 6) (N := some 50) (v := ?_) (a' := ?_) #[true, true, true, false, true, true, true, false, false, false, false, false, false, false, false, false, false, false, false, false] rfl rfl (any_of HT_.out (by kernel_rfl)) (fun _ _ _ h => h) (Or.inl ⟨by rfl, ?_⟩) ?_ ?_
              rotate_left
              ·intro w'
               go_simp
               with_reducible rfl
              rotate_left
              ·simp only [Act.put, List.setIfInBounds_toArray, List.set_cons_zero, List.set_cons_succ, i64_w, i32_w]
               rfl
              refine take_ (i := 3) (N := some 47) (v := ?_) (a' := ?_) #[true, true, true, true, true, true, true, false, false, false, false, false, false, false, false, false, false, false, false, false] rfl rfl (take_ofW HT_.out HW_.out (by kernel_rfl)) (fun _ _ _ h => h) (Or.inl ⟨by rfl, ?_⟩) hHeld ?_ ?_
              rotate_left
              ·rintro w' ⟨s0, s1, s2, s3⟩
               go_simp
               with_reducible rfl
              rotate_left
              ·simp only [Act.put, List.setIfInBounds_toArray, List.set_cons_zero, List.set_cons_succ, i64_w, i32_w]
               rfl
              refine take_ (i := 7) (N := some 51) (v := ?_) (a' := ?_) #[true, true, true, true, true, true, true, true, false, false, false, false, false, false, false, false, false, false, false, false] rfl rfl (take_ofW HT_.out HW_.out (by kernel_rfl)) (fun _ _ _ h => h) (Or.inl ⟨by rfl, ?_⟩) hHeld ?_ ?_
              rotate_left
              ·rintro w' ⟨s0, s1, s2, s3⟩
               go_simp
               with_reducible rfl
              rotate_left
              ·simp only [Act.put, List.setIfInBounds_toArray, List.set_cons_zero, List.set_cons_succ, i64_w, i32_w]
               rfl
              refine one_ (i := 8) (N := some 52) #[true, true, true, true, true, true, true, true, true, false, false, false, false, false, false, false, false, false, false, false] rfl rfl (one_of HT_.out (by kernel_rfl)) (by decide) (fun K hK => ?_)
              refine goes_ Tryd.func30 (by kernel_rfl) rfl #[.string (rdOf ByteArray.empty t212 x7_2), .string (rdOf ByteArray.empty t215 x7_2)] (by rfl) rfl rfl (by (try simp only [List.map_toArray, List.map_cons, List.map_nil]); first | done | rfl | (simp only [List.length_drop, List.length_take]; rfl)) ?_
              with_reducible refine (spec_verMixed.calls kj25 (rdOf ByteArray.empty t212 x7_2) (rdOf ByteArray.empty t215 x7_2) false _ A35.out).mono ?_
              rintro e w' ⟨rfl, ⟨nd, rfl⟩⟩
              refine ⟨_, rfl, ?_⟩
              refine hK.out _ _ ⟨hHeld.1, hHeld.2.1, hHeld.2.2.1, hHeld.2.2.2⟩ (fun hHeld => ?_)
              clear hK K
              refine norm_ (a' := ?_) ?_ ?_
              rotate_left
              ·show Act.put _ (some 52) _ = _
               simp only [Act.put, List.setIfInBounds_toArray, List.set_cons_zero, List.set_cons_succ, i64_w, i32_w]
               rfl
              refine pure_ (i := 9) (N := some 53) (v := ?_) (a' := ?_) #[true, true, true, true, true, true, true, true, true, true, false, false, false, false, false, false, false, false, false, false] rfl rfl (any_of HT_.out (by kernel_rfl)) (fun _ _ _ h => h) (Or.inl ⟨by rfl, ?_⟩) ?_ ?_
              rotate_left
              ·intro w'
               go_simp
               with_reducible rfl
              rotate_left
              ·simp only [Act.put, List.setIfInBounds_toArray, List.set_cons_zero, List.set_cons_succ, i64_w, i32_w]
               rfl
              refine pure_ (i := 10) (N := some 54) (v := ?_) (a' := ?_) #[true, true, true, true, true, true, true, true, true, true, true, false, false, false, false, false, false, false, false, false] rfl rfl (any_of HT_.out (by kernel_rfl)) (fun _ _ _ h => h) (Or.inl ⟨by rfl, ?_⟩) ?_ ?_
              rotate_left
              ·intro w'
               go_simp
               with_reducible rfl
              rotate_left
              ·simp only [Act.put, List.setIfInBounds_toArray, List.set_cons_zero, List.set_cons_succ, i64_w, i32_w]
               rfl
              refine pure_ (i := 11) (N := some 55) (v := ?_) (a' := ?_) #[true, true, true, true, true, true, true, true, true, true, true, true, false, false, false, false, false, false, false, false] rfl rfl (any_of HT_.out (by kernel_rfl)) (fun _ _ _ h => h) (Or.inl ⟨by rfl, ?_⟩) ?_ ?_
              rotate_left
              ·intro w'
               go_simp
               with_reducible rfl
              rotate_left
              ·simp only [Act.put, List.setIfInBounds_toArray, List.set_cons_zero, List.set_cons_succ, i64_w, i32_w]
               rfl
              refine pure_ (i := 12) (N := some 56) (v := ?_) (a' := ?_) #[true, true, true, true, true, true, true, true, true, true, true, true, true, false, false, false, false, false, false, false] rfl rfl (any_of HT_.out (by kernel_rfl)) (fun _ _ _ h => h) (Or.inl ⟨by rfl, ?_⟩) ?_ ?_
              rotate_left
              ·intro w'
               go_simp
               with_reducible rfl
              rotate_left
              ·simp only [Act.put, List.setIfInBounds_toArray, List.set_cons_zero, List.set_cons_succ, i64_w, i32_w]
               rfl
              refine pure_ (i := 14) (N := some 58) (v := ?_) (a' := ?_) #[true, true, true, true, true, true, true, true, true, true, true, true, true, false, true, false, false, false, false, false] rfl rfl (any_of HT_.out (by kernel_rfl)) (fun _ _ _ h => h) (Or.inl ⟨by rfl, ?_⟩) ?_ ?_
              rotate_left
              ·intro w'
               go_simp
               with_reducible rfl
              rotate_left
              ·simp only [Act.put, List.setIfInBounds_toArray, List.set_cons_zero, List.set_cons_succ, i64_w, i32_w]
               rfl
              refine pure_ (i := 15) (N := some 59) (v := ?_) (a' := ?_) #[true, true, true, true, true, true, true, true, true, true, true, true, true, false, true, true, false, false, false, false] rfl rfl (any_of HT_.out (by kernel_rfl)) (fun _ _ _ h => h) (Or.inl ⟨by rfl, ?_⟩) ?_ ?_
              rotate_left
              ·intro w'
               go_simp
               with_reducible rfl
              rotate_left
              ·simp only [Act.put, List.setIfInBounds_toArray, List.set_cons_zero, List.set_cons_succ, i64_w, i32_w]
               rfl
              refine pure_ (i := 16) (N := some 60) (v := ?_) (a' := ?_) #[true, true, true, true, true, true, true, true, true, true, true, true, true, false, true, true, true, false, false, false] rfl rfl (any_of HT_.out (by kernel_rfl)) (fun _ _ _ h => h) (Or.inl ⟨by rfl, ?_⟩) ?_ ?_
              rotate_left
              ·intro w'
               go_simp
               with_reducible rfl
              rotate_left
              ·simp only [Act.put, List.setIfInBounds_toArray, List.set_cons_zero, List.set_cons_succ, i64_w, i32_w]
               rfl
              refine take_ (i := 13) (N := some 57) (v := ?_) (a' := ?_) #[true, true, true, true, true, true, true, true, true, true, true, true, true, true, true, true, true, false, false, false] rfl rfl (take_ofW HT_.out HW_.out (by kernel_rfl)) (fun _ _ _ h => h) (Or.inl ⟨by rfl, ?_⟩) hHeld ?_ ?_
              rotate_left
              ·rintro w' ⟨s0, s1, s2, s3⟩
               go_simp
               with_reducible rfl
              rotate_left
              ·simp only [Act.put, List.setIfInBounds_toArray, List.set_cons_zero, List.set_cons_succ, i64_w, i32_w]
               rfl
              refine take_ (i := 17) (N := some 61) (v := ?_) (a' := ?_) #[true, true, true, true, true, true, true, true, true, true, true, true, true, true, true, true, true, true, false, false] rfl rfl (take_ofW HT_.out HW_.out (by kernel_rfl)) (fun _ _ _ h => h) (Or.inl ⟨by rfl, ?_⟩) hHeld ?_ ?_
              rotate_left
              ·rintro w' ⟨s0, s1, s2, s3⟩
               go_simp
               with_reducible rfl
              rotate_left
              ·simp only [Act.put, List.setIfInBounds_toArray, List.set_cons_zero, List.set_cons_succ, i64_w, i32_w]
               rfl
              refine one_ (i := 18) (N := some 62) #[true, true, true, true, true, true, true, true, true, true, true, true, true, true, true, true, true, true, true, false] rfl rfl (one_of HT_.out (by kernel_rfl)) (by decide) (fun K hK => ?_)
              refine goes_ Tryd.func30 (by kernel_rfl) rfl #[.string (rdOf ByteArray.empty t215 x7_2), .string (rdOf ByteArray.empty t212 x7_2)] (by rfl) rfl rfl (by (try simp only [List.map_toArray, List.map_cons, List.map_nil]); first | done | rfl | (simp only [List.length_drop, List.length_take]; rfl)) ?_
              with_reducible refine (spec_verMixed.calls kj25 (rdOf ByteArray.empty t215 x7_2) (rdOf ByteArray.empty t212 x7_2) false _ A40.out).mono ?_
              rintro e w' ⟨rfl, ⟨nd, rfl⟩⟩
              refine ⟨_, rfl, ?_⟩
              refine hK.out _ _ ⟨hHeld.1, hHeld.2.1, hHeld.2.2.1, hHeld.2.2.2⟩ (fun hHeld => ?_)
              clear hK K
              refine norm_ (a' := ?_) ?_ ?_
              rotate_left
              ·show Act.put _ (some 62) _ = _
               simp only [Act.put, List.setIfInBounds_toArray, List.set_cons_zero, List.set_cons_succ, i64_w, i32_w]
               rfl
              refine pure_ (i := 19) (N := some 63) (v := ?_) (a' := ?_) #[true, true, true, true, true, true, true, true, true, true, true, true, true, true, true, true, true, true, true, true] rfl rfl (any_of HT_.out (by kernel_rfl)) (fun _ _ _ h => h) (Or.inl ⟨by rfl, ?_⟩) ?_ ?_
              rotate_left
              ·intro w'
               go_simp
               with_reducible rfl
              rotate_left
              ·simp only [Act.put, List.setIfInBounds_toArray, List.set_cons_zero, List.set_cons_succ, i64_w, i32_w]
               rfl
              refine done_ (done_of HT_.out (by kernel_rfl)) ?_
              try go_wp2
              go_roundg kj25
              case measure => have := HJ2.out; have := HK2.out; have := HJ25.out; omega
              case rel => exact ⟨(wrap64 (x7_2 + 1)), (by first | rfl | (simp; done) | (simp [*]; done)), H', ⟨by have := HJ2.out; have := HK2.out; have := HJ25.out; omega⟩, ⟨by (with_reducible repeat (first | apply Kd.R_alloc | apply Kd.R_drewN | apply Kd.R_drew)); exact HO_5.out⟩, ⟨by (with_reducible repeat (first | apply Kd.R_alloc | apply Kd.R_drewN | apply Kd.R_drew)); exact HO_6.out⟩, ⟨by (with_reducible repeat (first | refine blk_drewN ?_ _ | refine blk_drew ?_ | refine blk_alloc ?_ _)); exact BK210.out⟩, ⟨by (with_reducible repeat (first | refine blk_drewN ?_ _ | refine blk_drew ?_ | refine blk_alloc ?_ _)); exact BK211.out⟩, ⟨by repeat (first | (with_reducible first | exact HB.out | apply below_alloc | apply pw_below_drewN | apply below_drew1 | refine below_set ?_ GE210.out | refine below_set ?_ GE211.out) | exact HB.out)⟩⟩
           ·rw [if_neg c34] at H
            exact absurd H (by simp)
          ·rw [if_neg c33] at H
           exact absurd H (by simp)
         ·rw [if_neg c32] at H
          exact absurd H (by simp)
        ·replace c31 := Bool.eq_false_iff.mpr c31
         subst c31
         have H1 : (some true) = some r := by rw [if_neg (show ¬ (false = true) by decide)] at H; exact H
         clear H
         have H := H1
         clear H1
         obtain rfl := Option.some.inj H
         go_wp2
         go_ret
         exact ⟨by first | rfl | (simp [errW_none, errW_some] <;> rfl) | (simp [*, errW_none, errW_some] <;> rfl), by repeat (first | (with_reducible first | exact HB.out | apply below_alloc | apply pw_below_drewN | apply below_drew1 | refine below_set ?_ GE210.out | refine below_set ?_ GE211.out) | exact HB.out)⟩
end Go.Proofs.YtmfgkidppchobaaDoor.XFnVersionCompare

