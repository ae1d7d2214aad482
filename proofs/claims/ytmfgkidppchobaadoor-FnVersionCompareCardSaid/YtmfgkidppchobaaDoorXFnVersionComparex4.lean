/- A text of this session: the functions of the law FnVersionCompare, by a program that calls the kit's print and lays this session's own contracts of single functions beside. -/
import Derived.Test.YtmfgkidppchobaaDoorXFnVersionComparex0
import Derived.Test.YtmfgkidppchobaaDoorXFnVersionComparex1
import Derived.Test.YtmfgkidppchobaaDoorXFnVersionComparex2
import Derived.Test.YtmfgkidppchobaaDoorXFnVersionComparex3
namespace Go.Proofs.YtmfgkidppchobaaDoor.XFnVersionCompare
open Go.RowKit Go.Proofs.YtmfgkidppchobaaDoorW.PrintWords Go.Proofs.YtmfgkidppchobaaDoorW.PrintLast Go.Proofs.YtmfgkidppchobaaDoorW.PrintMore
attribute [local go_sem] max2_int min2_int max_two min_two max_three min_three max_four min_four
set_option linter.unusedVariables false
set_option linter.unusedSimpArgs false
mutual
def spec_VerSemantic.j1 : Nat → List ByteArray → ByteArray → Option (List Int × Bool × ByteArray × ByteArray × Bool)
 | 0, _, _ => none
 | k + 1, x4, x5 => if (x4.length : Int) = 3 then (spec_VerSemantic.l1 k x4 x5 0 ([] : List Int) true (⟨#[]⟩ : ByteArray) (⟨#[]⟩ : ByteArray)) else (some (([] : List Int), false, (⟨#[]⟩ : ByteArray), (⟨#[]⟩ : ByteArray), false))
def spec_VerSemantic.l1 : Nat → List ByteArray → ByteArray → Int → List Int → Bool → ByteArray → ByteArray → Option (List Int × Bool × ByteArray × ByteArray × Bool)
 | 0, _, _, _, _, _, _, _ => none
 | k + 1, x4, x5, x7, x142000, x142001, x142002, x142003 => if x7 < 3 then (if 0 ≤ x7 then (if x7 < (x4.length : Int) then ((spec_VerUint.f k (rdOf ByteArray.empty x4 x7)).bind fun bt143 => (if bt143.2 = true then ((spec_VerPlainly.f (rdOf ByteArray.empty x4 x7)).bind fun t146 => (if t146 = true then (if x142000.length < 17592186044416 then (spec_VerSemantic.l1 k x4 x5 (wrap64 (x7 + 1)) (x142000 ++ [bt143.1]) x142001 x142002 x142003) else (none)) else (some (([] : List Int), false, (⟨#[]⟩ : ByteArray), (⟨#[]⟩ : ByteArray), false)))) else (some (([] : List Int), false, (⟨#[]⟩ : ByteArray), (⟨#[]⟩ : ByteArray), false)))) else (none)) else (none)) else ((spec_verPlace.f k x5 43).bind fun t150 => (if t150 ≥ 0 then (if 0 ≤ (wrap64 (t150 + 1)) then (if (wrap64 (t150 + 1)) ≤ (x5.size : Int) then (if 0 ≤ t150 then (if t150 ≤ (x5.size : Int) then ((spec_VerIdentifiers.f k (x5.extract ((wrap64 (t150 + 1)) : Int).toNat x5.size) false).bind fun t151 => (if t151 = true then (if (x5.extract 0 (t150 : Int).toNat).toList = ([] : List UInt8) then (some (x142000, x142001, x142002, x5.extract ((wrap64 (t150 + 1)) : Int).toNat x5.size, true)) else (if 1 ≤ ((x5.extract 0 (t150 : Int).toNat).size : Int) then (if 0 < ((x5.extract 0 (t150 : Int).toNat).size : Int) then (if (bt (x5.extract 0 (t150 : Int).toNat) 0) = 45 then ((spec_VerIdentifiers.f k ((x5.extract 0 (t150 : Int).toNat).extract 1 (t150 : Int).toNat) true).bind fun t152 => (some (x142000, x142001, (x5.extract 0 (t150 : Int).toNat).extract 1 (t150 : Int).toNat, x5.extract ((wrap64 (t150 + 1)) : Int).toNat x5.size, t152))) else (some (x142000, x142001, (x5.extract 0 (t150 : Int).toNat).extract 1 (t150 : Int).toNat, x5.extract ((wrap64 (t150 + 1)) : Int).toNat x5.size, false))) else (none)) else (none))) else (some (([] : List Int), false, (⟨#[]⟩ : ByteArray), (⟨#[]⟩ : ByteArray), false)))) else (none)) else (none)) else (none)) else (none)) else (if x5.toList = ([] : List UInt8) then (some (x142000, x142001, x142002, x142003, true)) else (if 1 ≤ (x5.size : Int) then (if 0 < (x5.size : Int) then (if (bt x5 0) = 45 then ((spec_VerIdentifiers.f k (x5.extract 1 x5.size) true).bind fun t153 => (some (x142000, x142001, x5.extract 1 x5.size, x142003, t153))) else (some (x142000, x142001, x5.extract 1 x5.size, x142003, false))) else (none)) else (none)))))
def spec_VerSemantic.l0 : Nat → List ByteArray → ByteArray → Option (List Int × Bool × ByteArray × ByteArray × Bool)
 | 0, _, _ => none
 | k + 1, x4, x5 => if x5.toList = ([] : List UInt8) then (spec_VerSemantic.j1 k x4 x5) else (if 0 ≤ (wrap64 ((x5.size : Int) - 1)) then (if (wrap64 ((x5.size : Int) - 1)) < (x5.size : Int) then ((spec_verWhite.f (bt x5 (wrap64 ((x5.size : Int) - 1)))).bind fun t140 => (if t140 = true then (if (wrap64 ((x5.size : Int) - 1)) ≤ (x5.size : Int) then (spec_VerSemantic.l0 k x4 (x5.extract 0 ((wrap64 ((x5.size : Int) - 1)) : Int).toNat)) else (none)) else (spec_VerSemantic.j1 k x4 x5))) else (none)) else (none))
end
def spec_VerSemantic.f (k : Nat) (a0 : ByteArray) : Option (List Int × Bool × ByteArray × ByteArray × Bool) := (spec_verAhead.f k a0).bind fun t135 => ((spec_verFields.f k t135).bind fun bt136 => (spec_VerSemantic.l0 k bt136.1 bt136.2))
def spec_VerSemantic.T23 : Bool × List (List Nat × List Nat) := (true, [([], []), ([], []), ([1], [1]), ([2], [2]), ([3], [3]), ([4], [4]), ([5, 4], [4, 5]), ([6, 4, 4], [4, 6]), ([4, 7], [4, 7]), ([0, 7, 0], [0]), ([8, 9, 0, 1, 2, 3, 4, 5, 6, 7, 8, 9], [8])])
def spec_VerSemantic.B23 : List Nat := [0, 0, 2, 6, 14, 30, 62, 126, 254, 255, 1023]
theorem spec_VerSemantic.tab23 : rtab .any (opsOf Tryd.f25 23) = spec_VerSemantic.T23 := by kernel_rfl
theorem spec_VerSemantic.bits23 : waitsOk spec_VerSemantic.T23.2 spec_VerSemantic.B23 = true := by kernel_rfl
set_option maxHeartbeats 8000000 in
set_option maxRecDepth 100000 in
theorem spec_VerSemantic.calls (k : Nat) (a0 : ByteArray) (r1 : List Int) (r2 : Bool) (r3 : ByteArray) (r4 : ByteArray) (r5 : Bool) (w : World) (h : spec_VerSemantic.f k a0 = some (r1, r2, r3, r4, r5)) :
  Calls Tryd.prog 25 #[.string a0] w fun e w' => ∃ v0_ : Value, e = .returned (.tuple #[.agg #[v0_, .bool r2, .string r3, .string r4], .bool r5]) ∧ Kd.R (Kd.int .u64) 36 w' w.heap.size (fun _ => True) v0_ r1 ∧ Below w.heap.size w w' := by
 have hu25 := Tryd.underlying25
 have HB := Aside0.mk (Below.refl w.heap.size w)
 have H : ((spec_verAhead.f k a0).bind fun t135 => ((spec_verFields.f k t135).bind fun bt136 => (spec_VerSemantic.l0 k bt136.1 bt136.2))) = some (r1, r2, r3, r4, r5) := h
 clear h
 replace H := Option.bind_eq_some_iff.mp H
 obtain ⟨t135, A20, H⟩ := H
 replace H : ((spec_verFields.f k t135).bind fun bt136 => (spec_VerSemantic.l0 k bt136.1 bt136.2)) = some (r1, r2, r3, r4, r5) := H
 have A2 := Aside0.mk A20
 clear A20
 replace H := Option.bind_eq_some_iff.mp H
 obtain ⟨⟨t136, t137⟩, A30, H⟩ := H
 replace H : (spec_VerSemantic.l0 k t136 t137) = some (r1, r2, r3, r4, r5) := H
 have A3 := Aside0.mk A30
 clear A30
 have HC4 := Aside0.mk H
 clear H
 go_enter Tryd.func25, Tryd.ntmps25
 go_upto_block 0 with (first | ((with_reducible refine gate_dst (N := 2) rfl ?_); (try (refine gate_guard (by rfl) ?_; dsimp only)); refine box_event ?hg (N := 2) ?hd (cs := #[.slice none 0 0, .bool false, .string (⟨#[]⟩ : ByteArray), .string (⟨#[]⟩ : ByteArray)]) (t := 25) ?hr ?_; (case hd => rfl); (case hg => rfl); (case hr => first | (go_simp; done) | (go_simp; rfl)); intro gb134 hg w5 hbox hb; have n0_ := Aside0.mk (below_step (by repeat (first | (with_reducible first | exact HB.out | apply below_alloc | apply pw_below_drewN | apply below_drew1) | exact HB.out)) hb); have n1_ := Aside0.mk (hbox); have n2_ := Aside0.mk ((by rw [hg]; exact (below_size (by repeat (first | (with_reducible first | exact HB.out | apply below_alloc | apply pw_below_drewN | apply below_drew1) | exact HB.out))) : w.heap.size ≤ gb134)); have n3_ := Aside0.mk ((by rw [hg]; exact (below_size (by repeat (first | (with_reducible first | exact HB.out | apply below_alloc | apply pw_below_drewN | apply below_drew1) | exact HB.out))) : w.heap.size ≤ gb134)); clear HB; have HB := n0_; have BK134 := n1_; have GW134 := n2_; have GE134 := n3_; clear n0_ n1_ n2_ n3_; clear hb hbox hg) | ((with_reducible refine gate_callee (f := 22) rfl ?_); refine goesL_ (some 13) rfl rfl Tryd.func22 (by kernel_rfl) rfl #[.string a0] rfl (by (try simp only [List.map_toArray, List.map_cons, List.map_nil]); first | done | rfl | (simp only [List.length_drop, List.length_take]; rfl)) ?_; (with_reducible refine (spec_verAhead.calls k a0 t135 _ A2.out).mono ?_); rintro e w' ⟨rfl, ⟨nd, rfl⟩⟩; refine ⟨_, rfl, ?_⟩) | ((with_reducible refine gate_callee (f := 21) rfl ?_); refine goesL_ (some 14) rfl rfl Tryd.func21 (by kernel_rfl) rfl #[.string t135] rfl (by (try simp only [List.map_toArray, List.map_cons, List.map_nil]); first | done | rfl | (simp only [List.length_drop, List.length_take]; rfl)) ?_; (with_reducible refine (spec_verFields.calls k t135 t136 t137 _ A3.out).mono ?_); rintro e w6 ⟨v138, rfl, ho0, hb⟩; refine ⟨_, rfl, ?_⟩; have n0_ := Aside0.mk (Kd.R_lower ho0 (below_size (by repeat (first | (with_reducible first | exact HB.out | apply below_alloc | apply pw_below_drewN | apply below_drew1 | refine below_set ?_ GE134.out) | exact HB.out)))); have n1_ := Aside0.mk (blk_below (g := gb134) (o := .cells #[.slice none 0 0, .bool false, .string (⟨#[]⟩ : ByteArray), .string (⟨#[]⟩ : ByteArray)] 25 (0, 0)) (by (with_reducible repeat (first | refine blk_drewN ?_ _ | refine blk_drew ?_ | refine blk_alloc ?_ _)); exact BK134.out) hb); have n2_ := Aside0.mk (below_step (by repeat (first | (with_reducible first | exact HB.out | apply below_alloc | apply pw_below_drewN | apply below_drew1 | refine below_set ?_ GE134.out) | exact HB.out)) hb); clear BK134; clear HB; have HO139 := n0_; have BK134 := n1_; have HB := n2_; clear n0_ n1_ n2_; (try clear hb); (try clear hb2); (try clear hk); (try clear hi); (try clear ho0)))
 (try simp only [Act.put, List.setIfInBounds_toArray, List.set_cons_zero, List.set_cons_succ])
 go_cut [5] (fun v5 wc => ∃ (kq : Nat) (x5_3 : ByteArray), v5 = .string x5_3 ∧ Aside0 (spec_VerSemantic.j1 kq t136 x5_3 = some (r1, r2, r3, r4, r5)) ∧ Aside0 (kq ≤ k) ∧ Aside0 (Kd.R Kd.string 9 wc w.heap.size (fun _ => True) v138 t136) ∧ Aside0 (wc.heap[gb134]? = some (.cells #[(.slice none 0 0), .bool false, .string (⟨#[]⟩ : ByteArray), .string (⟨#[]⟩ : ByteArray)] 25 (0, 0))) ∧ Aside0 (Below w.heap.size w wc))
 case first =>
  have H := HC4.out
  clear HC4
  have H' := Aside0.mk H
  clear H
  go_wp2
  go_loopg [5] k (fun kq v5 w' => ∃ (x5_1 : ByteArray), v5 = .string x5_1 ∧ Aside0 (spec_VerSemantic.l0 kq t136 x5_1 = some (r1, r2, r3, r4, r5)) ∧ Aside0 (kq ≤ k) ∧ Aside0 (Kd.R Kd.string 9 w' w.heap.size (fun _ => True) v138 t136) ∧ Aside0 (w'.heap[gb134]? = some (.cells #[(.slice none 0 0), .bool false, .string (⟨#[]⟩ : ByteArray), .string (⟨#[]⟩ : ByteArray)] 25 (0, 0))) ∧ Aside0 (Below w.heap.size w w'))
  case atStart => exact ⟨(t137), (by first | rfl | (simp; done) | (simp [*]; done)), H', ⟨Nat.le_refl _⟩, ⟨by (with_reducible repeat (first | apply Kd.R_alloc | apply Kd.R_drewN | apply Kd.R_drew)); exact HO139.out⟩, ⟨by (with_reducible repeat (first | refine blk_drewN ?_ _ | refine blk_drew ?_ | refine blk_alloc ?_ _)); exact BK134.out⟩, ⟨by repeat (first | (with_reducible first | exact HB.out | apply below_alloc | apply pw_below_drewN | apply below_drew1 | refine below_set ?_ GE134.out) | exact HB.out)⟩⟩
  case round =>
   clear H'
   try clear c2
   try clear p2
   obtain ⟨x5_1, rfl, HA, HK1, HO_4, BK134, HB⟩ := hrel
   cases gk with
   | zero => exact absurd HA.out (by simp [spec_VerSemantic.l0])
   | succ k1 =>
    have H := HA.out
    clear HA
    simp only [spec_VerSemantic.l0] at H
    by_cases c7 : x5_1.toList = ([] : List UInt8)
    ·rw [if_pos c7] at H
     have c7b0 : (x5_1.toList == ([] : List UInt8)) = true := beq_iff_eq.mpr c7
     have c7b1 : (x5_1.toList != ([] : List UInt8)) = false := bne_eq_false_iff_eq.mpr c7
     clear c7
     (first | rw [c7b0] | (simp only [i64_w, i32_w]; rw [c7b0]) | skip)
     have H' := Aside0.mk H
     clear H
     go_wp2
     go_meet
     case rel => exact ⟨_, (x5_1), (by first | rfl | (simp; done) | (simp [*]; done)), H', ⟨by have := HK1.out; first | omega | exact Nat.le_refl _⟩, ⟨by (with_reducible repeat (first | apply Kd.R_alloc | apply Kd.R_drewN | apply Kd.R_drew)); exact HO_4.out⟩, ⟨by (with_reducible repeat (first | refine blk_drewN ?_ _ | refine blk_drew ?_ | refine blk_alloc ?_ _)); exact BK134.out⟩, ⟨by repeat (first | (with_reducible first | exact HB.out | apply below_alloc | apply pw_below_drewN | apply below_drew1 | refine below_set ?_ GE134.out) | exact HB.out)⟩⟩
    ·rw [if_neg c7] at H
     have c7b0 : (x5_1.toList == ([] : List UInt8)) = false := beq_eq_false_iff_ne.mpr c7
     have c7b1 : (x5_1.toList != ([] : List UInt8)) = true := bne_iff_ne.mpr c7
     (first | rw [c7b0] | (simp only [i64_w, i32_w]; rw [c7b0]) | skip)
     obtain ⟨ji8, hji8⟩ : ∃ j_ : Int, (wrap64 ((x5_1.size : Int) - 1)) = j_ := ⟨_, rfl⟩
     replace H : (if 0 ≤ (ji8) then (if (ji8) < (x5_1.size : Int) then ((spec_verWhite.f (bt x5_1 (ji8))).bind fun t140 => (if t140 = true then (if (ji8) ≤ (x5_1.size : Int) then (spec_VerSemantic.l0 k1 t136 (x5_1.extract 0 ((ji8) : Int).toNat)) else (none)) else (spec_VerSemantic.j1 k1 t136 x5_1))) else (none)) else (none)) = some (r1, r2, r3, r4, r5) := by first | (rw [hji8] at H; exact H) | (simp only [hji8] at H ⊢; exact H)
     have hji8w : (IntKind.i64.wrap ((x5_1.size : Int) - 1)) = ji8 := (i64_w _).trans hji8
     by_cases c9 : 0 ≤ (ji8)
     ·rw [if_pos c9] at H
      have c9b0 : decide (0 ≤ (ji8)) = true := decide_eq_true c9
      clear c9
      by_cases c10 : (ji8) < (x5_1.size : Int)
      ·rw [if_pos c10] at H
       have c10b0 : decide ((ji8) < (x5_1.size : Int)) = true := decide_eq_true c10
       clear c10
       replace H := Option.bind_eq_some_iff.mp H
       obtain ⟨t140, A120, H⟩ := H
       replace H : (if t140 = true then (if (ji8) ≤ (x5_1.size : Int) then (spec_VerSemantic.l0 k1 t136 (x5_1.extract 0 ((ji8) : Int).toNat)) else (none)) else (spec_VerSemantic.j1 k1 t136 x5_1)) = some (r1, r2, r3, r4, r5) := H
       have A12 := Aside0.mk A120
       clear A120
       by_cases c13 : t140 = true
       ·subst c13
        have H1 : (if (ji8) ≤ (x5_1.size : Int) then (spec_VerSemantic.l0 k1 t136 (x5_1.extract 0 ((ji8) : Int).toNat)) else (none)) = some (r1, r2, r3, r4, r5) := by rw [if_pos rfl] at H; exact H
        clear H
        have H := H1
        clear H1
        have c14b0 := eq_true (of_decide_eq_true (by assumption) : 0 ≤ (ji8))
        by_cases c15 : (ji8) ≤ (x5_1.size : Int)
        ·rw [if_pos c15] at H
         have c15b0 := eq_true c15
         have c15b1 : decide ((ji8) ≤ (x5_1.size : Int)) = true := decide_eq_true c15
         clear c15
         have H' := Aside0.mk H
         clear H
         have p11 : 0 ≤ ((ji8) : Int) := of_decide_eq_true (by assumption)
         have q11 : (ji8) < (x5_1.size : Int) := of_decide_eq_true (by assumption)
         have hx11 := bt_at x5_1 (ji8)
         replace p11 := eq_true p11
         replace q11 := eq_true q11
         go_wp2_with (first | (go_at_call 50; (with_reducible refine (spec_verWhite.calls (bt x5_1 (ji8)) true _ A12.out).mono ?_); rintro e w' ⟨rfl, ⟨nd, rfl⟩⟩))
         go_roundg k1
         case measure => have := HK1.out; omega
         case rel => exact ⟨(x5_1.extract 0 ((ji8) : Int).toNat), (by first | rfl | (simp; done) | (simp only [← hji8] <;> (first | rfl | simp)) | (simp [*]; done)), H', ⟨by have := HK1.out; omega⟩, ⟨by (with_reducible repeat (first | apply Kd.R_alloc | apply Kd.R_drewN | apply Kd.R_drew)); exact HO_4.out⟩, ⟨by (with_reducible repeat (first | refine blk_drewN ?_ _ | refine blk_drew ?_ | refine blk_alloc ?_ _)); exact BK134.out⟩, ⟨by repeat (first | (with_reducible first | exact HB.out | apply below_alloc | apply pw_below_drewN | apply below_drew1 | refine below_set ?_ GE134.out) | exact HB.out)⟩⟩
        ·rw [if_neg c15] at H
         exact absurd H (by simp)
       ·replace c13 := Bool.eq_false_iff.mpr c13
        subst c13
        have H1 : (spec_VerSemantic.j1 k1 t136 x5_1) = some (r1, r2, r3, r4, r5) := by rw [if_neg (show ¬ (false = true) by decide)] at H; exact H
        clear H
        have H := H1
        clear H1
        have H' := Aside0.mk H
        clear H
        have p11 : 0 ≤ ((ji8) : Int) := of_decide_eq_true (by assumption)
        have q11 : (ji8) < (x5_1.size : Int) := of_decide_eq_true (by assumption)
        have hx11 := bt_at x5_1 (ji8)
        replace p11 := eq_true p11
        replace q11 := eq_true q11
        go_wp2_with (first | (go_at_call 50; (with_reducible refine (spec_verWhite.calls (bt x5_1 (ji8)) false _ A12.out).mono ?_); rintro e w' ⟨rfl, ⟨nd, rfl⟩⟩))
        go_meet
        case rel => exact ⟨_, (x5_1), (by first | rfl | (simp; done) | (simp [*]; done)), H', ⟨by have := HK1.out; first | omega | exact Nat.le_refl _⟩, ⟨by (with_reducible repeat (first | apply Kd.R_alloc | apply Kd.R_drewN | apply Kd.R_drew)); exact HO_4.out⟩, ⟨by (with_reducible repeat (first | refine blk_drewN ?_ _ | refine blk_drew ?_ | refine blk_alloc ?_ _)); exact BK134.out⟩, ⟨by repeat (first | (with_reducible first | exact HB.out | apply below_alloc | apply pw_below_drewN | apply below_drew1 | refine below_set ?_ GE134.out) | exact HB.out)⟩⟩
      ·rw [if_neg c10] at H
       exact absurd H (by simp)
     ·rw [if_neg c9] at H
      exact absurd H (by simp)
 case rest =>
  clear HC4
  try clear c1
  try clear p1
  try clear q1
  try clear hx1
  try clear c2
  try clear p2
  try clear p6
  try clear c7
  try clear c7b0
  try clear c7b1
  try clear c9
  try clear c9b0
  try clear c10
  try clear c10b0
  try clear p11
  try clear q11
  try clear hx11
  try clear c13
  try clear c14
  try clear c14b0
  try clear c15
  try clear c15b0
  try clear c15b1
  try clear p11
  try clear p2
  try clear q11
  obtain ⟨kq, x5_3, rfl, HA, HJ3, HO_4, BK134, HB⟩ := hcut
  cases kq with
  | zero => exact absurd HA.out (by simp [spec_VerSemantic.j1])
  | succ kj3 =>
   have H := HA.out
   clear HA
   simp only [spec_VerSemantic.j1] at H
   by_cases c16 : (t136.length : Int) = 3
   ·rw [if_pos c16] at H
    have c16b0 : ((t136.length : Int) == 3) = true := beq_iff_eq.mpr c16
    have c16b1 : ((t136.length : Int) != 3) = false := bne_eq_false_iff_eq.mpr c16
    clear c16
    have H' := Aside0.mk H
    clear H
    obtain ⟨Ao17, co17, eo17⟩ := Kd.R_slice HO_4.out
    subst eo17
    go_wp2_with (first | ((with_reducible refine gate_dst (N := 6) rfl ?_); (try (refine gate_guard (by rfl) ?_; dsimp only)); refine box_event ?hg (N := 6) ?hd (cs := #[.slice none 0 0, .bool false, .string (⟨#[]⟩ : ByteArray), .string (⟨#[]⟩ : ByteArray)]) (t := 25) ?hr ?_; (case hd => rfl); (case hg => rfl); (case hr => first | (go_simp; done) | (go_simp; rfl)); intro gb141 hg w18 hbox hb; have n0_ := Aside0.mk (Kd.R_below (by (with_reducible repeat (first | apply Kd.R_alloc | apply Kd.R_drewN | apply Kd.R_drew)); exact HO_4.out) hb); have n1_ := Aside0.mk (blk_below (g := gb134) (o := .cells #[.slice none 0 0, .bool false, .string (⟨#[]⟩ : ByteArray), .string (⟨#[]⟩ : ByteArray)] 25 (0, 0)) (by (with_reducible repeat (first | refine blk_drewN ?_ _ | refine blk_drew ?_ | refine blk_alloc ?_ _)); exact BK134.out) hb); have n2_ := Aside0.mk (below_step (by repeat (first | (with_reducible first | exact HB.out | apply below_alloc | apply pw_below_drewN | apply below_drew1 | refine below_set ?_ GE134.out) | exact HB.out)) hb); have n3_ := Aside0.mk (hbox); have n4_ := Aside0.mk ((by rw [hg]; exact (below_size (by repeat (first | (with_reducible first | exact HB.out | apply below_alloc | apply pw_below_drewN | apply below_drew1 | refine below_set ?_ GE134.out) | exact HB.out))) : w.heap.size ≤ gb141)); have n5_ := Aside0.mk ((by rw [hg]; exact (below_size (by repeat (first | (with_reducible first | exact HB.out | apply below_alloc | apply pw_below_drewN | apply below_drew1 | refine below_set ?_ GE134.out) | exact HB.out))) : w.heap.size ≤ gb141)); have n6_ := Aside0.mk ((by rw [hg]; exact Nat.ne_of_lt (blk_lt (g := gb134) (o := .cells #[.slice none 0 0, .bool false, .string (⟨#[]⟩ : ByteArray), .string (⟨#[]⟩ : ByteArray)] 25 (0, 0)) (by (with_reducible repeat (first | refine blk_drewN ?_ _ | refine blk_drew ?_ | refine blk_alloc ?_ _)); exact BK134.out)) : gb134 ≠ gb141)); have n7_ := Aside0.mk ((by rw [hg]; exact Nat.ne_of_gt (blk_lt (g := gb134) (o := .cells #[.slice none 0 0, .bool false, .string (⟨#[]⟩ : ByteArray), .string (⟨#[]⟩ : ByteArray)] 25 (0, 0)) (by (with_reducible repeat (first | refine blk_drewN ?_ _ | refine blk_drew ?_ | refine blk_alloc ?_ _)); exact BK134.out)) : gb141 ≠ gb134)); clear HO_4; clear BK134; clear HB; have HO_4 := n0_; have BK134 := n1_; have HB := n2_; have BK141 := n3_; have GW141 := n4_; have GE141 := n5_; have NB134_141 := n6_; have NB141_134 := n7_; clear n0_ n1_ n2_ n3_ n4_ n5_ n6_ n7_; clear hb hbox hg; have hnb19 := NB141_134.out; have hnc19 := NB134_141.out; have hcz20_0 : w18.cell? ⟨gb141, 0, none⟩ = some (.slice none 0 0) := (blk_cell BK141.out 0).trans rfl; have hcz20_1 : w18.cell? ⟨gb141, 1, none⟩ = some (.bool false) := (blk_cell BK141.out 1).trans rfl; have hcz20_2 : w18.cell? ⟨gb141, 2, none⟩ = some (.string (⟨#[]⟩ : ByteArray)) := (blk_cell BK141.out 2).trans rfl; have hcz20_3 : w18.cell? ⟨gb141, 3, none⟩ = some (.string (⟨#[]⟩ : ByteArray)) := (blk_cell BK141.out 3).trans rfl; have hfz20_0 := blk_frozen BK141.out 0; have hfz20_1 := blk_frozen BK141.out 1; have hfz20_2 := blk_frozen BK141.out 2; have hfz20_3 := blk_frozen BK141.out 3))
    go_loopg [7] kj3 (fun kq v7 w' => ∃ (x7_2 : Int) (x135001_2 : Bool) (x135002_2 : ByteArray) (x135003_2 : ByteArray) (x142000_2 : List Int) (u142000 : Value), v7 = .int .i64 x7_2 ∧ Aside0 (spec_VerSemantic.l1 kq t136 x5_3 x7_2 x142000_2 true (⟨#[]⟩ : ByteArray) (⟨#[]⟩ : ByteArray) = some (r1, r2, r3, r4, r5)) ∧ Aside0 (kq ≤ kj3) ∧ Aside0 (Kd.R Kd.string 9 w' w.heap.size (fun _ => True) (.slice Ao17 t136.length co17) t136) ∧ Aside0 (Kd.R (Kd.int .u64) 36 w' w.heap.size (fun _ => True) u142000 x142000_2) ∧ Aside0 (w'.heap[gb134]? = some (.cells #[(.slice none 0 0), .bool x135001_2, .string x135002_2, .string x135003_2] 25 (0, 0))) ∧ Aside0 (w'.heap[gb141]? = some (.cells #[u142000, .bool true, .string (⟨#[]⟩ : ByteArray), .string (⟨#[]⟩ : ByteArray)] 25 (0, 0))) ∧ Aside0 (Below w.heap.size w w'))
    case atStart => exact ⟨(0), (false), ((⟨#[]⟩ : ByteArray)), ((⟨#[]⟩ : ByteArray)), (([] : List Int)), (.slice none 0 0), (by first | rfl | (simp; done) | (simp [*]; done)), H', ⟨Nat.le_refl _⟩, ⟨by (with_reducible repeat (first | apply Kd.R_alloc | apply Kd.R_drewN | apply Kd.R_drew)); exact Kd.R_mono (Kd.R_far (p := ⟨gb141, 3, none⟩) (Kd.R_far (p := ⟨gb141, 2, none⟩) (Kd.R_far (p := ⟨gb141, 1, none⟩) (Kd.R_far (p := ⟨gb141, 0, none⟩) (Kd.R_types HO_4.out BK141.out (by decide)) (fun _ hk => hk.2) (.slice none 0 0)) (fun _ hk => hk.2) (.bool true)) (fun _ hk => hk.2) (.string (⟨#[]⟩ : ByteArray))) (fun _ hk => hk.2) (.string (⟨#[]⟩ : ByteArray))) (fun _ hk => trivial)⟩, ⟨by first | exact Kd.R_nil _ _ _ _ _ | exact Kd.N_nil _ _ _ _ _ | exact Kd.V_nil _ _ _ _ _ | exact Kd.Q_nil _ _ _ _ _ | exact Kd.S_nil _ _ _ _ _⟩, ⟨by (with_reducible repeat (first | refine blk_drewN ?_ _ | refine blk_drew ?_ | refine blk_alloc ?_ _)); refine blk_far ?_ NB134_141.out _; (with_reducible repeat (first | refine blk_drewN ?_ _ | refine blk_drew ?_ | refine blk_alloc ?_ _)); refine blk_far ?_ NB134_141.out _; (with_reducible repeat (first | refine blk_drewN ?_ _ | refine blk_drew ?_ | refine blk_alloc ?_ _)); refine blk_far ?_ NB134_141.out _; (with_reducible repeat (first | refine blk_drewN ?_ _ | refine blk_drew ?_ | refine blk_alloc ?_ _)); refine blk_far ?_ NB134_141.out _; (with_reducible repeat (first | refine blk_drewN ?_ _ | refine blk_drew ?_ | refine blk_alloc ?_ _)); exact BK134.out⟩, ⟨by (with_reducible repeat (first | refine blk_drewN ?_ _ | refine blk_drew ?_ | refine blk_alloc ?_ _)); refine blk_put (cs := #[.slice none 0 0, .bool true, .string (⟨#[]⟩ : ByteArray), .string (⟨#[]⟩ : ByteArray)]) ?_ 3 _ rfl; (with_reducible repeat (first | refine blk_drewN ?_ _ | refine blk_drew ?_ | refine blk_alloc ?_ _)); refine blk_put (cs := #[.slice none 0 0, .bool true, .string (⟨#[]⟩ : ByteArray), .string (⟨#[]⟩ : ByteArray)]) ?_ 2 _ rfl; (with_reducible repeat (first | refine blk_drewN ?_ _ | refine blk_drew ?_ | refine blk_alloc ?_ _)); refine blk_put (cs := #[.slice none 0 0, .bool false, .string (⟨#[]⟩ : ByteArray), .string (⟨#[]⟩ : ByteArray)]) ?_ 1 _ rfl; (with_reducible repeat (first | refine blk_drewN ?_ _ | refine blk_drew ?_ | refine blk_alloc ?_ _)); refine blk_put (cs := #[.slice none 0 0, .bool false, .string (⟨#[]⟩ : ByteArray), .string (⟨#[]⟩ : ByteArray)]) ?_ 0 _ rfl; (with_reducible repeat (first | refine blk_drewN ?_ _ | refine blk_drew ?_ | refine blk_alloc ?_ _)); exact BK141.out⟩, ⟨by repeat (first | (with_reducible first | exact HB.out | apply below_alloc | apply pw_below_drewN | apply below_drew1 | refine below_set ?_ GE134.out | refine below_set ?_ GE141.out) | exact HB.out)⟩⟩
    case round =>
     clear H'
     try clear c1
     try clear p1
     try clear q1
     try clear hx1
     try clear c2
     try clear p2
     try clear p6
     try clear c7
     try clear c7b0
     try clear c7b1
     try clear c9
     try clear c9b0
     try clear c10
     try clear c10b0
     try clear p11
     try clear q11
     try clear hx11
     try clear c13
     try clear c14
     try clear c14b0
     try clear c15
     try clear c15b0
     try clear c15b1
     try clear c16
     try clear c16b0
     try clear c16b1
     try clear c19
     try clear hcz20_0
     try clear hcz20_1
     try clear hcz20_2
     try clear hcz20_3
     try clear hfz20_0
     try clear hfz20_1
     try clear hfz20_2
     try clear hfz20_3
     try clear p1
     try clear p11
     try clear p2
     try clear p6
     try clear q1
     try clear q11
     obtain ⟨x7_2, x135001_2, x135002_2, x135003_2, x142000_2, u142000, rfl, HA, HK2, HO_4, HO_142000, BK134, BK141, HB⟩ := hrel
     cases gk with
     | zero => exact absurd HA.out (by simp [spec_VerSemantic.l1])
     | succ k2 =>
      have H := HA.out
      clear HA
      simp only [spec_VerSemantic.l1] at H
      by_cases c21 : x7_2 < 3
      ·rw [if_pos c21] at H
       have c21b0 : decide (x7_2 < 3) = true := decide_eq_true c21
       clear c21
       by_cases c22 : 0 ≤ x7_2
       ·rw [if_pos c22] at H
        have c22b0 : decide (0 ≤ x7_2) = true := decide_eq_true c22
        clear c22
        by_cases c23 : x7_2 < (t136.length : Int)
        ·rw [if_pos c23] at H
         have c23b0 : decide (x7_2 < (t136.length : Int)) = true := decide_eq_true c23
         clear c23
         replace H := Option.bind_eq_some_iff.mp H
         obtain ⟨⟨t143, t144⟩, A240, H⟩ := H
         replace H : (if t144 = true then ((spec_VerPlainly.f (rdOf ByteArray.empty t136 x7_2)).bind fun t146 => (if t146 = true then (if x142000_2.length < 17592186044416 then (spec_VerSemantic.l1 k2 t136 x5_3 (wrap64 (x7_2 + 1)) (x142000_2 ++ [t143]) true (⟨#[]⟩ : ByteArray) (⟨#[]⟩ : ByteArray)) else (none)) else (some (([] : List Int), false, (⟨#[]⟩ : ByteArray), (⟨#[]⟩ : ByteArray), false)))) else (some (([] : List Int), false, (⟨#[]⟩ : ByteArray), (⟨#[]⟩ : ByteArray), false))) = some (r1, r2, r3, r4, r5) := H
         have A24 := Aside0.mk A240
         clear A240
         by_cases c25 : t144 = true
         ·subst c25
          have H1 : ((spec_VerPlainly.f (rdOf ByteArray.empty t136 x7_2)).bind fun t146 => (if t146 = true then (if x142000_2.length < 17592186044416 then (spec_VerSemantic.l1 k2 t136 x5_3 (wrap64 (x7_2 + 1)) (x142000_2 ++ [t143]) true (⟨#[]⟩ : ByteArray) (⟨#[]⟩ : ByteArray)) else (none)) else (some (([] : List Int), false, (⟨#[]⟩ : ByteArray), (⟨#[]⟩ : ByteArray), false)))) = some (r1, r2, r3, r4, r5) := by rw [if_pos rfl] at H; exact H
          clear H
          have H := H1
          clear H1
          replace H := Option.bind_eq_some_iff.mp H
          obtain ⟨t146, A260, H⟩ := H
          replace H : (if t146 = true then (if x142000_2.length < 17592186044416 then (spec_VerSemantic.l1 k2 t136 x5_3 (wrap64 (x7_2 + 1)) (x142000_2 ++ [t143]) true (⟨#[]⟩ : ByteArray) (⟨#[]⟩ : ByteArray)) else (none)) else (some (([] : List Int), false, (⟨#[]⟩ : ByteArray), (⟨#[]⟩ : ByteArray), false))) = some (r1, r2, r3, r4, r5) := H
          have A26 := Aside0.mk A260
          clear A260
          by_cases c27 : t146 = true
          ·subst c27
           have H1 : (if x142000_2.length < 17592186044416 then (spec_VerSemantic.l1 k2 t136 x5_3 (wrap64 (x7_2 + 1)) (x142000_2 ++ [t143]) true (⟨#[]⟩ : ByteArray) (⟨#[]⟩ : ByteArray)) else (none)) = some (r1, r2, r3, r4, r5) := by rw [if_pos rfl] at H; exact H
           clear H
           have H := H1
           clear H1
           by_cases c28 : x142000_2.length < 17592186044416
           ·rw [if_pos c28] at H
            have LMc28 := Aside0.mk c28
            clear c28
            obtain ⟨y147, hy147⟩ : ∃ y_ : List Int, y_ = (x142000_2 ++ [t143]) := ⟨_, rfl⟩
            replace H : (spec_VerSemantic.l1 k2 t136 x5_3 (wrap64 (x7_2 + 1)) y147 true (⟨#[]⟩ : ByteArray) (⟨#[]⟩ : ByteArray)) = some (r1, r2, r3, r4, r5) := by first | (rw [hy147]; with_reducible exact H) | (have H2_ := (Option.bind_some _ _).symm.trans H; rw [hy147]; with_reducible exact H2_) | (have H2_ := (Option.bind_some _ _).symm.trans H; with_reducible exact H2_) | with_reducible exact H | (rw [hy147]; exact H) | exact H
            have Ny147 := Aside0.mk hy147
            clear hy147
            have H' := Aside0.mk H
            clear H
            have p142 : 0 ≤ (x7_2 : Int) := of_decide_eq_true (by assumption)
            have q142 : x7_2 < (t136.length : Int) := of_decide_eq_true (by assumption)
            obtain ⟨ad142, e142, hx142_0⟩ := Kd.at_string (Kd.R_reads' HO_4.out).2.2 x7_2 p142 q142
            cases e142
            replace p142 := eq_true p142
            replace q142 := eq_true q142
            go_wp2_with (first | ((with_reducible refine gate_callee (f := 51) rfl ?_); refine goesL_ (some 46) rfl rfl Tryd.func51 (by kernel_rfl) rfl #[.string (rdOf ByteArray.empty t136 x7_2)] rfl (by (try simp only [List.map_toArray, List.map_cons, List.map_nil]); first | done | rfl | (simp only [List.length_drop, List.length_take]; rfl)) ?_; (with_reducible refine (spec_VerUint.calls k2 (rdOf ByteArray.empty t136 x7_2) t143 true _ A24.out).mono ?_); rintro e w' ⟨rfl, ⟨nd, rfl⟩⟩; refine ⟨_, rfl, ?_⟩; (try (rw [drewN_self wr]; generalize hq_ : World.drewN wr _ = wr; have n0_ : Aside0 (Kd.R (Kd.int .u64) 36 wr w.heap.size (fun _ => True) u142000 x142000_2) := ⟨by rw [← hq_]; exact (by (with_reducible repeat (first | apply Kd.R_alloc | apply Kd.R_drewN | apply Kd.R_drew)); exact HO_142000.out)⟩; have n1_ : Aside0 (Kd.R Kd.string 9 wr w.heap.size (fun _ => True) (.slice (some ad142) t136.length co17) t136) := ⟨by rw [← hq_]; exact (by (with_reducible repeat (first | apply Kd.R_alloc | apply Kd.R_drewN | apply Kd.R_drew)); exact HO_4.out)⟩; have n2_ : Aside0 (wr.heap[gb134]? = some (.cells #[.slice none 0 0, .bool x135001_2, .string x135002_2, .string x135003_2] 25 (0, 0))) := ⟨by rw [← hq_]; exact (by (with_reducible repeat (first | refine blk_drewN ?_ _ | refine blk_drew ?_ | refine blk_alloc ?_ _)); exact BK134.out)⟩; have n3_ : Aside0 (wr.heap[gb141]? = some (.cells #[u142000, .bool true, .string (⟨#[]⟩ : ByteArray), .string (⟨#[]⟩ : ByteArray)] 25 (0, 0))) := ⟨by rw [← hq_]; exact (by (with_reducible repeat (first | refine blk_drewN ?_ _ | refine blk_drew ?_ | refine blk_alloc ?_ _)); exact BK141.out)⟩; have n4_ : Aside0 (Below w.heap.size w wr) := ⟨by rw [← hq_]; exact (by repeat (first | (with_reducible first | exact HB.out | apply below_alloc | apply pw_below_drewN | apply below_drew1 | refine below_set ?_ GE134.out | refine below_set ?_ GE141.out) | exact HB.out))⟩; clear HO_142000 HO_4 BK134 BK141 HB hq_; have HO_142000 := n0_; have HO_4 := n1_; have BK134 := n2_; have BK141 := n3_; have HB := n4_; clear n0_ n1_ n2_ n3_ n4_)); have p145 : 0 ≤ (x7_2 : Int) := of_decide_eq_true (by assumption); have q145 : x7_2 < (t136.length : Int) := of_decide_eq_true (by assumption); obtain ⟨ad145, e145, hx145_0⟩ := Kd.at_string (Kd.R_reads' HO_4.out).2.2 x7_2 p145 q145; obtain rfl : ad142 = ad145 := (by injection e145); replace p145 := eq_true p145; replace q145 := eq_true q145) | (go_at_call 52; (with_reducible refine (spec_VerPlainly.calls (rdOf ByteArray.empty t136 x7_2) true _ A26.out).mono ?_); rintro e w' ⟨rfl, ⟨nd, rfl⟩⟩; (try (rw [drewN_self wr]; generalize hq_ : World.drewN wr _ = wr; have n0_ : Aside0 (Kd.R (Kd.int .u64) 36 wr w.heap.size (fun _ => True) u142000 x142000_2) := ⟨by rw [← hq_]; exact (by (with_reducible repeat (first | apply Kd.R_alloc | apply Kd.R_drewN | apply Kd.R_drew)); exact HO_142000.out)⟩; have n1_ : Aside0 (Kd.R Kd.string 9 wr w.heap.size (fun _ => True) (.slice (some ad142) t136.length co17) t136) := ⟨by rw [← hq_]; exact (by (with_reducible repeat (first | apply Kd.R_alloc | apply Kd.R_drewN | apply Kd.R_drew)); exact HO_4.out)⟩; have n2_ : Aside0 (wr.heap[gb134]? = some (.cells #[.slice none 0 0, .bool x135001_2, .string x135002_2, .string x135003_2] 25 (0, 0))) := ⟨by rw [← hq_]; exact (by (with_reducible repeat (first | refine blk_drewN ?_ _ | refine blk_drew ?_ | refine blk_alloc ?_ _)); exact BK134.out)⟩; have n3_ : Aside0 (wr.heap[gb141]? = some (.cells #[u142000, .bool true, .string (⟨#[]⟩ : ByteArray), .string (⟨#[]⟩ : ByteArray)] 25 (0, 0))) := ⟨by rw [← hq_]; exact (by (with_reducible repeat (first | refine blk_drewN ?_ _ | refine blk_drew ?_ | refine blk_alloc ?_ _)); exact BK141.out)⟩; have n4_ : Aside0 (Below w.heap.size w wr) := ⟨by rw [← hq_]; exact (by repeat (first | (with_reducible first | exact HB.out | apply below_alloc | apply pw_below_drewN | apply below_drew1 | refine below_set ?_ GE134.out | refine below_set ?_ GE141.out) | exact HB.out))⟩; clear HO_142000 HO_4 BK134 BK141 HB hq_; have HO_142000 := n0_; have HO_4 := n1_; have BK134 := n2_; have BK141 := n3_; have HB := n4_; clear n0_ n1_ n2_ n3_ n4_)); have hnb29 := NB141_134.out; have hnc29 := NB134_141.out; have hcz30_0 : wr.cell? ⟨gb141, 0, none⟩ = some (u142000) := (blk_cell BK141.out 0).trans rfl; have hcz30_1 : wr.cell? ⟨gb141, 1, none⟩ = some (.bool true) := (blk_cell BK141.out 1).trans rfl; have hcz30_2 : wr.cell? ⟨gb141, 2, none⟩ = some (.string (⟨#[]⟩ : ByteArray)) := (blk_cell BK141.out 2).trans rfl; have hcz30_3 : wr.cell? ⟨gb141, 3, none⟩ = some (.string (⟨#[]⟩ : ByteArray)) := (blk_cell BK141.out 3).trans rfl; have hfz30_0 := blk_frozen BK141.out 0; have hfz30_1 := blk_frozen BK141.out 1; have hfz30_2 := blk_frozen BK141.out 2; have hfz30_3 := blk_frozen BK141.out 3) | ((with_reducible refine gate_builtin (b := .append) (xs := #[.tmp 61, .tmp 63]) rfl ?_); (try (refine gate_guard (by rfl) ?_; dsimp only)); at_builtin; refine Kd.R_append (Kd.int .u64) (w0 := w) w.heap.size rfl (.tmp 61) (.tmp 63) 23 36 (.int .u64 0) 8 rfl Tryd.underlying23 info36 rfl (by decide) (by omega) u142000 x142000_2 t143 [.int .u64 t143] (fun _ => True) (fun _ => False) rfl rfl ?aP (fun _ hk => hk.elim) ?aF ?aO ?aB ?aS ?aL ?_; (case aP => exact rfl); (case aB => exact (by repeat (first | (with_reducible first | exact HB.out | apply below_alloc | apply pw_below_drewN | apply below_drew1 | refine below_set ?_ GE134.out | refine below_set ?_ GE141.out) | exact HB.out))); (case aF => exact (fun _ _ => trivial)); (case aO => exact (by (with_reducible repeat (first | apply Kd.R_alloc | apply Kd.R_drewN | apply Kd.R_drew)); exact HO_142000.out)); (case aS => exact (below_size (by repeat (first | (with_reducible first | exact HB.out | apply below_alloc | apply pw_below_drewN | apply below_drew1 | refine below_set ?_ GE134.out | refine below_set ?_ GE141.out) | exact HB.out)))); (case aL => have := LMc28.out; omega); intro v148 w31 ho hb hg hat; rw [← Ny147.out] at ho; have n0_ := Aside0.mk (Kd.R_over' (by (with_reducible repeat (first | apply Kd.R_alloc | apply Kd.R_drewN | apply Kd.R_drew)); exact HO_4.out) (Kd.R_typed (by (with_reducible repeat (first | apply Kd.R_alloc | apply Kd.R_drewN | apply Kd.R_drew)); exact HO_142000.out)) (by decide) hg); have n1_ := Aside0.mk (blk_grown (g := gb134) (o := .cells #[.slice none 0 0, .bool x135001_2, .string x135002_2, .string x135003_2] 25 (0, 0)) (by (with_reducible repeat (first | refine blk_drewN ?_ _ | refine blk_drew ?_ | refine blk_alloc ?_ _)); exact BK134.out) hg (Kd.R_ne HO_142000.out BK134.out (by decide))); have n2_ := Aside0.mk (blk_grown (g := gb141) (o := .cells #[u142000, .bool true, .string (⟨#[]⟩ : ByteArray), .string (⟨#[]⟩ : ByteArray)] 25 (0, 0)) (by (with_reducible repeat (first | refine blk_drewN ?_ _ | refine blk_drew ?_ | refine blk_alloc ?_ _)); exact BK141.out) hg (Kd.R_ne HO_142000.out BK141.out (by decide))); have n3_ := Aside0.mk (hb); have n4_ := Aside0.mk (ho); clear HO_4; clear BK134; clear BK141; clear HB; clear HO_142000; have HO_4 := n0_; have BK134 := n1_; have BK141 := n2_; have HB := n3_; have HO149 := n4_; clear n0_ n1_ n2_ n3_ n4_; clear ho hb hg hat; obtain ⟨Ao32, co32, eo32⟩ := Kd.R_slice HO149.out; subst eo32; have hcz33_0 : w31.cell? ⟨gb141, 0, none⟩ = some (u142000) := (blk_cell BK141.out 0).trans rfl; have hcz33_1 : w31.cell? ⟨gb141, 1, none⟩ = some (.bool true) := (blk_cell BK141.out 1).trans rfl; have hcz33_2 : w31.cell? ⟨gb141, 2, none⟩ = some (.string (⟨#[]⟩ : ByteArray)) := (blk_cell BK141.out 2).trans rfl; have hcz33_3 : w31.cell? ⟨gb141, 3, none⟩ = some (.string (⟨#[]⟩ : ByteArray)) := (blk_cell BK141.out 3).trans rfl; have hfz33_0 := blk_frozen BK141.out 0; have hfz33_1 := blk_frozen BK141.out 1; have hfz33_2 := blk_frozen BK141.out 2; have hfz33_3 := blk_frozen BK141.out 3))
            go_roundg k2
            case measure => have := HJ3.out; have := HK2.out; omega
            case rel => exact ⟨(wrap64 (x7_2 + 1)), (x135001_2), (x135002_2), (x135003_2), (y147), (.slice Ao32 y147.length co32), (by first | rfl | (simp; done) | (simp [*]; done)), H', ⟨by have := HJ3.out; have := HK2.out; omega⟩, ⟨by (with_reducible repeat (first | apply Kd.R_alloc | apply Kd.R_drewN | apply Kd.R_drew)); exact Kd.R_mono (Kd.R_far (p := ⟨gb141, 0, none⟩) (Kd.R_types HO_4.out BK141.out (by decide)) (fun _ hk => hk.2) (.slice Ao32 y147.length co32)) (fun _ hk => trivial)⟩, ⟨by (with_reducible repeat (first | apply Kd.R_alloc | apply Kd.R_drewN | apply Kd.R_drew)); exact Kd.R_mono (Kd.R_far (p := ⟨gb141, 0, none⟩) (Kd.R_types HO149.out BK141.out (by decide)) (fun _ hk => hk.2) (.slice Ao32 y147.length co32)) (fun _ hk => trivial)⟩, ⟨by (with_reducible repeat (first | refine blk_drewN ?_ _ | refine blk_drew ?_ | refine blk_alloc ?_ _)); refine blk_far ?_ NB134_141.out _; (with_reducible repeat (first | refine blk_drewN ?_ _ | refine blk_drew ?_ | refine blk_alloc ?_ _)); exact BK134.out⟩, ⟨by (with_reducible repeat (first | refine blk_drewN ?_ _ | refine blk_drew ?_ | refine blk_alloc ?_ _)); refine blk_put (cs := #[u142000, .bool true, .string (⟨#[]⟩ : ByteArray), .string (⟨#[]⟩ : ByteArray)]) ?_ 0 _ rfl; (with_reducible repeat (first | refine blk_drewN ?_ _ | refine blk_drew ?_ | refine blk_alloc ?_ _)); exact BK141.out⟩, ⟨by repeat (first | (with_reducible first | exact HB.out | apply below_alloc | apply pw_below_drewN | apply below_drew1 | refine below_set ?_ GE134.out | refine below_set ?_ GE141.out) | exact HB.out)⟩⟩
           ·rw [if_neg c28] at H
            exact absurd H (by simp)
          ·replace c27 := Bool.eq_false_iff.mpr c27
           subst c27
           have H1 : (some (([] : List Int), false, (⟨#[]⟩ : ByteArray), (⟨#[]⟩ : ByteArray), false)) = some (r1, r2, r3, r4, r5) := by rw [if_neg (show ¬ (false = true) by decide)] at H; exact H
           clear H
           have H := H1
           clear H1
           simp only [Option.some.injEq, Prod.mk.injEq] at H
           obtain ⟨rfl, rfl, rfl, rfl, rfl⟩ := H
           have p142 : 0 ≤ (x7_2 : Int) := of_decide_eq_true (by assumption)
           have q142 : x7_2 < (t136.length : Int) := of_decide_eq_true (by assumption)
           obtain ⟨ad142, e142, hx142_0⟩ := Kd.at_string (Kd.R_reads' HO_4.out).2.2 x7_2 p142 q142
           cases e142
           replace p142 := eq_true p142
           replace q142 := eq_true q142
           go_wp2_with (first | ((with_reducible refine gate_callee (f := 51) rfl ?_); refine goesL_ (some 46) rfl rfl Tryd.func51 (by kernel_rfl) rfl #[.string (rdOf ByteArray.empty t136 x7_2)] rfl (by (try simp only [List.map_toArray, List.map_cons, List.map_nil]); first | done | rfl | (simp only [List.length_drop, List.length_take]; rfl)) ?_; (with_reducible refine (spec_VerUint.calls k2 (rdOf ByteArray.empty t136 x7_2) t143 true _ A24.out).mono ?_); rintro e w' ⟨rfl, ⟨nd, rfl⟩⟩; refine ⟨_, rfl, ?_⟩; (try (rw [drewN_self wr]; generalize hq_ : World.drewN wr _ = wr; have n0_ : Aside0 (Kd.R (Kd.int .u64) 36 wr w.heap.size (fun _ => True) u142000 x142000_2) := ⟨by rw [← hq_]; exact (by (with_reducible repeat (first | apply Kd.R_alloc | apply Kd.R_drewN | apply Kd.R_drew)); exact HO_142000.out)⟩; have n1_ : Aside0 (Kd.R Kd.string 9 wr w.heap.size (fun _ => True) (.slice (some ad142) t136.length co17) t136) := ⟨by rw [← hq_]; exact (by (with_reducible repeat (first | apply Kd.R_alloc | apply Kd.R_drewN | apply Kd.R_drew)); exact HO_4.out)⟩; have n2_ : Aside0 (wr.heap[gb134]? = some (.cells #[.slice none 0 0, .bool x135001_2, .string x135002_2, .string x135003_2] 25 (0, 0))) := ⟨by rw [← hq_]; exact (by (with_reducible repeat (first | refine blk_drewN ?_ _ | refine blk_drew ?_ | refine blk_alloc ?_ _)); exact BK134.out)⟩; have n3_ : Aside0 (wr.heap[gb141]? = some (.cells #[u142000, .bool true, .string (⟨#[]⟩ : ByteArray), .string (⟨#[]⟩ : ByteArray)] 25 (0, 0))) := ⟨by rw [← hq_]; exact (by (with_reducible repeat (first | refine blk_drewN ?_ _ | refine blk_drew ?_ | refine blk_alloc ?_ _)); exact BK141.out)⟩; have n4_ : Aside0 (Below w.heap.size w wr) := ⟨by rw [← hq_]; exact (by repeat (first | (with_reducible first | exact HB.out | apply below_alloc | apply pw_below_drewN | apply below_drew1 | refine below_set ?_ GE134.out | refine below_set ?_ GE141.out) | exact HB.out))⟩; clear HO_142000 HO_4 BK134 BK141 HB hq_; have HO_142000 := n0_; have HO_4 := n1_; have BK134 := n2_; have BK141 := n3_; have HB := n4_; clear n0_ n1_ n2_ n3_ n4_)); have p145 : 0 ≤ (x7_2 : Int) := of_decide_eq_true (by assumption); have q145 : x7_2 < (t136.length : Int) := of_decide_eq_true (by assumption); obtain ⟨ad145, e145, hx145_0⟩ := Kd.at_string (Kd.R_reads' HO_4.out).2.2 x7_2 p145 q145; obtain rfl : ad142 = ad145 := (by injection e145); replace p145 := eq_true p145; replace q145 := eq_true q145) | (go_at_call 52; (with_reducible refine (spec_VerPlainly.calls (rdOf ByteArray.empty t136 x7_2) false _ A26.out).mono ?_); rintro e w' ⟨rfl, ⟨nd, rfl⟩⟩; (try (rw [drewN_self wr]; generalize hq_ : World.drewN wr _ = wr; have n0_ : Aside0 (Kd.R (Kd.int .u64) 36 wr w.heap.size (fun _ => True) u142000 x142000_2) := ⟨by rw [← hq_]; exact (by (with_reducible repeat (first | apply Kd.R_alloc | apply Kd.R_drewN | apply Kd.R_drew)); exact HO_142000.out)⟩; have n1_ : Aside0 (Kd.R Kd.string 9 wr w.heap.size (fun _ => True) (.slice (some ad142) t136.length co17) t136) := ⟨by rw [← hq_]; exact (by (with_reducible repeat (first | apply Kd.R_alloc | apply Kd.R_drewN | apply Kd.R_drew)); exact HO_4.out)⟩; have n2_ : Aside0 (wr.heap[gb134]? = some (.cells #[.slice none 0 0, .bool x135001_2, .string x135002_2, .string x135003_2] 25 (0, 0))) := ⟨by rw [← hq_]; exact (by (with_reducible repeat (first | refine blk_drewN ?_ _ | refine blk_drew ?_ | refine blk_alloc ?_ _)); exact BK134.out)⟩; have n3_ : Aside0 (wr.heap[gb141]? = some (.cells #[u142000, .bool true, .string (⟨#[]⟩ : ByteArray), .string (⟨#[]⟩ : ByteArray)] 25 (0, 0))) := ⟨by rw [← hq_]; exact (by (with_reducible repeat (first | refine blk_drewN ?_ _ | refine blk_drew ?_ | refine blk_alloc ?_ _)); exact BK141.out)⟩; have n4_ : Aside0 (Below w.heap.size w wr) := ⟨by rw [← hq_]; exact (by repeat (first | (with_reducible first | exact HB.out | apply below_alloc | apply pw_below_drewN | apply below_drew1 | refine below_set ?_ GE134.out | refine below_set ?_ GE141.out) | exact HB.out))⟩; clear HO_142000 HO_4 BK134 BK141 HB hq_; have HO_142000 := n0_; have HO_4 := n1_; have BK134 := n2_; have BK141 := n3_; have HB := n4_; clear n0_ n1_ n2_ n3_ n4_)); have hnb34 := NB134_141.out; have hnc34 := NB141_134.out; have hcz35_0 : wr.cell? ⟨gb134, 0, none⟩ = some (.slice none 0 0) := (blk_cell BK134.out 0).trans rfl; have hcz35_1 : wr.cell? ⟨gb134, 1, none⟩ = some (.bool x135001_2) := (blk_cell BK134.out 1).trans rfl; have hcz35_2 : wr.cell? ⟨gb134, 2, none⟩ = some (.string x135002_2) := (blk_cell BK134.out 2).trans rfl; have hcz35_3 : wr.cell? ⟨gb134, 3, none⟩ = some (.string x135003_2) := (blk_cell BK134.out 3).trans rfl; have hfz35_0 := blk_frozen BK134.out 0; have hfz35_1 := blk_frozen BK134.out 1; have hfz35_2 := blk_frozen BK134.out 2; have hfz35_3 := blk_frozen BK134.out 3))
           refine bodyPost_ret (results_ct rfl _ _ gb134 25 #[.slice none 0 0, .bool false, .string (⟨#[]⟩ : ByteArray), .string (⟨#[]⟩ : ByteArray)] (0, 0) _ rfl (by (with_reducible repeat (first | refine blk_drewN ?_ _ | refine blk_drew ?_ | refine blk_alloc ?_ _)); refine blk_put (cs := #[.slice none 0 0, .bool false, .string (⟨#[]⟩ : ByteArray), .string x135003_2]) ?_ 3 _ rfl; (with_reducible repeat (first | refine blk_drewN ?_ _ | refine blk_drew ?_ | refine blk_alloc ?_ _)); refine blk_put (cs := #[.slice none 0 0, .bool false, .string x135002_2, .string x135003_2]) ?_ 2 _ rfl; (with_reducible repeat (first | refine blk_drewN ?_ _ | refine blk_drew ?_ | refine blk_alloc ?_ _)); refine blk_put (cs := #[.slice none 0 0, .bool x135001_2, .string x135002_2, .string x135003_2]) ?_ 1 _ rfl; (with_reducible repeat (first | refine blk_drewN ?_ _ | refine blk_drew ?_ | refine blk_alloc ?_ _)); refine blk_put (cs := #[.slice none 0 0, .bool x135001_2, .string x135002_2, .string x135003_2]) ?_ 0 _ rfl; (with_reducible repeat (first | refine blk_drewN ?_ _ | refine blk_drew ?_ | refine blk_alloc ?_ _)); exact BK134.out) Tryd.underlying25 rfl (by kernel_rfl)) rfl ?_
           exact ⟨_, by first | rfl | (simp [errW_none, errW_some] <;> rfl) | (simp [*, errW_none, errW_some] <;> rfl), by first | exact Kd.R_nil _ _ _ _ _ | exact Kd.N_nil _ _ _ _ _ | exact Kd.V_nil _ _ _ _ _ | exact Kd.Q_nil _ _ _ _ _ | exact Kd.S_nil _ _ _ _ _, by repeat (first | (with_reducible first | exact HB.out | apply below_alloc | apply pw_below_drewN | apply below_drew1 | refine below_set ?_ GE134.out | refine below_set ?_ GE141.out) | exact HB.out)⟩
         ·replace c25 := Bool.eq_false_iff.mpr c25
          subst c25
          have H1 : (some (([] : List Int), false, (⟨#[]⟩ : ByteArray), (⟨#[]⟩ : ByteArray), false)) = some (r1, r2, r3, r4, r5) := by rw [if_neg (show ¬ (false = true) by decide)] at H; exact H
          clear H
          have H := H1
          clear H1
          simp only [Option.some.injEq, Prod.mk.injEq] at H
          obtain ⟨rfl, rfl, rfl, rfl, rfl⟩ := H
          have p142 : 0 ≤ (x7_2 : Int) := of_decide_eq_true (by assumption)
          have q142 : x7_2 < (t136.length : Int) := of_decide_eq_true (by assumption)
          obtain ⟨ad142, e142, hx142_0⟩ := Kd.at_string (Kd.R_reads' HO_4.out).2.2 x7_2 p142 q142
          cases e142
          replace p142 := eq_true p142
          replace q142 := eq_true q142
          go_wp2_with (first | ((with_reducible refine gate_callee (f := 51) rfl ?_); refine goesL_ (some 46) rfl rfl Tryd.func51 (by kernel_rfl) rfl #[.string (rdOf ByteArray.empty t136 x7_2)] rfl (by (try simp only [List.map_toArray, List.map_cons, List.map_nil]); first | done | rfl | (simp only [List.length_drop, List.length_take]; rfl)) ?_; (with_reducible refine (spec_VerUint.calls k2 (rdOf ByteArray.empty t136 x7_2) t143 false _ A24.out).mono ?_); rintro e w' ⟨rfl, ⟨nd, rfl⟩⟩; refine ⟨_, rfl, ?_⟩; (try (rw [drewN_self wr]; generalize hq_ : World.drewN wr _ = wr; have n0_ : Aside0 (Kd.R (Kd.int .u64) 36 wr w.heap.size (fun _ => True) u142000 x142000_2) := ⟨by rw [← hq_]; exact (by (with_reducible repeat (first | apply Kd.R_alloc | apply Kd.R_drewN | apply Kd.R_drew)); exact HO_142000.out)⟩; have n1_ : Aside0 (Kd.R Kd.string 9 wr w.heap.size (fun _ => True) (.slice (some ad142) t136.length co17) t136) := ⟨by rw [← hq_]; exact (by (with_reducible repeat (first | apply Kd.R_alloc | apply Kd.R_drewN | apply Kd.R_drew)); exact HO_4.out)⟩; have n2_ : Aside0 (wr.heap[gb134]? = some (.cells #[.slice none 0 0, .bool x135001_2, .string x135002_2, .string x135003_2] 25 (0, 0))) := ⟨by rw [← hq_]; exact (by (with_reducible repeat (first | refine blk_drewN ?_ _ | refine blk_drew ?_ | refine blk_alloc ?_ _)); exact BK134.out)⟩; have n3_ : Aside0 (wr.heap[gb141]? = some (.cells #[u142000, .bool true, .string (⟨#[]⟩ : ByteArray), .string (⟨#[]⟩ : ByteArray)] 25 (0, 0))) := ⟨by rw [← hq_]; exact (by (with_reducible repeat (first | refine blk_drewN ?_ _ | refine blk_drew ?_ | refine blk_alloc ?_ _)); exact BK141.out)⟩; have n4_ : Aside0 (Below w.heap.size w wr) := ⟨by rw [← hq_]; exact (by repeat (first | (with_reducible first | exact HB.out | apply below_alloc | apply pw_below_drewN | apply below_drew1 | refine below_set ?_ GE134.out | refine below_set ?_ GE141.out) | exact HB.out))⟩; clear HO_142000 HO_4 BK134 BK141 HB hq_; have HO_142000 := n0_; have HO_4 := n1_; have BK134 := n2_; have BK141 := n3_; have HB := n4_; clear n0_ n1_ n2_ n3_ n4_)); have hnb36 := NB134_141.out; have hnc36 := NB141_134.out; have hcz37_0 : wr.cell? ⟨gb134, 0, none⟩ = some (.slice none 0 0) := (blk_cell BK134.out 0).trans rfl; have hcz37_1 : wr.cell? ⟨gb134, 1, none⟩ = some (.bool x135001_2) := (blk_cell BK134.out 1).trans rfl; have hcz37_2 : wr.cell? ⟨gb134, 2, none⟩ = some (.string x135002_2) := (blk_cell BK134.out 2).trans rfl; have hcz37_3 : wr.cell? ⟨gb134, 3, none⟩ = some (.string x135003_2) := (blk_cell BK134.out 3).trans rfl; have hfz37_0 := blk_frozen BK134.out 0; have hfz37_1 := blk_frozen BK134.out 1; have hfz37_2 := blk_frozen BK134.out 2; have hfz37_3 := blk_frozen BK134.out 3))
          refine bodyPost_ret (results_ct rfl _ _ gb134 25 #[.slice none 0 0, .bool false, .string (⟨#[]⟩ : ByteArray), .string (⟨#[]⟩ : ByteArray)] (0, 0) _ rfl (by (with_reducible repeat (first | refine blk_drewN ?_ _ | refine blk_drew ?_ | refine blk_alloc ?_ _)); refine blk_put (cs := #[.slice none 0 0, .bool false, .string (⟨#[]⟩ : ByteArray), .string x135003_2]) ?_ 3 _ rfl; (with_reducible repeat (first | refine blk_drewN ?_ _ | refine blk_drew ?_ | refine blk_alloc ?_ _)); refine blk_put (cs := #[.slice none 0 0, .bool false, .string x135002_2, .string x135003_2]) ?_ 2 _ rfl; (with_reducible repeat (first | refine blk_drewN ?_ _ | refine blk_drew ?_ | refine blk_alloc ?_ _)); refine blk_put (cs := #[.slice none 0 0, .bool x135001_2, .string x135002_2, .string x135003_2]) ?_ 1 _ rfl; (with_reducible repeat (first | refine blk_drewN ?_ _ | refine blk_drew ?_ | refine blk_alloc ?_ _)); refine blk_put (cs := #[.slice none 0 0, .bool x135001_2, .string x135002_2, .string x135003_2]) ?_ 0 _ rfl; (with_reducible repeat (first | refine blk_drewN ?_ _ | refine blk_drew ?_ | refine blk_alloc ?_ _)); exact BK134.out) Tryd.underlying25 rfl (by kernel_rfl)) rfl ?_
          exact ⟨_, by first | rfl | (simp [errW_none, errW_some] <;> rfl) | (simp [*, errW_none, errW_some] <;> rfl), by first | exact Kd.R_nil _ _ _ _ _ | exact Kd.N_nil _ _ _ _ _ | exact Kd.V_nil _ _ _ _ _ | exact Kd.Q_nil _ _ _ _ _ | exact Kd.S_nil _ _ _ _ _, by repeat (first | (with_reducible first | exact HB.out | apply below_alloc | apply pw_below_drewN | apply below_drew1 | refine below_set ?_ GE134.out | refine below_set ?_ GE141.out) | exact HB.out)⟩
        ·rw [if_neg c23] at H
         exact absurd H (by simp)
       ·rw [if_neg c22] at H
        exact absurd H (by simp)
      ·rw [if_neg c21] at H
       have c21b0 : decide (x7_2 < 3) = false := decide_eq_false c21
       clear c21
       replace H := Option.bind_eq_some_iff.mp H
       obtain ⟨t150, A380, H⟩ := H
       replace H : (if t150 ≥ 0 then (if 0 ≤ (wrap64 (t150 + 1)) then (if (wrap64 (t150 + 1)) ≤ (x5_3.size : Int) then (if 0 ≤ t150 then (if t150 ≤ (x5_3.size : Int) then ((spec_VerIdentifiers.f k2 (x5_3.extract ((wrap64 (t150 + 1)) : Int).toNat x5_3.size) false).bind fun t151 => (if t151 = true then (if (x5_3.extract 0 (t150 : Int).toNat).toList = ([] : List UInt8) then (some (x142000_2, true, (⟨#[]⟩ : ByteArray), x5_3.extract ((wrap64 (t150 + 1)) : Int).toNat x5_3.size, true)) else (if 1 ≤ ((x5_3.extract 0 (t150 : Int).toNat).size : Int) then (if 0 < ((x5_3.extract 0 (t150 : Int).toNat).size : Int) then (if (bt (x5_3.extract 0 (t150 : Int).toNat) 0) = 45 then ((spec_VerIdentifiers.f k2 ((x5_3.extract 0 (t150 : Int).toNat).extract 1 (t150 : Int).toNat) true).bind fun t152 => (some (x142000_2, true, (x5_3.extract 0 (t150 : Int).toNat).extract 1 (t150 : Int).toNat, x5_3.extract ((wrap64 (t150 + 1)) : Int).toNat x5_3.size, t152))) else (some (x142000_2, true, (x5_3.extract 0 (t150 : Int).toNat).extract 1 (t150 : Int).toNat, x5_3.extract ((wrap64 (t150 + 1)) : Int).toNat x5_3.size, false))) else (none)) else (none))) else (some (([] : List Int), false, (⟨#[]⟩ : ByteArray), (⟨#[]⟩ : ByteArray), false)))) else (none)) else (none)) else (none)) else (none)) else (if x5_3.toList = ([] : List UInt8) then (some (x142000_2, true, (⟨#[]⟩ : ByteArray), (⟨#[]⟩ : ByteArray), true)) else (if 1 ≤ (x5_3.size : Int) then (if 0 < (x5_3.size : Int) then (if (bt x5_3 0) = 45 then ((spec_VerIdentifiers.f k2 (x5_3.extract 1 x5_3.size) true).bind fun t153 => (some (x142000_2, true, x5_3.extract 1 x5_3.size, (⟨#[]⟩ : ByteArray), t153))) else (some (x142000_2, true, x5_3.extract 1 x5_3.size, (⟨#[]⟩ : ByteArray), false))) else (none)) else (none)))) = some (r1, r2, r3, r4, r5) := H
       have A38 := Aside0.mk A380
       clear A380
       by_cases c39 : t150 ≥ 0
       ·rw [if_pos c39] at H
        have c39b0 : decide (0 ≤ t150) = true := decide_eq_true c39
        clear c39
        obtain ⟨ji40, hji40⟩ : ∃ j_ : Int, (wrap64 (t150 + 1)) = j_ := ⟨_, rfl⟩
        replace H : (if 0 ≤ (ji40) then (if (ji40) ≤ (x5_3.size : Int) then (if 0 ≤ t150 then (if t150 ≤ (x5_3.size : Int) then ((spec_VerIdentifiers.f k2 (x5_3.extract ((ji40) : Int).toNat x5_3.size) false).bind fun t151 => (if t151 = true then (if (x5_3.extract 0 (t150 : Int).toNat).toList = ([] : List UInt8) then (some (x142000_2, true, (⟨#[]⟩ : ByteArray), x5_3.extract ((ji40) : Int).toNat x5_3.size, true)) else (if 1 ≤ ((x5_3.extract 0 (t150 : Int).toNat).size : Int) then (if 0 < ((x5_3.extract 0 (t150 : Int).toNat).size : Int) then (if (bt (x5_3.extract 0 (t150 : Int).toNat) 0) = 45 then ((spec_VerIdentifiers.f k2 ((x5_3.extract 0 (t150 : Int).toNat).extract 1 (t150 : Int).toNat) true).bind fun t152 => (some (x142000_2, true, (x5_3.extract 0 (t150 : Int).toNat).extract 1 (t150 : Int).toNat, x5_3.extract ((ji40) : Int).toNat x5_3.size, t152))) else (some (x142000_2, true, (x5_3.extract 0 (t150 : Int).toNat).extract 1 (t150 : Int).toNat, x5_3.extract ((ji40) : Int).toNat x5_3.size, false))) else (none)) else (none))) else (some (([] : List Int), false, (⟨#[]⟩ : ByteArray), (⟨#[]⟩ : ByteArray), false)))) else (none)) else (none)) else (none)) else (none)) = some (r1, r2, r3, r4, r5) := by first | (rw [hji40] at H; exact H) | (simp only [hji40] at H ⊢; exact H)
        (try rw [hji40] at A38)
        have hji40w : (IntKind.i64.wrap (t150 + 1)) = ji40 := (i64_w _).trans hji40
        by_cases c41 : 0 ≤ (ji40)
        ·rw [if_pos c41] at H
         have c41b0 := eq_true c41
         have c41b1 : decide (0 ≤ (ji40)) = true := decide_eq_true c41
         clear c41
         by_cases c42 : (ji40) ≤ (x5_3.size : Int)
         ·rw [if_pos c42] at H
          have c42b0 := eq_true c42
          have c42b1 : decide ((ji40) ≤ (x5_3.size : Int)) = true := decide_eq_true c42
          clear c42
          by_cases c43 : 0 ≤ t150
          ·rw [if_pos c43] at H
           have c43b0 := eq_true c43
           have c43b1 : decide (0 ≤ t150) = true := decide_eq_true c43
           clear c43
           by_cases c44 : t150 ≤ (x5_3.size : Int)
           ·rw [if_pos c44] at H
            have c44b0 := eq_true c44
            have c44b1 : decide (t150 ≤ (x5_3.size : Int)) = true := decide_eq_true c44
            clear c44
            replace H := Option.bind_eq_some_iff.mp H
            obtain ⟨t151, A450, H⟩ := H
            replace H : (if t151 = true then (if (x5_3.extract 0 (t150 : Int).toNat).toList = ([] : List UInt8) then (some (x142000_2, true, (⟨#[]⟩ : ByteArray), x5_3.extract ((ji40) : Int).toNat x5_3.size, true)) else (if 1 ≤ ((x5_3.extract 0 (t150 : Int).toNat).size : Int) then (if 0 < ((x5_3.extract 0 (t150 : Int).toNat).size : Int) then (if (bt (x5_3.extract 0 (t150 : Int).toNat) 0) = 45 then ((spec_VerIdentifiers.f k2 ((x5_3.extract 0 (t150 : Int).toNat).extract 1 (t150 : Int).toNat) true).bind fun t152 => (some (x142000_2, true, (x5_3.extract 0 (t150 : Int).toNat).extract 1 (t150 : Int).toNat, x5_3.extract ((ji40) : Int).toNat x5_3.size, t152))) else (some (x142000_2, true, (x5_3.extract 0 (t150 : Int).toNat).extract 1 (t150 : Int).toNat, x5_3.extract ((ji40) : Int).toNat x5_3.size, false))) else (none)) else (none))) else (some (([] : List Int), false, (⟨#[]⟩ : ByteArray), (⟨#[]⟩ : ByteArray), false))) = some (r1, r2, r3, r4, r5) := H
            have A45 := Aside0.mk A450
            clear A450
            by_cases c46 : t151 = true
            ·subst c46
             have H1 : (if (x5_3.extract 0 (t150 : Int).toNat).toList = ([] : List UInt8) then (some (x142000_2, true, (⟨#[]⟩ : ByteArray), x5_3.extract ((ji40) : Int).toNat x5_3.size, true)) else (if 1 ≤ ((x5_3.extract 0 (t150 : Int).toNat).size : Int) then (if 0 < ((x5_3.extract 0 (t150 : Int).toNat).size : Int) then (if (bt (x5_3.extract 0 (t150 : Int).toNat) 0) = 45 then ((spec_VerIdentifiers.f k2 ((x5_3.extract 0 (t150 : Int).toNat).extract 1 (t150 : Int).toNat) true).bind fun t152 => (some (x142000_2, true, (x5_3.extract 0 (t150 : Int).toNat).extract 1 (t150 : Int).toNat, x5_3.extract ((ji40) : Int).toNat x5_3.size, t152))) else (some (x142000_2, true, (x5_3.extract 0 (t150 : Int).toNat).extract 1 (t150 : Int).toNat, x5_3.extract ((ji40) : Int).toNat x5_3.size, false))) else (none)) else (none))) = some (r1, r2, r3, r4, r5) := by rw [if_pos rfl] at H; exact H
             clear H
             have H := H1
             clear H1
             by_cases c47 : (x5_3.extract 0 (t150 : Int).toNat).toList = ([] : List UInt8)
             ·rw [if_pos c47] at H
              have c47b0 : ((x5_3.extract 0 (t150 : Int).toNat).toList == ([] : List UInt8)) = true := beq_iff_eq.mpr c47
              have c47b1 : ((x5_3.extract 0 (t150 : Int).toNat).toList != ([] : List UInt8)) = false := bne_eq_false_iff_eq.mpr c47
              clear c47
              simp only [Option.some.injEq, Prod.mk.injEq] at H
              obtain ⟨rfl, rfl, rfl, rfl, rfl⟩ := H
              go_wp2_with (first | ((with_reducible refine gate_callee (f := 23) rfl ?_); refine goesL_ (some 67) rfl rfl Tryd.func23 (by kernel_rfl) rfl #[.string x5_3, .int .u8 43] rfl (by (try simp only [List.map_toArray, List.map_cons, List.map_nil]); first | done | rfl | (simp only [List.length_drop, List.length_take]; rfl)) ?_; (with_reducible refine (spec_verPlace.calls k2 x5_3 43 t150 _ A38.out).mono ?_); rintro e w' ⟨rfl, ⟨nd, rfl⟩⟩; refine ⟨_, rfl, ?_⟩; (try (rw [drewN_self wr]; generalize hq_ : World.drewN wr _ = wr; have n0_ : Aside0 (Kd.R (Kd.int .u64) 36 wr w.heap.size (fun _ => True) u142000 x142000_2) := ⟨by rw [← hq_]; exact (by (with_reducible repeat (first | apply Kd.R_alloc | apply Kd.R_drewN | apply Kd.R_drew)); exact HO_142000.out)⟩; have n1_ : Aside0 (Kd.R Kd.string 9 wr w.heap.size (fun _ => True) (.slice Ao17 t136.length co17) t136) := ⟨by rw [← hq_]; exact (by (with_reducible repeat (first | apply Kd.R_alloc | apply Kd.R_drewN | apply Kd.R_drew)); exact HO_4.out)⟩; have n2_ : Aside0 (wr.heap[gb134]? = some (.cells #[.slice none 0 0, .bool x135001_2, .string x135002_2, .string x135003_2] 25 (0, 0))) := ⟨by rw [← hq_]; exact (by (with_reducible repeat (first | refine blk_drewN ?_ _ | refine blk_drew ?_ | refine blk_alloc ?_ _)); exact BK134.out)⟩; have n3_ : Aside0 (wr.heap[gb141]? = some (.cells #[u142000, .bool true, .string (⟨#[]⟩ : ByteArray), .string (⟨#[]⟩ : ByteArray)] 25 (0, 0))) := ⟨by rw [← hq_]; exact (by (with_reducible repeat (first | refine blk_drewN ?_ _ | refine blk_drew ?_ | refine blk_alloc ?_ _)); exact BK141.out)⟩; have n4_ : Aside0 (Below w.heap.size w wr) := ⟨by rw [← hq_]; exact (by repeat (first | (with_reducible first | exact HB.out | apply below_alloc | apply pw_below_drewN | apply below_drew1 | refine below_set ?_ GE134.out | refine below_set ?_ GE141.out) | exact HB.out))⟩; clear HO_142000 HO_4 BK134 BK141 HB hq_; have HO_142000 := n0_; have HO_4 := n1_; have BK134 := n2_; have BK141 := n3_; have HB := n4_; clear n0_ n1_ n2_ n3_ n4_)); have hnb48 := NB141_134.out; have hnc48 := NB134_141.out; have hcz49_0 : wr.cell? ⟨gb141, 0, none⟩ = some (u142000) := (blk_cell BK141.out 0).trans rfl; have hcz49_1 : wr.cell? ⟨gb141, 1, none⟩ = some (.bool true) := (blk_cell BK141.out 1).trans rfl; have hcz49_2 : wr.cell? ⟨gb141, 2, none⟩ = some (.string (⟨#[]⟩ : ByteArray)) := (blk_cell BK141.out 2).trans rfl; have hcz49_3 : wr.cell? ⟨gb141, 3, none⟩ = some (.string (⟨#[]⟩ : ByteArray)) := (blk_cell BK141.out 3).trans rfl; have hfz49_0 := blk_frozen BK141.out 0; have hfz49_1 := blk_frozen BK141.out 1; have hfz49_2 := blk_frozen BK141.out 2; have hfz49_3 := blk_frozen BK141.out 3) | ((with_reducible refine gate_callee (f := 53) rfl ?_); refine goesL_ (some 80) rfl rfl Tryd.func53 (by kernel_rfl) rfl #[.string (x5_3.extract ((ji40) : Int).toNat x5_3.size), .bool false] rfl (by (try simp only [List.map_toArray, List.map_cons, List.map_nil]); first | done | (simp only [hji40]; rfl) | rfl | (simp only [List.length_drop, List.length_take]; rfl)) ?_; (with_reducible refine (spec_VerIdentifiers.calls k2 (x5_3.extract ((ji40) : Int).toNat x5_3.size) false true _ A45.out).mono ?_); rintro e w50 ⟨rfl, hb⟩; refine ⟨_, rfl, ?_⟩; have n0_ := Aside0.mk (Kd.R_below (by (with_reducible repeat (first | apply Kd.R_alloc | apply Kd.R_drewN | apply Kd.R_drew)); exact (Kd.R_mono (Kd.R_far (p := ⟨gb141, 3, none⟩) (Kd.R_types HO_4.out BK141.out (by decide)) (fun _ hk => hk.2) (.string (x5_3.extract ((ji40) : Int).toNat x5_3.size))) (fun _ h_ => h_.1))) hb); have n1_ := Aside0.mk (Kd.R_below (by (with_reducible repeat (first | apply Kd.R_alloc | apply Kd.R_drewN | apply Kd.R_drew)); exact (Kd.R_mono (Kd.R_far (p := ⟨gb141, 3, none⟩) (Kd.R_types HO_142000.out BK141.out (by decide)) (fun _ hk => hk.2) (.string (x5_3.extract ((ji40) : Int).toNat x5_3.size))) (fun _ h_ => h_.1))) hb); have n2_ := Aside0.mk (blk_below (g := gb134) (o := .cells #[.slice none 0 0, .bool x135001_2, .string x135002_2, .string x135003_2] 25 (0, 0)) (by (with_reducible repeat (first | refine blk_drewN ?_ _ | refine blk_drew ?_ | refine blk_alloc ?_ _)); refine blk_far ?_ NB134_141.out _; (with_reducible repeat (first | refine blk_drewN ?_ _ | refine blk_drew ?_ | refine blk_alloc ?_ _)); exact BK134.out) hb); have n3_ := Aside0.mk (blk_below (g := gb141) (o := .cells #[u142000, .bool true, .string (⟨#[]⟩ : ByteArray), .string (x5_3.extract ((ji40) : Int).toNat x5_3.size)] 25 (0, 0)) (by (with_reducible repeat (first | refine blk_drewN ?_ _ | refine blk_drew ?_ | refine blk_alloc ?_ _)); refine blk_put (cs := #[u142000, .bool true, .string (⟨#[]⟩ : ByteArray), .string (⟨#[]⟩ : ByteArray)]) ?_ 3 _ rfl; (with_reducible repeat (first | refine blk_drewN ?_ _ | refine blk_drew ?_ | refine blk_alloc ?_ _)); exact BK141.out) hb); have n4_ := Aside0.mk (below_step (by repeat (first | (with_reducible first | exact HB.out | apply below_alloc | apply pw_below_drewN | apply below_drew1 | refine below_set ?_ GE134.out | refine below_set ?_ GE141.out) | exact HB.out)) hb); clear HO_4; clear HO_142000; clear BK134; clear BK141; clear HB; have HO_4 := n0_; have HO_142000 := n1_; have BK134 := n2_; have BK141 := n3_; have HB := n4_; clear n0_ n1_ n2_ n3_ n4_; (try clear hb); (try clear hb2); (try clear hk); (try clear hi); have hcz51_0 : w50.cell? ⟨gb141, 0, none⟩ = some (u142000) := (blk_cell BK141.out 0).trans rfl; have hcz51_1 : w50.cell? ⟨gb141, 1, none⟩ = some (.bool true) := (blk_cell BK141.out 1).trans rfl; have hcz51_2 : w50.cell? ⟨gb141, 2, none⟩ = some (.string (⟨#[]⟩ : ByteArray)) := (blk_cell BK141.out 2).trans rfl; have hcz51_3 : w50.cell? ⟨gb141, 3, none⟩ = some (.string (x5_3.extract ((ji40) : Int).toNat x5_3.size)) := (blk_cell BK141.out 3).trans rfl; have hfz51_0 := blk_frozen BK141.out 0; have hfz51_1 := blk_frozen BK141.out 1; have hfz51_2 := blk_frozen BK141.out 2; have hfz51_3 := blk_frozen BK141.out 3; obtain ⟨Ao52, co52, eo52⟩ := Kd.R_slice HO_142000.out; subst eo52; have hcz53_0 : w50.cell? ⟨gb134, 0, none⟩ = some (.slice none 0 0) := (blk_cell BK134.out 0).trans rfl; have hcz53_1 : w50.cell? ⟨gb134, 1, none⟩ = some (.bool x135001_2) := (blk_cell BK134.out 1).trans rfl; have hcz53_2 : w50.cell? ⟨gb134, 2, none⟩ = some (.string x135002_2) := (blk_cell BK134.out 2).trans rfl; have hcz53_3 : w50.cell? ⟨gb134, 3, none⟩ = some (.string x135003_2) := (blk_cell BK134.out 3).trans rfl; have hfz53_0 := blk_frozen BK134.out 0; have hfz53_1 := blk_frozen BK134.out 1; have hfz53_2 := blk_frozen BK134.out 2; have hfz53_3 := blk_frozen BK134.out 3))
              refine bodyPost_ret (results_ct rfl _ _ gb134 25 #[.slice Ao52 x142000_2.length co52, .bool true, .string (⟨#[]⟩ : ByteArray), .string (x5_3.extract ((ji40) : Int).toNat x5_3.size)] (0, 0) _ rfl (by (with_reducible repeat (first | refine blk_drewN ?_ _ | refine blk_drew ?_ | refine blk_alloc ?_ _)); refine blk_put (cs := #[.slice Ao52 x142000_2.length co52, .bool true, .string (⟨#[]⟩ : ByteArray), .string x135003_2]) ?_ 3 _ rfl; (with_reducible repeat (first | refine blk_drewN ?_ _ | refine blk_drew ?_ | refine blk_alloc ?_ _)); refine blk_put (cs := #[.slice Ao52 x142000_2.length co52, .bool true, .string x135002_2, .string x135003_2]) ?_ 2 _ rfl; (with_reducible repeat (first | refine blk_drewN ?_ _ | refine blk_drew ?_ | refine blk_alloc ?_ _)); refine blk_put (cs := #[.slice Ao52 x142000_2.length co52, .bool x135001_2, .string x135002_2, .string x135003_2]) ?_ 1 _ rfl; (with_reducible repeat (first | refine blk_drewN ?_ _ | refine blk_drew ?_ | refine blk_alloc ?_ _)); refine blk_put (cs := #[.slice none 0 0, .bool x135001_2, .string x135002_2, .string x135003_2]) ?_ 0 _ rfl; (with_reducible repeat (first | refine blk_drewN ?_ _ | refine blk_drew ?_ | refine blk_alloc ?_ _)); exact BK134.out) Tryd.underlying25 rfl (by kernel_rfl)) rfl ?_
              exact ⟨_, by first | rfl | (simp [errW_none, errW_some] <;> rfl) | (simp only [← hji40]; first | rfl | (simp [errW_none, errW_some] <;> rfl)) | (simp [*, errW_none, errW_some] <;> rfl), by (with_reducible repeat (first | apply Kd.R_alloc | apply Kd.R_drewN | apply Kd.R_drew)); exact Kd.R_mono (Kd.R_far (p := ⟨gb134, 3, none⟩) (Kd.R_far (p := ⟨gb134, 2, none⟩) (Kd.R_far (p := ⟨gb134, 1, none⟩) (Kd.R_far (p := ⟨gb134, 0, none⟩) (Kd.R_types HO_142000.out BK134.out (by decide)) (fun _ hk => hk.2) (.slice Ao52 x142000_2.length co52)) (fun _ hk => hk.2) (.bool true)) (fun _ hk => hk.2) (.string (⟨#[]⟩ : ByteArray))) (fun _ hk => hk.2) (.string (x5_3.extract ((ji40) : Int).toNat x5_3.size))) (fun _ hk => trivial), by repeat (first | (with_reducible first | exact HB.out | apply below_alloc | apply pw_below_drewN | apply below_drew1 | refine below_set ?_ GE134.out | refine below_set ?_ GE141.out) | exact HB.out)⟩
             ·rw [if_neg c47] at H
              have c47b0 : ((x5_3.extract 0 (t150 : Int).toNat).toList == ([] : List UInt8)) = false := beq_eq_false_iff_ne.mpr c47
              have c47b1 : ((x5_3.extract 0 (t150 : Int).toNat).toList != ([] : List UInt8)) = true := bne_iff_ne.mpr c47
              by_cases c54 : 1 ≤ ((x5_3.extract 0 (t150 : Int).toNat).size : Int)
              ·rw [if_pos c54] at H
               have c54g : 1 ≤ (t150 : Int).toNat := by have h_ := c54; simp only [ByteArray.size_extract] at h_; omega
               have c54g0 : (1 ≤ (t150 : Int).toNat) = True := eq_true c54g
               have c54g1 : decide (1 ≤ (t150 : Int).toNat) = true := decide_eq_true c54g
               have c54g2 : (1 ≤ (((t150 : Int).toNat : Nat) : Int)) = True := eq_true (by omega)
               have c54g3 : decide (1 ≤ (((t150 : Int).toNat : Nat) : Int)) = true := decide_eq_true (by omega)
               have c54g4 : (1 ≤ (max t150 0)) = True := eq_true (by omega)
               have c54g5 : decide (1 ≤ (max t150 0)) = true := decide_eq_true (by omega)
               clear c54g
               have c54b0 := eq_true c54
               have c54b1 : decide (1 ≤ ((x5_3.extract 0 (t150 : Int).toNat).size : Int)) = true := decide_eq_true c54
               clear c54
               by_cases c55 : 0 < ((x5_3.extract 0 (t150 : Int).toNat).size : Int)
               ·rw [if_pos c55] at H
                have c55g : 0 < (t150 : Int).toNat := by have h_ := c55; simp only [ByteArray.size_extract] at h_; omega
                have c55g0 : (0 < (t150 : Int).toNat) = True := eq_true c55g
                have c55g1 : decide (0 < (t150 : Int).toNat) = true := decide_eq_true c55g
                have c55g2 : (0 < (((t150 : Int).toNat : Nat) : Int)) = True := eq_true (by omega)
                have c55g3 : decide (0 < (((t150 : Int).toNat : Nat) : Int)) = true := decide_eq_true (by omega)
                have c55g4 : (0 < (max t150 0)) = True := eq_true (by omega)
                have c55g5 : decide (0 < (max t150 0)) = true := decide_eq_true (by omega)
                clear c55g
                have c55b0 : decide (0 < ((x5_3.extract 0 (t150 : Int).toNat).size : Int)) = true := decide_eq_true c55
                have c55b1 : decide (0 < (x5_3.extract 0 (t150 : Int).toNat).size) = true := decide_eq_true (by omega)
                clear c55
                by_cases c57 : (bt (x5_3.extract 0 (t150 : Int).toNat) 0) = 45
                ·rw [if_pos c57] at H
                 have c57b0 : ((bt (x5_3.extract 0 (t150 : Int).toNat) 0) == 45) = true := beq_iff_eq.mpr c57
                 have c57b1 : ((bt (x5_3.extract 0 (t150 : Int).toNat) 0) != 45) = false := bne_eq_false_iff_eq.mpr c57
                 clear c57
                 replace H := Option.bind_eq_some_iff.mp H
                 obtain ⟨t152, A580, H⟩ := H
                 replace H : (some (x142000_2, true, (x5_3.extract 0 (t150 : Int).toNat).extract 1 (t150 : Int).toNat, x5_3.extract ((ji40) : Int).toNat x5_3.size, t152)) = some (r1, r2, r3, r4, r5) := H
                 have A58 := Aside0.mk A580
                 clear A580
                 simp only [Option.some.injEq, Prod.mk.injEq] at H
                 obtain ⟨rfl, rfl, rfl, rfl, rfl⟩ := H
                 try go_wp2_with (first | ((with_reducible refine gate_callee (f := 23) rfl ?_); refine goesL_ (some 67) rfl rfl Tryd.func23 (by kernel_rfl) rfl #[.string x5_3, .int .u8 43] rfl (by (try simp only [List.map_toArray, List.map_cons, List.map_nil]); first | done | rfl | (simp only [List.length_drop, List.length_take]; rfl)) ?_; (with_reducible refine (spec_verPlace.calls k2 x5_3 43 t150 _ A38.out).mono ?_); rintro e w' ⟨rfl, ⟨nd, rfl⟩⟩; refine ⟨_, rfl, ?_⟩; (try (rw [drewN_self wr]; generalize hq_ : World.drewN wr _ = wr; have n0_ : Aside0 (Kd.R (Kd.int .u64) 36 wr w.heap.size (fun _ => True) u142000 x142000_2) := ⟨by rw [← hq_]; exact (by (with_reducible repeat (first | apply Kd.R_alloc | apply Kd.R_drewN | apply Kd.R_drew)); exact HO_142000.out)⟩; have n1_ : Aside0 (Kd.R Kd.string 9 wr w.heap.size (fun _ => True) (.slice Ao17 t136.length co17) t136) := ⟨by rw [← hq_]; exact (by (with_reducible repeat (first | apply Kd.R_alloc | apply Kd.R_drewN | apply Kd.R_drew)); exact HO_4.out)⟩; have n2_ : Aside0 (wr.heap[gb134]? = some (.cells #[.slice none 0 0, .bool x135001_2, .string x135002_2, .string x135003_2] 25 (0, 0))) := ⟨by rw [← hq_]; exact (by (with_reducible repeat (first | refine blk_drewN ?_ _ | refine blk_drew ?_ | refine blk_alloc ?_ _)); exact BK134.out)⟩; have n3_ : Aside0 (wr.heap[gb141]? = some (.cells #[u142000, .bool true, .string (⟨#[]⟩ : ByteArray), .string (⟨#[]⟩ : ByteArray)] 25 (0, 0))) := ⟨by rw [← hq_]; exact (by (with_reducible repeat (first | refine blk_drewN ?_ _ | refine blk_drew ?_ | refine blk_alloc ?_ _)); exact BK141.out)⟩; have n4_ : Aside0 (Below w.heap.size w wr) := ⟨by rw [← hq_]; exact (by repeat (first | (with_reducible first | exact HB.out | apply below_alloc | apply pw_below_drewN | apply below_drew1 | refine below_set ?_ GE134.out | refine below_set ?_ GE141.out) | exact HB.out))⟩; clear HO_142000 HO_4 BK134 BK141 HB hq_; have HO_142000 := n0_; have HO_4 := n1_; have BK134 := n2_; have BK141 := n3_; have HB := n4_; clear n0_ n1_ n2_ n3_ n4_)); have hnb59 := NB141_134.out; have hnc59 := NB134_141.out; have hcz60_0 : wr.cell? ⟨gb141, 0, none⟩ = some (u142000) := (blk_cell BK141.out 0).trans rfl; have hcz60_1 : wr.cell? ⟨gb141, 1, none⟩ = some (.bool true) := (blk_cell BK141.out 1).trans rfl; have hcz60_2 : wr.cell? ⟨gb141, 2, none⟩ = some (.string (⟨#[]⟩ : ByteArray)) := (blk_cell BK141.out 2).trans rfl; have hcz60_3 : wr.cell? ⟨gb141, 3, none⟩ = some (.string (⟨#[]⟩ : ByteArray)) := (blk_cell BK141.out 3).trans rfl; have hfz60_0 := blk_frozen BK141.out 0; have hfz60_1 := blk_frozen BK141.out 1; have hfz60_2 := blk_frozen BK141.out 2; have hfz60_3 := blk_frozen BK141.out 3) | ((with_reducible refine gate_callee (f := 53) rfl ?_); refine goesL_ (some 80) rfl rfl Tryd.func53 (by kernel_rfl) rfl #[.string (x5_3.extract ((ji40) : Int).toNat x5_3.size), .bool false] rfl (by (try simp only [List.map_toArray, List.map_cons, List.map_nil]); first | done | (simp only [hji40]; rfl) | rfl | (simp only [List.length_drop, List.length_take]; rfl)) ?_; (with_reducible refine (spec_VerIdentifiers.calls k2 (x5_3.extract ((ji40) : Int).toNat x5_3.size) false true _ A45.out).mono ?_); rintro e w61 ⟨rfl, hb⟩; refine ⟨_, rfl, ?_⟩; have n0_ := Aside0.mk (Kd.R_below (by (with_reducible repeat (first | apply Kd.R_alloc | apply Kd.R_drewN | apply Kd.R_drew)); exact (Kd.R_mono (Kd.R_far (p := ⟨gb141, 3, none⟩) (Kd.R_types HO_4.out BK141.out (by decide)) (fun _ hk => hk.2) (.string (x5_3.extract ((ji40) : Int).toNat x5_3.size))) (fun _ h_ => h_.1))) hb); have n1_ := Aside0.mk (Kd.R_below (by (with_reducible repeat (first | apply Kd.R_alloc | apply Kd.R_drewN | apply Kd.R_drew)); exact (Kd.R_mono (Kd.R_far (p := ⟨gb141, 3, none⟩) (Kd.R_types HO_142000.out BK141.out (by decide)) (fun _ hk => hk.2) (.string (x5_3.extract ((ji40) : Int).toNat x5_3.size))) (fun _ h_ => h_.1))) hb); have n2_ := Aside0.mk (blk_below (g := gb134) (o := .cells #[.slice none 0 0, .bool x135001_2, .string x135002_2, .string x135003_2] 25 (0, 0)) (by (with_reducible repeat (first | refine blk_drewN ?_ _ | refine blk_drew ?_ | refine blk_alloc ?_ _)); refine blk_far ?_ NB134_141.out _; (with_reducible repeat (first | refine blk_drewN ?_ _ | refine blk_drew ?_ | refine blk_alloc ?_ _)); exact BK134.out) hb); have n3_ := Aside0.mk (blk_below (g := gb141) (o := .cells #[u142000, .bool true, .string (⟨#[]⟩ : ByteArray), .string (x5_3.extract ((ji40) : Int).toNat x5_3.size)] 25 (0, 0)) (by (with_reducible repeat (first | refine blk_drewN ?_ _ | refine blk_drew ?_ | refine blk_alloc ?_ _)); refine blk_put (cs := #[u142000, .bool true, .string (⟨#[]⟩ : ByteArray), .string (⟨#[]⟩ : ByteArray)]) ?_ 3 _ rfl; (with_reducible repeat (first | refine blk_drewN ?_ _ | refine blk_drew ?_ | refine blk_alloc ?_ _)); exact BK141.out) hb); have n4_ := Aside0.mk (below_step (by repeat (first | (with_reducible first | exact HB.out | apply below_alloc | apply pw_below_drewN | apply below_drew1 | refine below_set ?_ GE134.out | refine below_set ?_ GE141.out) | exact HB.out)) hb); clear HO_4; clear HO_142000; clear BK134; clear BK141; clear HB; have HO_4 := n0_; have HO_142000 := n1_; have BK134 := n2_; have BK141 := n3_; have HB := n4_; clear n0_ n1_ n2_ n3_ n4_; (try clear hb); (try clear hb2); (try clear hk); (try clear hi); have hcz62_0 : w61.cell? ⟨gb141, 0, none⟩ = some (u142000) := (blk_cell BK141.out 0).trans rfl; have hcz62_1 : w61.cell? ⟨gb141, 1, none⟩ = some (.bool true) := (blk_cell BK141.out 1).trans rfl; have hcz62_2 : w61.cell? ⟨gb141, 2, none⟩ = some (.string (⟨#[]⟩ : ByteArray)) := (blk_cell BK141.out 2).trans rfl; have hcz62_3 : w61.cell? ⟨gb141, 3, none⟩ = some (.string (x5_3.extract ((ji40) : Int).toNat x5_3.size)) := (blk_cell BK141.out 3).trans rfl; have hfz62_0 := blk_frozen BK141.out 0; have hfz62_1 := blk_frozen BK141.out 1; have hfz62_2 := blk_frozen BK141.out 2; have hfz62_3 := blk_frozen BK141.out 3))
                 have n0_ : Aside0 (Kd.R Kd.string 9 (w61.setCell ⟨gb141, 2, none⟩ (.string ((x5_3.extract 0 (t150 : Int).toNat).extract 1 (t150 : Int).toNat))) w.heap.size (fun _ => True) (.slice Ao17 t136.length co17) t136) := ⟨by (with_reducible repeat (first | apply Kd.R_alloc | apply Kd.R_drewN | apply Kd.R_drew)); exact Kd.R_mono (Kd.R_far (p := ⟨gb141, 2, none⟩) (Kd.R_types HO_4.out BK141.out (by decide)) (fun _ hk => hk.2) (.string ((x5_3.extract 0 (t150 : Int).toNat).extract 1 (t150 : Int).toNat))) (fun _ hk => trivial)⟩
                 have n1_ : Aside0 (Kd.R (Kd.int .u64) 36 (w61.setCell ⟨gb141, 2, none⟩ (.string ((x5_3.extract 0 (t150 : Int).toNat).extract 1 (t150 : Int).toNat))) w.heap.size (fun _ => True) u142000 x142000_2) := ⟨by (with_reducible repeat (first | apply Kd.R_alloc | apply Kd.R_drewN | apply Kd.R_drew)); exact Kd.R_mono (Kd.R_far (p := ⟨gb141, 2, none⟩) (Kd.R_types HO_142000.out BK141.out (by decide)) (fun _ hk => hk.2) (.string ((x5_3.extract 0 (t150 : Int).toNat).extract 1 (t150 : Int).toNat))) (fun _ hk => trivial)⟩
                 have n2_ : Aside0 ((w61.setCell ⟨gb141, 2, none⟩ (.string ((x5_3.extract 0 (t150 : Int).toNat).extract 1 (t150 : Int).toNat))).heap[gb134]? = some (.cells #[.slice none 0 0, .bool x135001_2, .string x135002_2, .string x135003_2] 25 (0, 0))) := ⟨by (with_reducible repeat (first | refine blk_drewN ?_ _ | refine blk_drew ?_ | refine blk_alloc ?_ _)); refine blk_far ?_ NB134_141.out _; (with_reducible repeat (first | refine blk_drewN ?_ _ | refine blk_drew ?_ | refine blk_alloc ?_ _)); exact BK134.out⟩
                 have n3_ : Aside0 ((w61.setCell ⟨gb141, 2, none⟩ (.string ((x5_3.extract 0 (t150 : Int).toNat).extract 1 (t150 : Int).toNat))).heap[gb141]? = some (.cells #[u142000, .bool true, .string ((x5_3.extract 0 (t150 : Int).toNat).extract 1 (t150 : Int).toNat), .string (x5_3.extract ((ji40) : Int).toNat x5_3.size)] 25 (0, 0))) := ⟨by (with_reducible repeat (first | refine blk_drewN ?_ _ | refine blk_drew ?_ | refine blk_alloc ?_ _)); refine blk_put (cs := #[u142000, .bool true, .string (⟨#[]⟩ : ByteArray), .string (x5_3.extract ((ji40) : Int).toNat x5_3.size)]) ?_ 2 _ rfl; (with_reducible repeat (first | refine blk_drewN ?_ _ | refine blk_drew ?_ | refine blk_alloc ?_ _)); exact BK141.out⟩
                 have n4_ : Aside0 (Below w.heap.size w (w61.setCell ⟨gb141, 2, none⟩ (.string ((x5_3.extract 0 (t150 : Int).toNat).extract 1 (t150 : Int).toNat)))) := ⟨by repeat (first | (with_reducible first | exact HB.out | apply below_alloc | apply pw_below_drewN | apply below_drew1 | refine below_set ?_ GE134.out | refine below_set ?_ GE141.out) | exact HB.out)⟩
                 (try clear HO_4)
                 (try clear HO_142000)
                 (try clear BK134)
                 (try clear BK141)
                 (try clear HB)
                 generalize (w61.setCell ⟨gb141, 2, none⟩ (.string ((x5_3.extract 0 (t150 : Int).toNat).extract 1 (t150 : Int).toNat))) = w63 at n0_ n1_ n2_ n3_ n4_ ⊢
                 have HO_4 := n0_
                 have HO_142000 := n1_
                 have BK134 := n2_
                 have BK141 := n3_
                 have HB := n4_
                 clear n0_ n1_ n2_ n3_ n4_
                 have n0_ := Aside0.mk (Kd.R_drew HO_4.out)
                 have n1_ := Aside0.mk (Kd.R_drew HO_142000.out)
                 have n2_ := Aside0.mk (blk_drew BK134.out)
                 have n3_ := Aside0.mk (blk_drew BK141.out)
                 have n4_ := Aside0.mk (below_drew1 HB.out)
                 clear HO_4
                 clear HO_142000
                 clear BK134
                 clear BK141
                 clear HB
                 have HO_4 := n0_
                 have HO_142000 := n1_
                 have BK134 := n2_
                 have BK141 := n3_
                 have HB := n4_
                 clear n0_ n1_ n2_ n3_ n4_
                 have p56 : 0 ≤ (0 : Int) := (by omega)
                 have q56 : 0 < (x5_3.extract 0 (t150 : Int).toNat).size := (by have : (0 : Int) < ((x5_3.extract 0 (t150 : Int).toNat).size : Int) := of_decide_eq_true (by assumption); omega)
                 have hx56 : ∀ h : 0 < (x5_3.extract 0 (t150 : Int).toNat).size, (((x5_3.extract 0 (t150 : Int).toNat)[0]'h).toNat : Int) = bt (x5_3.extract 0 (t150 : Int).toNat) 0 := bt_at (x5_3.extract 0 (t150 : Int).toNat) 0
                 clear p56
                 have qi56 : (0 < ((x5_3.extract 0 (t150 : Int).toNat).size : Int)) = True := eq_true (of_decide_eq_true (by assumption))
                 replace q56 := eq_true q56
                 refine start_ (n := 11) (S := fun w' => w'.cell? ⟨gb141, 0, none⟩ = some (u142000) ∧ w'.cell? ⟨gb141, 1, none⟩ = some (.bool true) ∧ w'.cell? ⟨gb141, 2, none⟩ = some (.string ((x5_3.extract 0 (t150 : Int).toNat).extract 1 (t150 : Int).toNat)) ∧ w'.cell? ⟨gb141, 3, none⟩ = some (.string (x5_3.extract ((ji40) : Int).toNat x5_3.size))) (ds := []) #[false, false, false, false, false, false, false, false, false, false, false] (by kernel_rfl) rfl rfl ⟨(blk_cell BK141.out 0).trans rfl, (blk_cell BK141.out 1).trans rfl, (blk_cell BK141.out 2).trans rfl, (blk_cell BK141.out 3).trans rfl⟩ (fun hHeld => ?_); refine with_tabW spec_VerSemantic.tab23 spec_VerSemantic.bits23 (fun HT_ HW_ => ?_)
                 generalize w63.drew = w64 at HO_4 HO_142000 BK134 BK141 HB hHeld ⊢
                 refine pure_ (i := 1) (N := some 90) (v := ?_) (a' := ?_) #[false, true, false, false, false, false, false, false, false, false, false] rfl rfl (any_of HT_.out (by kernel_rfl)) (fun _ _ _ h => h) (Or.inl ⟨by rfl, ?_⟩) ?_ ?_
                 rotate_left
                 ·intro w'
                  go_simp
                  with_reducible rfl
                 rotate_left
                 ·simp only [Act.put, List.setIfInBounds_toArray, List.set_cons_zero, List.set_cons_succ, i64_w, i32_w]
                  rfl
                 refine take_ (i := 0) (N := some 89) (v := ?_) (a' := ?_) #[true, true, false, false, false, false, false, false, false, false, false] rfl rfl (take_ofW HT_.out HW_.out (by kernel_rfl)) (fun _ _ _ h => h) (Or.inl ⟨by rfl, ?_⟩) hHeld ?_ ?_
                 rotate_left
                 ·rintro w' ⟨s0, s1, s2, s3⟩
                  go_simp
                  with_reducible rfl
                 rotate_left
                 ·simp only [Act.put, List.setIfInBounds_toArray, List.set_cons_zero, List.set_cons_succ, i64_w, i32_w]
                  rfl
                 refine take_ (i := 2) (N := some 91) (v := ?_) (a' := ?_) #[true, true, true, false, false, false, false, false, false, false, false] rfl rfl (take_ofW HT_.out HW_.out (by kernel_rfl)) (fun _ _ _ h => h) (Or.inl ⟨by rfl, ?_⟩) hHeld ?_ ?_
                 rotate_left
                 ·rintro w' ⟨s0, s1, s2, s3⟩
                  go_simp
                  with_reducible rfl
                 rotate_left
                 ·simp only [Act.put, List.setIfInBounds_toArray, List.set_cons_zero, List.set_cons_succ, i64_w, i32_w]
                  rfl
                 refine pure_ (i := 3) (N := some 92) (v := ?_) (a' := ?_) #[true, true, true, true, false, false, false, false, false, false, false] rfl rfl (any_of HT_.out (by kernel_rfl)) (fun _ _ _ h => h) (Or.inl ⟨by rfl, ?_⟩) ?_ ?_
                 rotate_left
                 ·intro w'
                  go_simp
                  with_reducible rfl
                 rotate_left
                 ·simp only [Act.put, List.setIfInBounds_toArray, List.set_cons_zero, List.set_cons_succ, i64_w, i32_w]
                  rfl
                 refine pure_ (i := 4) (N := some 93) (v := ?_) (a' := ?_) #[true, true, true, true, true, false, false, false, false, false, false] rfl rfl (any_of HT_.out (by kernel_rfl)) (fun _ _ _ h => h) (Or.inl ⟨by rfl, ?_⟩) ?_ ?_
                 rotate_left
                 ·intro w'
                  go_simp
                  with_reducible rfl
                 rotate_left
                 ·simp only [Act.put, List.setIfInBounds_toArray, List.set_cons_zero, List.set_cons_succ, i64_w, i32_w]
                  rfl
                 refine pure_ (i := 5) (N := some 94) (v := ?_) (a' := ?_) #[true, true, true, true, true, true, false, false, false, false, false] rfl rfl (any_of HT_.out (by kernel_rfl)) (fun _ _ _ h => h) (Or.inl ⟨by rfl, ?_⟩) ?_ ?_
                 rotate_left
                 ·intro w'
                  go_simp
                  with_reducible rfl
                 rotate_left
                 ·simp only [Act.put, List.setIfInBounds_toArray, List.set_cons_zero, List.set_cons_succ, i64_w, i32_w]
                  rfl
                 refine take_ (i := 6) (N := some 95) (v := ?_) (a' := ?_) #[true, true, true, true, true, true, true, false, false, false, false] rfl rfl (take_ofW HT_.out HW_.out (by kernel_rfl)) (fun _ _ _ h => h) (Or.inl ⟨by rfl, ?_⟩) hHeld ?_ ?_
                 rotate_left
                 ·rintro w' ⟨s0, s1, s2, s3⟩
                  go_simp
                  with_reducible rfl
                 rotate_left
                 ·simp only [Act.put, List.setIfInBounds_toArray, List.set_cons_zero, List.set_cons_succ, i64_w, i32_w]
                  rfl
                 refine one_ (i := 7) (N := some 96) #[true, true, true, true, true, true, true, true, false, false, false] rfl rfl (one_of HT_.out (by kernel_rfl)) (by decide) (fun K hK => ?_)
                 refine goes_ Tryd.func53 (by kernel_rfl) rfl #[.string ((x5_3.extract 0 (t150 : Int).toNat).extract 1 (t150 : Int).toNat), .bool true] (by rfl) rfl rfl (by (try simp only [List.map_toArray, List.map_cons, List.map_nil]); first | done | rfl | (simp only [List.length_drop, List.length_take]; rfl)) ?_
                 with_reducible refine (spec_VerIdentifiers.calls k2 ((x5_3.extract 0 (t150 : Int).toNat).extract 1 (t150 : Int).toNat) true t152 _ A58.out).mono ?_
                 rintro e w65 ⟨rfl, hb⟩
                 refine ⟨_, rfl, ?_⟩
                 have n0_ := Aside0.mk (Kd.R_below (by (with_reducible repeat (first | apply Kd.R_alloc | apply Kd.R_drewN | apply Kd.R_drew)); exact HO_4.out) hb)
                 have n1_ := Aside0.mk (Kd.R_below (by (with_reducible repeat (first | apply Kd.R_alloc | apply Kd.R_drewN | apply Kd.R_drew)); exact HO_142000.out) hb)
                 have n2_ := Aside0.mk (blk_below (g := gb134) (o := .cells #[.slice none 0 0, .bool x135001_2, .string x135002_2, .string x135003_2] 25 (0, 0)) (by (with_reducible repeat (first | refine blk_drewN ?_ _ | refine blk_drew ?_ | refine blk_alloc ?_ _)); exact BK134.out) hb)
                 have n3_ := Aside0.mk (blk_below (g := gb141) (o := .cells #[u142000, .bool true, .string ((x5_3.extract 0 (t150 : Int).toNat).extract 1 (t150 : Int).toNat), .string (x5_3.extract ((ji40) : Int).toNat x5_3.size)] 25 (0, 0)) (by (with_reducible repeat (first | refine blk_drewN ?_ _ | refine blk_drew ?_ | refine blk_alloc ?_ _)); exact BK141.out) hb)
                 have n4_ := Aside0.mk (below_step (by repeat (first | (with_reducible first | exact HB.out | apply below_alloc | apply pw_below_drewN | apply below_drew1 | refine below_set ?_ GE134.out | refine below_set ?_ GE141.out) | exact HB.out)) hb)
                 clear HO_4
                 clear HO_142000
                 clear BK134
                 clear BK141
                 clear HB
                 have HO_4 := n0_
                 have HO_142000 := n1_
                 have BK134 := n2_
                 have BK141 := n3_
                 have HB := n4_
                 clear n0_ n1_ n2_ n3_ n4_
                 (try clear hb)
                 (try clear hb2)
                 (try clear hk)
                 (try clear hi)
                 obtain ⟨Ao66, co66, eo66⟩ := Kd.R_slice HO_142000.out
                 (first | subst eo66 | (injection eo66 with f1_ f2_ f3_; have f4_ := f1_.symm; have f5_ := f3_.symm; clear f1_ f2_ f3_; subst f4_; subst f5_))
                 refine hK.out _ _ ⟨(blk_cell BK141.out 0).trans rfl, (blk_cell BK141.out 1).trans rfl, (blk_cell BK141.out 2).trans rfl, (blk_cell BK141.out 3).trans rfl⟩ (fun hHeld => ?_)
                 clear hK K
                 refine norm_ (a' := ?_) ?_ ?_
                 rotate_left
                 ·show Act.put _ (some 96) _ = _
                  simp only [Act.put, List.setIfInBounds_toArray, List.set_cons_zero, List.set_cons_succ, i64_w, i32_w]
                  rfl
                 refine pure_ (i := 8) (N := some 97) (v := ?_) (a' := ?_) #[true, true, true, true, true, true, true, true, true, false, false] rfl rfl (any_of HT_.out (by kernel_rfl)) (fun _ _ _ h => h) (Or.inl ⟨by rfl, ?_⟩) ?_ ?_
                 rotate_left
                 ·intro w'
                  go_simp
                  with_reducible rfl
                 rotate_left
                 ·simp only [Act.put, List.setIfInBounds_toArray, List.set_cons_zero, List.set_cons_succ, i64_w, i32_w]
                  rfl
                 refine one_ (i := 9) (N := none) #[true, true, true, true, true, true, true, true, true, true, false] rfl rfl (one_of HT_.out (by kernel_rfl)) (by decide) (fun K hK => ?_)
                 have hs67 : w65.cell? ⟨gb134, 0, none⟩ = some (.slice none 0 0) := (blk_cell BK134.out 0).trans rfl
                 have hfs67 := blk_frozen BK134.out 0
                 have hns67_1 := NB141_134.out
                 have hms67_1 := NB134_141.out
                 have hs68 : w65.cell? ⟨gb134, 1, none⟩ = some (.bool x135001_2) := (blk_cell BK134.out 1).trans rfl
                 have hfs68 := blk_frozen BK134.out 1
                 have hns68_1 := NB141_134.out
                 have hms68_1 := NB134_141.out
                 have hs69 : w65.cell? ⟨gb134, 2, none⟩ = some (.string x135002_2) := (blk_cell BK134.out 2).trans rfl
                 have hfs69 := blk_frozen BK134.out 2
                 have hns69_1 := NB141_134.out
                 have hms69_1 := NB134_141.out
                 have hs70 : w65.cell? ⟨gb134, 3, none⟩ = some (.string x135003_2) := (blk_cell BK134.out 3).trans rfl
                 have hfs70 := blk_frozen BK134.out 3
                 have hns70_1 := NB141_134.out
                 have hms70_1 := NB134_141.out
                 refine skip_ (w1 := ?_) (by rfl) rfl ?_ ?_
                 rotate_left
                 ·go_simp
                  rfl
                 refine hK.out _ _ ⟨((cell_far (p := ⟨gb134, _, none⟩) NB141_134.out _).trans (((cell_far (p := ⟨gb134, _, none⟩) NB141_134.out _).trans (((cell_far (p := ⟨gb134, _, none⟩) NB141_134.out _).trans (((cell_far (p := ⟨gb134, _, none⟩) NB141_134.out _).trans (hHeld.1)))))))), ((cell_far (p := ⟨gb134, _, none⟩) NB141_134.out _).trans (((cell_far (p := ⟨gb134, _, none⟩) NB141_134.out _).trans (((cell_far (p := ⟨gb134, _, none⟩) NB141_134.out _).trans (((cell_far (p := ⟨gb134, _, none⟩) NB141_134.out _).trans (hHeld.2.1)))))))), ((cell_far (p := ⟨gb134, _, none⟩) NB141_134.out _).trans (((cell_far (p := ⟨gb134, _, none⟩) NB141_134.out _).trans (((cell_far (p := ⟨gb134, _, none⟩) NB141_134.out _).trans (((cell_far (p := ⟨gb134, _, none⟩) NB141_134.out _).trans (hHeld.2.2.1)))))))), ((cell_far (p := ⟨gb134, _, none⟩) NB141_134.out _).trans (((cell_far (p := ⟨gb134, _, none⟩) NB141_134.out _).trans (((cell_far (p := ⟨gb134, _, none⟩) NB141_134.out _).trans (((cell_far (p := ⟨gb134, _, none⟩) NB141_134.out _).trans (hHeld.2.2.2))))))))⟩ (fun hHeld => ?_)
                 clear hK K
                 refine pure_ (i := 10) (N := some 3) (v := ?_) (a' := ?_) #[true, true, true, true, true, true, true, true, true, true, true] rfl rfl (any_of HT_.out (by kernel_rfl)) (fun _ _ _ h => h) (Or.inl ⟨by rfl, ?_⟩) ?_ ?_
                 rotate_left
                 ·intro w'
                  go_simp
                  with_reducible rfl
                 rotate_left
                 ·simp only [Act.put, List.setIfInBounds_toArray, List.set_cons_zero, List.set_cons_succ, i64_w, i32_w]
                  rfl
                 refine done_ (done_of HT_.out (by kernel_rfl)) ?_
                 try go_wp2
                 refine bodyPost_ret (results_ct rfl _ _ gb134 25 #[.slice Ao66 x142000_2.length co66, .bool true, .string ((x5_3.extract 0 (t150 : Int).toNat).extract 1 (t150 : Int).toNat), .string (x5_3.extract ((ji40) : Int).toNat x5_3.size)] (0, 0) _ rfl (by (with_reducible repeat (first | refine blk_drewN ?_ _ | refine blk_drew ?_ | refine blk_alloc ?_ _)); refine blk_put (cs := #[.slice Ao66 x142000_2.length co66, .bool true, .string ((x5_3.extract 0 (t150 : Int).toNat).extract 1 (t150 : Int).toNat), .string x135003_2]) ?_ 3 _ rfl; (with_reducible repeat (first | refine blk_drewN ?_ _ | refine blk_drew ?_ | refine blk_alloc ?_ _)); refine blk_put (cs := #[.slice Ao66 x142000_2.length co66, .bool true, .string x135002_2, .string x135003_2]) ?_ 2 _ rfl; (with_reducible repeat (first | refine blk_drewN ?_ _ | refine blk_drew ?_ | refine blk_alloc ?_ _)); refine blk_put (cs := #[.slice Ao66 x142000_2.length co66, .bool x135001_2, .string x135002_2, .string x135003_2]) ?_ 1 _ rfl; (with_reducible repeat (first | refine blk_drewN ?_ _ | refine blk_drew ?_ | refine blk_alloc ?_ _)); refine blk_put (cs := #[.slice none 0 0, .bool x135001_2, .string x135002_2, .string x135003_2]) ?_ 0 _ rfl; (with_reducible repeat (first | refine blk_drewN ?_ _ | refine blk_drew ?_ | refine blk_alloc ?_ _)); exact BK134.out) Tryd.underlying25 rfl (by kernel_rfl)) rfl ?_
                 exact ⟨_, by first | rfl | (simp [errW_none, errW_some] <;> rfl) | (simp only [← hji40]; first | rfl | (simp [errW_none, errW_some] <;> rfl)) | (simp [*, errW_none, errW_some] <;> rfl), by (with_reducible repeat (first | apply Kd.R_alloc | apply Kd.R_drewN | apply Kd.R_drew)); exact Kd.R_mono (Kd.R_far (p := ⟨gb134, 3, none⟩) (Kd.R_far (p := ⟨gb134, 2, none⟩) (Kd.R_far (p := ⟨gb134, 1, none⟩) (Kd.R_far (p := ⟨gb134, 0, none⟩) (Kd.R_types HO_142000.out BK134.out (by decide)) (fun _ hk => hk.2) (.slice Ao66 x142000_2.length co66)) (fun _ hk => hk.2) (.bool true)) (fun _ hk => hk.2) (.string ((x5_3.extract 0 (t150 : Int).toNat).extract 1 (t150 : Int).toNat))) (fun _ hk => hk.2) (.string (x5_3.extract ((ji40) : Int).toNat x5_3.size))) (fun _ hk => trivial), by repeat (first | (with_reducible first | exact HB.out | apply below_alloc | apply pw_below_drewN | apply below_drew1 | refine below_set ?_ GE134.out | refine below_set ?_ GE141.out) | exact HB.out)⟩
                ·rw [if_neg c57] at H
                 have c57b0 : ((bt (x5_3.extract 0 (t150 : Int).toNat) 0) == 45) = false := beq_eq_false_iff_ne.mpr c57
                 have c57b1 : ((bt (x5_3.extract 0 (t150 : Int).toNat) 0) != 45) = true := bne_iff_ne.mpr c57
                 simp only [Option.some.injEq, Prod.mk.injEq] at H
                 obtain ⟨rfl, rfl, rfl, rfl, rfl⟩ := H
                 try go_wp2_with (first | ((with_reducible refine gate_callee (f := 23) rfl ?_); refine goesL_ (some 67) rfl rfl Tryd.func23 (by kernel_rfl) rfl #[.string x5_3, .int .u8 43] rfl (by (try simp only [List.map_toArray, List.map_cons, List.map_nil]); first | done | rfl | (simp only [List.length_drop, List.length_take]; rfl)) ?_; (with_reducible refine (spec_verPlace.calls k2 x5_3 43 t150 _ A38.out).mono ?_); rintro e w' ⟨rfl, ⟨nd, rfl⟩⟩; refine ⟨_, rfl, ?_⟩; (try (rw [drewN_self wr]; generalize hq_ : World.drewN wr _ = wr; have n0_ : Aside0 (Kd.R (Kd.int .u64) 36 wr w.heap.size (fun _ => True) u142000 x142000_2) := ⟨by rw [← hq_]; exact (by (with_reducible repeat (first | apply Kd.R_alloc | apply Kd.R_drewN | apply Kd.R_drew)); exact HO_142000.out)⟩; have n1_ : Aside0 (Kd.R Kd.string 9 wr w.heap.size (fun _ => True) (.slice Ao17 t136.length co17) t136) := ⟨by rw [← hq_]; exact (by (with_reducible repeat (first | apply Kd.R_alloc | apply Kd.R_drewN | apply Kd.R_drew)); exact HO_4.out)⟩; have n2_ : Aside0 (wr.heap[gb134]? = some (.cells #[.slice none 0 0, .bool x135001_2, .string x135002_2, .string x135003_2] 25 (0, 0))) := ⟨by rw [← hq_]; exact (by (with_reducible repeat (first | refine blk_drewN ?_ _ | refine blk_drew ?_ | refine blk_alloc ?_ _)); exact BK134.out)⟩; have n3_ : Aside0 (wr.heap[gb141]? = some (.cells #[u142000, .bool true, .string (⟨#[]⟩ : ByteArray), .string (⟨#[]⟩ : ByteArray)] 25 (0, 0))) := ⟨by rw [← hq_]; exact (by (with_reducible repeat (first | refine blk_drewN ?_ _ | refine blk_drew ?_ | refine blk_alloc ?_ _)); exact BK141.out)⟩; have n4_ : Aside0 (Below w.heap.size w wr) := ⟨by rw [← hq_]; exact (by repeat (first | (with_reducible first | exact HB.out | apply below_alloc | apply pw_below_drewN | apply below_drew1 | refine below_set ?_ GE134.out | refine below_set ?_ GE141.out) | exact HB.out))⟩; clear HO_142000 HO_4 BK134 BK141 HB hq_; have HO_142000 := n0_; have HO_4 := n1_; have BK134 := n2_; have BK141 := n3_; have HB := n4_; clear n0_ n1_ n2_ n3_ n4_)); have hnb71 := NB141_134.out; have hnc71 := NB134_141.out; have hcz72_0 : wr.cell? ⟨gb141, 0, none⟩ = some (u142000) := (blk_cell BK141.out 0).trans rfl; have hcz72_1 : wr.cell? ⟨gb141, 1, none⟩ = some (.bool true) := (blk_cell BK141.out 1).trans rfl; have hcz72_2 : wr.cell? ⟨gb141, 2, none⟩ = some (.string (⟨#[]⟩ : ByteArray)) := (blk_cell BK141.out 2).trans rfl; have hcz72_3 : wr.cell? ⟨gb141, 3, none⟩ = some (.string (⟨#[]⟩ : ByteArray)) := (blk_cell BK141.out 3).trans rfl; have hfz72_0 := blk_frozen BK141.out 0; have hfz72_1 := blk_frozen BK141.out 1; have hfz72_2 := blk_frozen BK141.out 2; have hfz72_3 := blk_frozen BK141.out 3) | ((with_reducible refine gate_callee (f := 53) rfl ?_); refine goesL_ (some 80) rfl rfl Tryd.func53 (by kernel_rfl) rfl #[.string (x5_3.extract ((ji40) : Int).toNat x5_3.size), .bool false] rfl (by (try simp only [List.map_toArray, List.map_cons, List.map_nil]); first | done | (simp only [hji40]; rfl) | rfl | (simp only [List.length_drop, List.length_take]; rfl)) ?_; (with_reducible refine (spec_VerIdentifiers.calls k2 (x5_3.extract ((ji40) : Int).toNat x5_3.size) false true _ A45.out).mono ?_); rintro e w73 ⟨rfl, hb⟩; refine ⟨_, rfl, ?_⟩; have n0_ := Aside0.mk (Kd.R_below (by (with_reducible repeat (first | apply Kd.R_alloc | apply Kd.R_drewN | apply Kd.R_drew)); exact (Kd.R_mono (Kd.R_far (p := ⟨gb141, 3, none⟩) (Kd.R_types HO_4.out BK141.out (by decide)) (fun _ hk => hk.2) (.string (x5_3.extract ((ji40) : Int).toNat x5_3.size))) (fun _ h_ => h_.1))) hb); have n1_ := Aside0.mk (Kd.R_below (by (with_reducible repeat (first | apply Kd.R_alloc | apply Kd.R_drewN | apply Kd.R_drew)); exact (Kd.R_mono (Kd.R_far (p := ⟨gb141, 3, none⟩) (Kd.R_types HO_142000.out BK141.out (by decide)) (fun _ hk => hk.2) (.string (x5_3.extract ((ji40) : Int).toNat x5_3.size))) (fun _ h_ => h_.1))) hb); have n2_ := Aside0.mk (blk_below (g := gb134) (o := .cells #[.slice none 0 0, .bool x135001_2, .string x135002_2, .string x135003_2] 25 (0, 0)) (by (with_reducible repeat (first | refine blk_drewN ?_ _ | refine blk_drew ?_ | refine blk_alloc ?_ _)); refine blk_far ?_ NB134_141.out _; (with_reducible repeat (first | refine blk_drewN ?_ _ | refine blk_drew ?_ | refine blk_alloc ?_ _)); exact BK134.out) hb); have n3_ := Aside0.mk (blk_below (g := gb141) (o := .cells #[u142000, .bool true, .string (⟨#[]⟩ : ByteArray), .string (x5_3.extract ((ji40) : Int).toNat x5_3.size)] 25 (0, 0)) (by (with_reducible repeat (first | refine blk_drewN ?_ _ | refine blk_drew ?_ | refine blk_alloc ?_ _)); refine blk_put (cs := #[u142000, .bool true, .string (⟨#[]⟩ : ByteArray), .string (⟨#[]⟩ : ByteArray)]) ?_ 3 _ rfl; (with_reducible repeat (first | refine blk_drewN ?_ _ | refine blk_drew ?_ | refine blk_alloc ?_ _)); exact BK141.out) hb); have n4_ := Aside0.mk (below_step (by repeat (first | (with_reducible first | exact HB.out | apply below_alloc | apply pw_below_drewN | apply below_drew1 | refine below_set ?_ GE134.out | refine below_set ?_ GE141.out) | exact HB.out)) hb); clear HO_4; clear HO_142000; clear BK134; clear BK141; clear HB; have HO_4 := n0_; have HO_142000 := n1_; have BK134 := n2_; have BK141 := n3_; have HB := n4_; clear n0_ n1_ n2_ n3_ n4_; (try clear hb); (try clear hb2); (try clear hk); (try clear hi); have hcz74_0 : w73.cell? ⟨gb141, 0, none⟩ = some (u142000) := (blk_cell BK141.out 0).trans rfl; have hcz74_1 : w73.cell? ⟨gb141, 1, none⟩ = some (.bool true) := (blk_cell BK141.out 1).trans rfl; have hcz74_2 : w73.cell? ⟨gb141, 2, none⟩ = some (.string (⟨#[]⟩ : ByteArray)) := (blk_cell BK141.out 2).trans rfl; have hcz74_3 : w73.cell? ⟨gb141, 3, none⟩ = some (.string (x5_3.extract ((ji40) : Int).toNat x5_3.size)) := (blk_cell BK141.out 3).trans rfl; have hfz74_0 := blk_frozen BK141.out 0; have hfz74_1 := blk_frozen BK141.out 1; have hfz74_2 := blk_frozen BK141.out 2; have hfz74_3 := blk_frozen BK141.out 3))
                 have n0_ : Aside0 (Kd.R Kd.string 9 (w73.setCell ⟨gb141, 2, none⟩ (.string ((x5_3.extract 0 (t150 : Int).toNat).extract 1 (t150 : Int).toNat))) w.heap.size (fun _ => True) (.slice Ao17 t136.length co17) t136) := ⟨by (with_reducible repeat (first | apply Kd.R_alloc | apply Kd.R_drewN | apply Kd.R_drew)); exact Kd.R_mono (Kd.R_far (p := ⟨gb141, 2, none⟩) (Kd.R_types HO_4.out BK141.out (by decide)) (fun _ hk => hk.2) (.string ((x5_3.extract 0 (t150 : Int).toNat).extract 1 (t150 : Int).toNat))) (fun _ hk => trivial)⟩
                 have n1_ : Aside0 (Kd.R (Kd.int .u64) 36 (w73.setCell ⟨gb141, 2, none⟩ (.string ((x5_3.extract 0 (t150 : Int).toNat).extract 1 (t150 : Int).toNat))) w.heap.size (fun _ => True) u142000 x142000_2) := ⟨by (with_reducible repeat (first | apply Kd.R_alloc | apply Kd.R_drewN | apply Kd.R_drew)); exact Kd.R_mono (Kd.R_far (p := ⟨gb141, 2, none⟩) (Kd.R_types HO_142000.out BK141.out (by decide)) (fun _ hk => hk.2) (.string ((x5_3.extract 0 (t150 : Int).toNat).extract 1 (t150 : Int).toNat))) (fun _ hk => trivial)⟩
                 have n2_ : Aside0 ((w73.setCell ⟨gb141, 2, none⟩ (.string ((x5_3.extract 0 (t150 : Int).toNat).extract 1 (t150 : Int).toNat))).heap[gb134]? = some (.cells #[.slice none 0 0, .bool x135001_2, .string x135002_2, .string x135003_2] 25 (0, 0))) := ⟨by (with_reducible repeat (first | refine blk_drewN ?_ _ | refine blk_drew ?_ | refine blk_alloc ?_ _)); refine blk_far ?_ NB134_141.out _; (with_reducible repeat (first | refine blk_drewN ?_ _ | refine blk_drew ?_ | refine blk_alloc ?_ _)); exact BK134.out⟩
                 have n3_ : Aside0 ((w73.setCell ⟨gb141, 2, none⟩ (.string ((x5_3.extract 0 (t150 : Int).toNat).extract 1 (t150 : Int).toNat))).heap[gb141]? = some (.cells #[u142000, .bool true, .string ((x5_3.extract 0 (t150 : Int).toNat).extract 1 (t150 : Int).toNat), .string (x5_3.extract ((ji40) : Int).toNat x5_3.size)] 25 (0, 0))) := ⟨by (with_reducible repeat (first | refine blk_drewN ?_ _ | refine blk_drew ?_ | refine blk_alloc ?_ _)); refine blk_put (cs := #[u142000, .bool true, .string (⟨#[]⟩ : ByteArray), .string (x5_3.extract ((ji40) : Int).toNat x5_3.size)]) ?_ 2 _ rfl; (with_reducible repeat (first | refine blk_drewN ?_ _ | refine blk_drew ?_ | refine blk_alloc ?_ _)); exact BK141.out⟩
                 have n4_ : Aside0 (Below w.heap.size w (w73.setCell ⟨gb141, 2, none⟩ (.string ((x5_3.extract 0 (t150 : Int).toNat).extract 1 (t150 : Int).toNat)))) := ⟨by repeat (first | (with_reducible first | exact HB.out | apply below_alloc | apply pw_below_drewN | apply below_drew1 | refine below_set ?_ GE134.out | refine below_set ?_ GE141.out) | exact HB.out)⟩
                 (try clear HO_4)
                 (try clear HO_142000)
                 (try clear BK134)
                 (try clear BK141)
                 (try clear HB)
                 generalize (w73.setCell ⟨gb141, 2, none⟩ (.string ((x5_3.extract 0 (t150 : Int).toNat).extract 1 (t150 : Int).toNat))) = w75 at n0_ n1_ n2_ n3_ n4_ ⊢
                 have HO_4 := n0_
                 have HO_142000 := n1_
                 have BK134 := n2_
                 have BK141 := n3_
                 have HB := n4_
                 clear n0_ n1_ n2_ n3_ n4_
                 have n0_ := Aside0.mk (Kd.R_drew HO_4.out)
                 have n1_ := Aside0.mk (Kd.R_drew HO_142000.out)
                 have n2_ := Aside0.mk (blk_drew BK134.out)
                 have n3_ := Aside0.mk (blk_drew BK141.out)
                 have n4_ := Aside0.mk (below_drew1 HB.out)
                 clear HO_4
                 clear HO_142000
                 clear BK134
                 clear BK141
                 clear HB
                 have HO_4 := n0_
                 have HO_142000 := n1_
                 have BK134 := n2_
                 have BK141 := n3_
                 have HB := n4_
                 clear n0_ n1_ n2_ n3_ n4_
                 have p56 : 0 ≤ (0 : Int) := (by omega)
                 have q56 : 0 < (x5_3.extract 0 (t150 : Int).toNat).size := (by have : (0 : Int) < ((x5_3.extract 0 (t150 : Int).toNat).size : Int) := of_decide_eq_true (by assumption); omega)
                 have hx56 : ∀ h : 0 < (x5_3.extract 0 (t150 : Int).toNat).size, (((x5_3.extract 0 (t150 : Int).toNat)[0]'h).toNat : Int) = bt (x5_3.extract 0 (t150 : Int).toNat) 0 := bt_at (x5_3.extract 0 (t150 : Int).toNat) 0
                 clear p56
                 have qi56 : (0 < ((x5_3.extract 0 (t150 : Int).toNat).size : Int)) = True := eq_true (of_decide_eq_true (by assumption))
                 replace q56 := eq_true q56
                 obtain ⟨Ao77, co77, eo77⟩ := Kd.R_slice HO_142000.out
                 (first | subst eo77 | (injection eo77 with f1_ f2_ f3_; have f4_ := f1_.symm; have f5_ := f3_.symm; clear f1_ f2_ f3_; subst f4_; subst f5_))
                 refine start_ (n := 11) (S := fun w' => w'.cell? ⟨gb141, 0, none⟩ = some (.slice Ao77 x142000_2.length co77) ∧ w'.cell? ⟨gb141, 1, none⟩ = some (.bool true) ∧ w'.cell? ⟨gb141, 2, none⟩ = some (.string ((x5_3.extract 0 (t150 : Int).toNat).extract 1 (t150 : Int).toNat)) ∧ w'.cell? ⟨gb141, 3, none⟩ = some (.string (x5_3.extract ((ji40) : Int).toNat x5_3.size))) (ds := []) #[false, false, false, false, false, false, false, false, false, false, false] (by kernel_rfl) rfl rfl ⟨(blk_cell BK141.out 0).trans rfl, (blk_cell BK141.out 1).trans rfl, (blk_cell BK141.out 2).trans rfl, (blk_cell BK141.out 3).trans rfl⟩ (fun hHeld => ?_); refine with_tabW spec_VerSemantic.tab23 spec_VerSemantic.bits23 (fun HT_ HW_ => ?_)
                 generalize w75.drew = w76 at HO_4 HO_142000 BK134 BK141 HB hHeld ⊢
                 refine pure_ (i := 1) (N := some 90) (v := ?_) (a' := ?_) #[false, true, false, false, false, false, false, false, false, false, false] rfl rfl (any_of HT_.out (by kernel_rfl)) (fun _ _ _ h => h) (Or.inl ⟨by rfl, ?_⟩) ?_ ?_
                 rotate_left
                 ·intro w'
                  go_simp
                  with_reducible rfl
                 rotate_left
                 ·simp only [Act.put, List.setIfInBounds_toArray, List.set_cons_zero, List.set_cons_succ, i64_w, i32_w]
                  rfl
                 refine take_ (i := 0) (N := some 89) (v := ?_) (a' := ?_) #[true, true, false, false, false, false, false, false, false, false, false] rfl rfl (take_ofW HT_.out HW_.out (by kernel_rfl)) (fun _ _ _ h => h) (Or.inl ⟨by rfl, ?_⟩) hHeld ?_ ?_
                 rotate_left
                 ·rintro w' ⟨s0, s1, s2, s3⟩
                  go_simp
                  with_reducible rfl
                 rotate_left
                 ·simp only [Act.put, List.setIfInBounds_toArray, List.set_cons_zero, List.set_cons_succ, i64_w, i32_w]
                  rfl
                 refine take_ (i := 2) (N := some 91) (v := ?_) (a' := ?_) #[true, true, true, false, false, false, false, false, false, false, false] rfl rfl (take_ofW HT_.out HW_.out (by kernel_rfl)) (fun _ _ _ h => h) (Or.inl ⟨by rfl, ?_⟩) hHeld ?_ ?_
                 rotate_left
                 ·rintro w' ⟨s0, s1, s2, s3⟩
                  go_simp
                  with_reducible rfl
                 rotate_left
                 ·simp only [Act.put, List.setIfInBounds_toArray, List.set_cons_zero, List.set_cons_succ, i64_w, i32_w]
                  rfl
                 refine pure_ (i := 3) (N := some 92) (v := ?_) (a' := ?_) #[true, true, true, true, false, false, false, false, false, false, false] rfl rfl (any_of HT_.out (by kernel_rfl)) (fun _ _ _ h => h) (Or.inl ⟨by rfl, ?_⟩) ?_ ?_
                 rotate_left
                 ·intro w'
                  go_simp
                  with_reducible rfl
                 rotate_left
                 ·simp only [Act.put, List.setIfInBounds_toArray, List.set_cons_zero, List.set_cons_succ, i64_w, i32_w]
                  rfl
                 refine pure_ (i := 4) (N := some 93) (v := ?_) (a' := ?_) #[true, true, true, true, true, false, false, false, false, false, false] rfl rfl (any_of HT_.out (by kernel_rfl)) (fun _ _ _ h => h) (Or.inl ⟨by rfl, ?_⟩) ?_ ?_
                 rotate_left
                 ·intro w'
                  go_simp
                  with_reducible rfl
                 rotate_left
                 ·simp only [Act.put, List.setIfInBounds_toArray, List.set_cons_zero, List.set_cons_succ, i64_w, i32_w]
                  rfl
                 refine pure_ (i := 5) (N := some 94) (v := undef) (a' := ?_) #[true, true, true, true, true, true, false, false, false, false, false] rfl rfl (any_of HT_.out (by kernel_rfl)) (fun _ _ _ h => h) (Or.inr ⟨by rfl, rfl⟩) ?_ ?_
                 rotate_left
                 ·simp only [Act.put, List.setIfInBounds_toArray, List.set_cons_zero, List.set_cons_succ, i64_w, i32_w]
                  rfl
                 refine pure_ (i := 6) (N := some 95) (v := undef) (a' := ?_) #[true, true, true, true, true, true, true, false, false, false, false] rfl rfl (any_of HT_.out (by kernel_rfl)) (fun _ _ _ h => h) (Or.inr ⟨by rfl, rfl⟩) ?_ ?_
                 rotate_left
                 ·simp only [Act.put, List.setIfInBounds_toArray, List.set_cons_zero, List.set_cons_succ, i64_w, i32_w]
                  rfl
                 refine pure_ (i := 7) (N := some 96) (v := undef) (a' := ?_) #[true, true, true, true, true, true, true, true, false, false, false] rfl rfl (any_of HT_.out (by kernel_rfl)) (fun _ _ _ h => h) (Or.inr ⟨by rfl, rfl⟩) ?_ ?_
                 rotate_left
                 ·simp only [Act.put, List.setIfInBounds_toArray, List.set_cons_zero, List.set_cons_succ, i64_w, i32_w]
                  rfl
                 refine pure_ (i := 8) (N := some 97) (v := ?_) (a' := ?_) #[true, true, true, true, true, true, true, true, true, false, false] rfl rfl (any_of HT_.out (by kernel_rfl)) (fun _ _ _ h => h) (Or.inl ⟨by rfl, ?_⟩) ?_ ?_
                 rotate_left
                 ·intro w'
                  go_simp
                  with_reducible rfl
                 rotate_left
                 ·simp only [Act.put, List.setIfInBounds_toArray, List.set_cons_zero, List.set_cons_succ, i64_w, i32_w]
                  rfl
                 refine one_ (i := 9) (N := none) #[true, true, true, true, true, true, true, true, true, true, false] rfl rfl (one_of HT_.out (by kernel_rfl)) (by decide) (fun K hK => ?_)
                 have hs78 : w76.cell? ⟨gb134, 0, none⟩ = some (.slice none 0 0) := (blk_cell BK134.out 0).trans rfl
                 have hfs78 := blk_frozen BK134.out 0
                 have hns78_1 := NB141_134.out
                 have hms78_1 := NB134_141.out
                 have hs79 : w76.cell? ⟨gb134, 1, none⟩ = some (.bool x135001_2) := (blk_cell BK134.out 1).trans rfl
                 have hfs79 := blk_frozen BK134.out 1
                 have hns79_1 := NB141_134.out
                 have hms79_1 := NB134_141.out
                 have hs80 : w76.cell? ⟨gb134, 2, none⟩ = some (.string x135002_2) := (blk_cell BK134.out 2).trans rfl
                 have hfs80 := blk_frozen BK134.out 2
                 have hns80_1 := NB141_134.out
                 have hms80_1 := NB134_141.out
                 have hs81 : w76.cell? ⟨gb134, 3, none⟩ = some (.string x135003_2) := (blk_cell BK134.out 3).trans rfl
                 have hfs81 := blk_frozen BK134.out 3
                 have hns81_1 := NB141_134.out
                 have hms81_1 := NB134_141.out
                 refine skip_ (w1 := ?_) (by rfl) rfl ?_ ?_
                 rotate_left
                 ·go_simp
                  rfl
                 refine hK.out _ _ ⟨((cell_far (p := ⟨gb134, _, none⟩) NB141_134.out _).trans (((cell_far (p := ⟨gb134, _, none⟩) NB141_134.out _).trans (((cell_far (p := ⟨gb134, _, none⟩) NB141_134.out _).trans (((cell_far (p := ⟨gb134, _, none⟩) NB141_134.out _).trans (hHeld.1)))))))), ((cell_far (p := ⟨gb134, _, none⟩) NB141_134.out _).trans (((cell_far (p := ⟨gb134, _, none⟩) NB141_134.out _).trans (((cell_far (p := ⟨gb134, _, none⟩) NB141_134.out _).trans (((cell_far (p := ⟨gb134, _, none⟩) NB141_134.out _).trans (hHeld.2.1)))))))), ((cell_far (p := ⟨gb134, _, none⟩) NB141_134.out _).trans (((cell_far (p := ⟨gb134, _, none⟩) NB141_134.out _).trans (((cell_far (p := ⟨gb134, _, none⟩) NB141_134.out _).trans (((cell_far (p := ⟨gb134, _, none⟩) NB141_134.out _).trans (hHeld.2.2.1)))))))), ((cell_far (p := ⟨gb134, _, none⟩) NB141_134.out _).trans (((cell_far (p := ⟨gb134, _, none⟩) NB141_134.out _).trans (((cell_far (p := ⟨gb134, _, none⟩) NB141_134.out _).trans (((cell_far (p := ⟨gb134, _, none⟩) NB141_134.out _).trans (hHeld.2.2.2))))))))⟩ (fun hHeld => ?_)
                 clear hK K
                 refine pure_ (i := 10) (N := some 3) (v := ?_) (a' := ?_) #[true, true, true, true, true, true, true, true, true, true, true] rfl rfl (any_of HT_.out (by kernel_rfl)) (fun _ _ _ h => h) (Or.inl ⟨by rfl, ?_⟩) ?_ ?_
                 rotate_left
                 ·intro w'
                  go_simp
                  with_reducible rfl
                 rotate_left
                 ·simp only [Act.put, List.setIfInBounds_toArray, List.set_cons_zero, List.set_cons_succ, i64_w, i32_w]
                  rfl
                 refine done_ (done_of HT_.out (by kernel_rfl)) ?_
                 try go_wp2
                 refine bodyPost_ret (results_ct rfl _ _ gb134 25 #[.slice Ao77 x142000_2.length co77, .bool true, .string ((x5_3.extract 0 (t150 : Int).toNat).extract 1 (t150 : Int).toNat), .string (x5_3.extract ((ji40) : Int).toNat x5_3.size)] (0, 0) _ rfl (by (with_reducible repeat (first | refine blk_drewN ?_ _ | refine blk_drew ?_ | refine blk_alloc ?_ _)); refine blk_put (cs := #[.slice Ao77 x142000_2.length co77, .bool true, .string ((x5_3.extract 0 (t150 : Int).toNat).extract 1 (t150 : Int).toNat), .string x135003_2]) ?_ 3 _ rfl; (with_reducible repeat (first | refine blk_drewN ?_ _ | refine blk_drew ?_ | refine blk_alloc ?_ _)); refine blk_put (cs := #[.slice Ao77 x142000_2.length co77, .bool true, .string x135002_2, .string x135003_2]) ?_ 2 _ rfl; (with_reducible repeat (first | refine blk_drewN ?_ _ | refine blk_drew ?_ | refine blk_alloc ?_ _)); refine blk_put (cs := #[.slice Ao77 x142000_2.length co77, .bool x135001_2, .string x135002_2, .string x135003_2]) ?_ 1 _ rfl; (with_reducible repeat (first | refine blk_drewN ?_ _ | refine blk_drew ?_ | refine blk_alloc ?_ _)); refine blk_put (cs := #[.slice none 0 0, .bool x135001_2, .string x135002_2, .string x135003_2]) ?_ 0 _ rfl; (with_reducible repeat (first | refine blk_drewN ?_ _ | refine blk_drew ?_ | refine blk_alloc ?_ _)); exact BK134.out) Tryd.underlying25 rfl (by kernel_rfl)) rfl ?_
                 exact ⟨_, by first | rfl | (simp [errW_none, errW_some] <;> rfl) | (simp only [← hji40]; first | rfl | (simp [errW_none, errW_some] <;> rfl)) | (simp [*, errW_none, errW_some] <;> rfl), by (with_reducible repeat (first | apply Kd.R_alloc | apply Kd.R_drewN | apply Kd.R_drew)); exact Kd.R_mono (Kd.R_far (p := ⟨gb134, 3, none⟩) (Kd.R_far (p := ⟨gb134, 2, none⟩) (Kd.R_far (p := ⟨gb134, 1, none⟩) (Kd.R_far (p := ⟨gb134, 0, none⟩) (Kd.R_types HO_142000.out BK134.out (by decide)) (fun _ hk => hk.2) (.slice Ao77 x142000_2.length co77)) (fun _ hk => hk.2) (.bool true)) (fun _ hk => hk.2) (.string ((x5_3.extract 0 (t150 : Int).toNat).extract 1 (t150 : Int).toNat))) (fun _ hk => hk.2) (.string (x5_3.extract ((ji40) : Int).toNat x5_3.size))) (fun _ hk => trivial), by repeat (first | (with_reducible first | exact HB.out | apply below_alloc | apply pw_below_drewN | apply below_drew1 | refine below_set ?_ GE134.out | refine below_set ?_ GE141.out) | exact HB.out)⟩
               ·rw [if_neg c55] at H
                exact absurd H (by simp)
              ·rw [if_neg c54] at H
               exact absurd H (by simp)
            ·replace c46 := Bool.eq_false_iff.mpr c46
             subst c46
             have H1 : (some (([] : List Int), false, (⟨#[]⟩ : ByteArray), (⟨#[]⟩ : ByteArray), false)) = some (r1, r2, r3, r4, r5) := by rw [if_neg (show ¬ (false = true) by decide)] at H; exact H
             clear H
             have H := H1
             clear H1
             simp only [Option.some.injEq, Prod.mk.injEq] at H
             obtain ⟨rfl, rfl, rfl, rfl, rfl⟩ := H
             go_wp2_with (first | ((with_reducible refine gate_callee (f := 23) rfl ?_); refine goesL_ (some 67) rfl rfl Tryd.func23 (by kernel_rfl) rfl #[.string x5_3, .int .u8 43] rfl (by (try simp only [List.map_toArray, List.map_cons, List.map_nil]); first | done | rfl | (simp only [List.length_drop, List.length_take]; rfl)) ?_; (with_reducible refine (spec_verPlace.calls k2 x5_3 43 t150 _ A38.out).mono ?_); rintro e w' ⟨rfl, ⟨nd, rfl⟩⟩; refine ⟨_, rfl, ?_⟩; (try (rw [drewN_self wr]; generalize hq_ : World.drewN wr _ = wr; have n0_ : Aside0 (Kd.R (Kd.int .u64) 36 wr w.heap.size (fun _ => True) u142000 x142000_2) := ⟨by rw [← hq_]; exact (by (with_reducible repeat (first | apply Kd.R_alloc | apply Kd.R_drewN | apply Kd.R_drew)); exact HO_142000.out)⟩; have n1_ : Aside0 (Kd.R Kd.string 9 wr w.heap.size (fun _ => True) (.slice Ao17 t136.length co17) t136) := ⟨by rw [← hq_]; exact (by (with_reducible repeat (first | apply Kd.R_alloc | apply Kd.R_drewN | apply Kd.R_drew)); exact HO_4.out)⟩; have n2_ : Aside0 (wr.heap[gb134]? = some (.cells #[.slice none 0 0, .bool x135001_2, .string x135002_2, .string x135003_2] 25 (0, 0))) := ⟨by rw [← hq_]; exact (by (with_reducible repeat (first | refine blk_drewN ?_ _ | refine blk_drew ?_ | refine blk_alloc ?_ _)); exact BK134.out)⟩; have n3_ : Aside0 (wr.heap[gb141]? = some (.cells #[u142000, .bool true, .string (⟨#[]⟩ : ByteArray), .string (⟨#[]⟩ : ByteArray)] 25 (0, 0))) := ⟨by rw [← hq_]; exact (by (with_reducible repeat (first | refine blk_drewN ?_ _ | refine blk_drew ?_ | refine blk_alloc ?_ _)); exact BK141.out)⟩; have n4_ : Aside0 (Below w.heap.size w wr) := ⟨by rw [← hq_]; exact (by repeat (first | (with_reducible first | exact HB.out | apply below_alloc | apply pw_below_drewN | apply below_drew1 | refine below_set ?_ GE134.out | refine below_set ?_ GE141.out) | exact HB.out))⟩; clear HO_142000 HO_4 BK134 BK141 HB hq_; have HO_142000 := n0_; have HO_4 := n1_; have BK134 := n2_; have BK141 := n3_; have HB := n4_; clear n0_ n1_ n2_ n3_ n4_)); have hnb82 := NB141_134.out; have hnc82 := NB134_141.out; have hcz83_0 : wr.cell? ⟨gb141, 0, none⟩ = some (u142000) := (blk_cell BK141.out 0).trans rfl; have hcz83_1 : wr.cell? ⟨gb141, 1, none⟩ = some (.bool true) := (blk_cell BK141.out 1).trans rfl; have hcz83_2 : wr.cell? ⟨gb141, 2, none⟩ = some (.string (⟨#[]⟩ : ByteArray)) := (blk_cell BK141.out 2).trans rfl; have hcz83_3 : wr.cell? ⟨gb141, 3, none⟩ = some (.string (⟨#[]⟩ : ByteArray)) := (blk_cell BK141.out 3).trans rfl; have hfz83_0 := blk_frozen BK141.out 0; have hfz83_1 := blk_frozen BK141.out 1; have hfz83_2 := blk_frozen BK141.out 2; have hfz83_3 := blk_frozen BK141.out 3) | ((with_reducible refine gate_callee (f := 53) rfl ?_); refine goesL_ (some 80) rfl rfl Tryd.func53 (by kernel_rfl) rfl #[.string (x5_3.extract ((ji40) : Int).toNat x5_3.size), .bool false] rfl (by (try simp only [List.map_toArray, List.map_cons, List.map_nil]); first | done | (simp only [hji40]; rfl) | rfl | (simp only [List.length_drop, List.length_take]; rfl)) ?_; (with_reducible refine (spec_VerIdentifiers.calls k2 (x5_3.extract ((ji40) : Int).toNat x5_3.size) false false _ A45.out).mono ?_); rintro e w84 ⟨rfl, hb⟩; refine ⟨_, rfl, ?_⟩; have n0_ := Aside0.mk (Kd.R_below (by (with_reducible repeat (first | apply Kd.R_alloc | apply Kd.R_drewN | apply Kd.R_drew)); exact (Kd.R_mono (Kd.R_far (p := ⟨gb141, 3, none⟩) (Kd.R_types HO_4.out BK141.out (by decide)) (fun _ hk => hk.2) (.string (x5_3.extract ((ji40) : Int).toNat x5_3.size))) (fun _ h_ => h_.1))) hb); have n1_ := Aside0.mk (Kd.R_below (by (with_reducible repeat (first | apply Kd.R_alloc | apply Kd.R_drewN | apply Kd.R_drew)); exact (Kd.R_mono (Kd.R_far (p := ⟨gb141, 3, none⟩) (Kd.R_types HO_142000.out BK141.out (by decide)) (fun _ hk => hk.2) (.string (x5_3.extract ((ji40) : Int).toNat x5_3.size))) (fun _ h_ => h_.1))) hb); have n2_ := Aside0.mk (blk_below (g := gb134) (o := .cells #[.slice none 0 0, .bool x135001_2, .string x135002_2, .string x135003_2] 25 (0, 0)) (by (with_reducible repeat (first | refine blk_drewN ?_ _ | refine blk_drew ?_ | refine blk_alloc ?_ _)); refine blk_far ?_ NB134_141.out _; (with_reducible repeat (first | refine blk_drewN ?_ _ | refine blk_drew ?_ | refine blk_alloc ?_ _)); exact BK134.out) hb); have n3_ := Aside0.mk (blk_below (g := gb141) (o := .cells #[u142000, .bool true, .string (⟨#[]⟩ : ByteArray), .string (x5_3.extract ((ji40) : Int).toNat x5_3.size)] 25 (0, 0)) (by (with_reducible repeat (first | refine blk_drewN ?_ _ | refine blk_drew ?_ | refine blk_alloc ?_ _)); refine blk_put (cs := #[u142000, .bool true, .string (⟨#[]⟩ : ByteArray), .string (⟨#[]⟩ : ByteArray)]) ?_ 3 _ rfl; (with_reducible repeat (first | refine blk_drewN ?_ _ | refine blk_drew ?_ | refine blk_alloc ?_ _)); exact BK141.out) hb); have n4_ := Aside0.mk (below_step (by repeat (first | (with_reducible first | exact HB.out | apply below_alloc | apply pw_below_drewN | apply below_drew1 | refine below_set ?_ GE134.out | refine below_set ?_ GE141.out) | exact HB.out)) hb); clear HO_4; clear HO_142000; clear BK134; clear BK141; clear HB; have HO_4 := n0_; have HO_142000 := n1_; have BK134 := n2_; have BK141 := n3_; have HB := n4_; clear n0_ n1_ n2_ n3_ n4_; (try clear hb); (try clear hb2); (try clear hk); (try clear hi); have hcz85_0 : w84.cell? ⟨gb134, 0, none⟩ = some (.slice none 0 0) := (blk_cell BK134.out 0).trans rfl; have hcz85_1 : w84.cell? ⟨gb134, 1, none⟩ = some (.bool x135001_2) := (blk_cell BK134.out 1).trans rfl; have hcz85_2 : w84.cell? ⟨gb134, 2, none⟩ = some (.string x135002_2) := (blk_cell BK134.out 2).trans rfl; have hcz85_3 : w84.cell? ⟨gb134, 3, none⟩ = some (.string x135003_2) := (blk_cell BK134.out 3).trans rfl; have hfz85_0 := blk_frozen BK134.out 0; have hfz85_1 := blk_frozen BK134.out 1; have hfz85_2 := blk_frozen BK134.out 2; have hfz85_3 := blk_frozen BK134.out 3))
             refine bodyPost_ret (results_ct rfl _ _ gb134 25 #[.slice none 0 0, .bool false, .string (⟨#[]⟩ : ByteArray), .string (⟨#[]⟩ : ByteArray)] (0, 0) _ rfl (by (with_reducible repeat (first | refine blk_drewN ?_ _ | refine blk_drew ?_ | refine blk_alloc ?_ _)); refine blk_put (cs := #[.slice none 0 0, .bool false, .string (⟨#[]⟩ : ByteArray), .string x135003_2]) ?_ 3 _ rfl; (with_reducible repeat (first | refine blk_drewN ?_ _ | refine blk_drew ?_ | refine blk_alloc ?_ _)); refine blk_put (cs := #[.slice none 0 0, .bool false, .string x135002_2, .string x135003_2]) ?_ 2 _ rfl; (with_reducible repeat (first | refine blk_drewN ?_ _ | refine blk_drew ?_ | refine blk_alloc ?_ _)); refine blk_put (cs := #[.slice none 0 0, .bool x135001_2, .string x135002_2, .string x135003_2]) ?_ 1 _ rfl; (with_reducible repeat (first | refine blk_drewN ?_ _ | refine blk_drew ?_ | refine blk_alloc ?_ _)); refine blk_put (cs := #[.slice none 0 0, .bool x135001_2, .string x135002_2, .string x135003_2]) ?_ 0 _ rfl; (with_reducible repeat (first | refine blk_drewN ?_ _ | refine blk_drew ?_ | refine blk_alloc ?_ _)); exact BK134.out) Tryd.underlying25 rfl (by kernel_rfl)) rfl ?_
             exact ⟨_, by first | rfl | (simp [errW_none, errW_some] <;> rfl) | (simp only [← hji40]; first | rfl | (simp [errW_none, errW_some] <;> rfl)) | (simp [*, errW_none, errW_some] <;> rfl), by first | exact Kd.R_nil _ _ _ _ _ | exact Kd.N_nil _ _ _ _ _ | exact Kd.V_nil _ _ _ _ _ | exact Kd.Q_nil _ _ _ _ _ | exact Kd.S_nil _ _ _ _ _, by repeat (first | (with_reducible first | exact HB.out | apply below_alloc | apply pw_below_drewN | apply below_drew1 | refine below_set ?_ GE134.out | refine below_set ?_ GE141.out) | exact HB.out)⟩
           ·rw [if_neg c44] at H
            exact absurd H (by simp)
          ·rw [if_neg c43] at H
           exact absurd H (by simp)
         ·rw [if_neg c42] at H
          exact absurd H (by simp)
        ·rw [if_neg c41] at H
         exact absurd H (by simp)
       ·rw [if_neg c39] at H
        have c39b0 : decide (0 ≤ t150) = false := decide_eq_false c39
        clear c39
        by_cases c86 : x5_3.toList = ([] : List UInt8)
        ·rw [if_pos c86] at H
         have c86b0 : (x5_3.toList == ([] : List UInt8)) = true := beq_iff_eq.mpr c86
         have c86b1 : (x5_3.toList != ([] : List UInt8)) = false := bne_eq_false_iff_eq.mpr c86
         clear c86
         simp only [Option.some.injEq, Prod.mk.injEq] at H
         obtain ⟨rfl, rfl, rfl, rfl, rfl⟩ := H
         go_wp2_with (first | ((with_reducible refine gate_callee (f := 23) rfl ?_); refine goesL_ (some 67) rfl rfl Tryd.func23 (by kernel_rfl) rfl #[.string x5_3, .int .u8 43] rfl (by (try simp only [List.map_toArray, List.map_cons, List.map_nil]); first | done | rfl | (simp only [List.length_drop, List.length_take]; rfl)) ?_; (with_reducible refine (spec_verPlace.calls k2 x5_3 43 t150 _ A38.out).mono ?_); rintro e w' ⟨rfl, ⟨nd, rfl⟩⟩; refine ⟨_, rfl, ?_⟩; (try (rw [drewN_self wr]; generalize hq_ : World.drewN wr _ = wr; have n0_ : Aside0 (Kd.R (Kd.int .u64) 36 wr w.heap.size (fun _ => True) u142000 x142000_2) := ⟨by rw [← hq_]; exact (by (with_reducible repeat (first | apply Kd.R_alloc | apply Kd.R_drewN | apply Kd.R_drew)); exact HO_142000.out)⟩; have n1_ : Aside0 (Kd.R Kd.string 9 wr w.heap.size (fun _ => True) (.slice Ao17 t136.length co17) t136) := ⟨by rw [← hq_]; exact (by (with_reducible repeat (first | apply Kd.R_alloc | apply Kd.R_drewN | apply Kd.R_drew)); exact HO_4.out)⟩; have n2_ : Aside0 (wr.heap[gb134]? = some (.cells #[.slice none 0 0, .bool x135001_2, .string x135002_2, .string x135003_2] 25 (0, 0))) := ⟨by rw [← hq_]; exact (by (with_reducible repeat (first | refine blk_drewN ?_ _ | refine blk_drew ?_ | refine blk_alloc ?_ _)); exact BK134.out)⟩; have n3_ : Aside0 (wr.heap[gb141]? = some (.cells #[u142000, .bool true, .string (⟨#[]⟩ : ByteArray), .string (⟨#[]⟩ : ByteArray)] 25 (0, 0))) := ⟨by rw [← hq_]; exact (by (with_reducible repeat (first | refine blk_drewN ?_ _ | refine blk_drew ?_ | refine blk_alloc ?_ _)); exact BK141.out)⟩; have n4_ : Aside0 (Below w.heap.size w wr) := ⟨by rw [← hq_]; exact (by repeat (first | (with_reducible first | exact HB.out | apply below_alloc | apply pw_below_drewN | apply below_drew1 | refine below_set ?_ GE134.out | refine below_set ?_ GE141.out) | exact HB.out))⟩; clear HO_142000 HO_4 BK134 BK141 HB hq_; have HO_142000 := n0_; have HO_4 := n1_; have BK134 := n2_; have BK141 := n3_; have HB := n4_; clear n0_ n1_ n2_ n3_ n4_)); have hnb87 := NB141_134.out; have hnc87 := NB134_141.out; have hcz88_0 : wr.cell? ⟨gb141, 0, none⟩ = some (u142000) := (blk_cell BK141.out 0).trans rfl; have hcz88_1 : wr.cell? ⟨gb141, 1, none⟩ = some (.bool true) := (blk_cell BK141.out 1).trans rfl; have hcz88_2 : wr.cell? ⟨gb141, 2, none⟩ = some (.string (⟨#[]⟩ : ByteArray)) := (blk_cell BK141.out 2).trans rfl; have hcz88_3 : wr.cell? ⟨gb141, 3, none⟩ = some (.string (⟨#[]⟩ : ByteArray)) := (blk_cell BK141.out 3).trans rfl; have hfz88_0 := blk_frozen BK141.out 0; have hfz88_1 := blk_frozen BK141.out 1; have hfz88_2 := blk_frozen BK141.out 2; have hfz88_3 := blk_frozen BK141.out 3; obtain ⟨Ao89, co89, eo89⟩ := Kd.R_slice HO_142000.out; subst eo89; have hcz90_0 : wr.cell? ⟨gb134, 0, none⟩ = some (.slice none 0 0) := (blk_cell BK134.out 0).trans rfl; have hcz90_1 : wr.cell? ⟨gb134, 1, none⟩ = some (.bool x135001_2) := (blk_cell BK134.out 1).trans rfl; have hcz90_2 : wr.cell? ⟨gb134, 2, none⟩ = some (.string x135002_2) := (blk_cell BK134.out 2).trans rfl; have hcz90_3 : wr.cell? ⟨gb134, 3, none⟩ = some (.string x135003_2) := (blk_cell BK134.out 3).trans rfl; have hfz90_0 := blk_frozen BK134.out 0; have hfz90_1 := blk_frozen BK134.out 1; have hfz90_2 := blk_frozen BK134.out 2; have hfz90_3 := blk_frozen BK134.out 3))
         refine bodyPost_ret (results_ct rfl _ _ gb134 25 #[.slice Ao89 x142000_2.length co89, .bool true, .string (⟨#[]⟩ : ByteArray), .string (⟨#[]⟩ : ByteArray)] (0, 0) _ rfl (by (with_reducible repeat (first | refine blk_drewN ?_ _ | refine blk_drew ?_ | refine blk_alloc ?_ _)); refine blk_put (cs := #[.slice Ao89 x142000_2.length co89, .bool true, .string (⟨#[]⟩ : ByteArray), .string x135003_2]) ?_ 3 _ rfl; (with_reducible repeat (first | refine blk_drewN ?_ _ | refine blk_drew ?_ | refine blk_alloc ?_ _)); refine blk_put (cs := #[.slice Ao89 x142000_2.length co89, .bool true, .string x135002_2, .string x135003_2]) ?_ 2 _ rfl; (with_reducible repeat (first | refine blk_drewN ?_ _ | refine blk_drew ?_ | refine blk_alloc ?_ _)); refine blk_put (cs := #[.slice Ao89 x142000_2.length co89, .bool x135001_2, .string x135002_2, .string x135003_2]) ?_ 1 _ rfl; (with_reducible repeat (first | refine blk_drewN ?_ _ | refine blk_drew ?_ | refine blk_alloc ?_ _)); refine blk_put (cs := #[.slice none 0 0, .bool x135001_2, .string x135002_2, .string x135003_2]) ?_ 0 _ rfl; (with_reducible repeat (first | refine blk_drewN ?_ _ | refine blk_drew ?_ | refine blk_alloc ?_ _)); exact BK134.out) Tryd.underlying25 rfl (by kernel_rfl)) rfl ?_
         exact ⟨_, by first | rfl | (simp [errW_none, errW_some] <;> rfl) | (simp [*, errW_none, errW_some] <;> rfl), by (with_reducible repeat (first | apply Kd.R_alloc | apply Kd.R_drewN | apply Kd.R_drew)); exact Kd.R_mono (Kd.R_far (p := ⟨gb134, 3, none⟩) (Kd.R_far (p := ⟨gb134, 2, none⟩) (Kd.R_far (p := ⟨gb134, 1, none⟩) (Kd.R_far (p := ⟨gb134, 0, none⟩) (Kd.R_types HO_142000.out BK134.out (by decide)) (fun _ hk => hk.2) (.slice Ao89 x142000_2.length co89)) (fun _ hk => hk.2) (.bool true)) (fun _ hk => hk.2) (.string (⟨#[]⟩ : ByteArray))) (fun _ hk => hk.2) (.string (⟨#[]⟩ : ByteArray))) (fun _ hk => trivial), by repeat (first | (with_reducible first | exact HB.out | apply below_alloc | apply pw_below_drewN | apply below_drew1 | refine below_set ?_ GE134.out | refine below_set ?_ GE141.out) | exact HB.out)⟩
        ·rw [if_neg c86] at H
         have c86b0 : (x5_3.toList == ([] : List UInt8)) = false := beq_eq_false_iff_ne.mpr c86
         have c86b1 : (x5_3.toList != ([] : List UInt8)) = true := bne_iff_ne.mpr c86
         by_cases c91 : 1 ≤ (x5_3.size : Int)
         ·rw [if_pos c91] at H
          have c91b0 := eq_true c91
          have c91b1 : decide (1 ≤ (x5_3.size : Int)) = true := decide_eq_true c91
          clear c91
          by_cases c92 : 0 < (x5_3.size : Int)
          ·rw [if_pos c92] at H
           have c92b0 : decide (0 < (x5_3.size : Int)) = true := decide_eq_true c92
           have c92b1 : decide (0 < x5_3.size) = true := decide_eq_true (by omega)
           clear c92
           by_cases c94 : (bt x5_3 0) = 45
           ·rw [if_pos c94] at H
            have c94b0 : ((bt x5_3 0) == 45) = true := beq_iff_eq.mpr c94
            have c94b1 : ((bt x5_3 0) != 45) = false := bne_eq_false_iff_eq.mpr c94
            clear c94
            replace H := Option.bind_eq_some_iff.mp H
            obtain ⟨t153, A950, H⟩ := H
            replace H : (some (x142000_2, true, x5_3.extract 1 x5_3.size, (⟨#[]⟩ : ByteArray), t153)) = some (r1, r2, r3, r4, r5) := H
            have A95 := Aside0.mk A950
            clear A950
            simp only [Option.some.injEq, Prod.mk.injEq] at H
            obtain ⟨rfl, rfl, rfl, rfl, rfl⟩ := H
            try go_wp2_with (first | ((with_reducible refine gate_callee (f := 23) rfl ?_); refine goesL_ (some 67) rfl rfl Tryd.func23 (by kernel_rfl) rfl #[.string x5_3, .int .u8 43] rfl (by (try simp only [List.map_toArray, List.map_cons, List.map_nil]); first | done | rfl | (simp only [List.length_drop, List.length_take]; rfl)) ?_; (with_reducible refine (spec_verPlace.calls k2 x5_3 43 t150 _ A38.out).mono ?_); rintro e w' ⟨rfl, ⟨nd, rfl⟩⟩; refine ⟨_, rfl, ?_⟩; (try (rw [drewN_self wr]; generalize hq_ : World.drewN wr _ = wr; have n0_ : Aside0 (Kd.R (Kd.int .u64) 36 wr w.heap.size (fun _ => True) u142000 x142000_2) := ⟨by rw [← hq_]; exact (by (with_reducible repeat (first | apply Kd.R_alloc | apply Kd.R_drewN | apply Kd.R_drew)); exact HO_142000.out)⟩; have n1_ : Aside0 (Kd.R Kd.string 9 wr w.heap.size (fun _ => True) (.slice Ao17 t136.length co17) t136) := ⟨by rw [← hq_]; exact (by (with_reducible repeat (first | apply Kd.R_alloc | apply Kd.R_drewN | apply Kd.R_drew)); exact HO_4.out)⟩; have n2_ : Aside0 (wr.heap[gb134]? = some (.cells #[.slice none 0 0, .bool x135001_2, .string x135002_2, .string x135003_2] 25 (0, 0))) := ⟨by rw [← hq_]; exact (by (with_reducible repeat (first | refine blk_drewN ?_ _ | refine blk_drew ?_ | refine blk_alloc ?_ _)); exact BK134.out)⟩; have n3_ : Aside0 (wr.heap[gb141]? = some (.cells #[u142000, .bool true, .string (⟨#[]⟩ : ByteArray), .string (⟨#[]⟩ : ByteArray)] 25 (0, 0))) := ⟨by rw [← hq_]; exact (by (with_reducible repeat (first | refine blk_drewN ?_ _ | refine blk_drew ?_ | refine blk_alloc ?_ _)); exact BK141.out)⟩; have n4_ : Aside0 (Below w.heap.size w wr) := ⟨by rw [← hq_]; exact (by repeat (first | (with_reducible first | exact HB.out | apply below_alloc | apply pw_below_drewN | apply below_drew1 | refine below_set ?_ GE134.out | refine below_set ?_ GE141.out) | exact HB.out))⟩; clear HO_142000 HO_4 BK134 BK141 HB hq_; have HO_142000 := n0_; have HO_4 := n1_; have BK134 := n2_; have BK141 := n3_; have HB := n4_; clear n0_ n1_ n2_ n3_ n4_)); have hnb96 := NB141_134.out; have hnc96 := NB134_141.out; have hcz97_0 : wr.cell? ⟨gb141, 0, none⟩ = some (u142000) := (blk_cell BK141.out 0).trans rfl; have hcz97_1 : wr.cell? ⟨gb141, 1, none⟩ = some (.bool true) := (blk_cell BK141.out 1).trans rfl; have hcz97_2 : wr.cell? ⟨gb141, 2, none⟩ = some (.string (⟨#[]⟩ : ByteArray)) := (blk_cell BK141.out 2).trans rfl; have hcz97_3 : wr.cell? ⟨gb141, 3, none⟩ = some (.string (⟨#[]⟩ : ByteArray)) := (blk_cell BK141.out 3).trans rfl; have hfz97_0 := blk_frozen BK141.out 0; have hfz97_1 := blk_frozen BK141.out 1; have hfz97_2 := blk_frozen BK141.out 2; have hfz97_3 := blk_frozen BK141.out 3))
            have n0_ : Aside0 (Kd.R Kd.string 9 (wr.setCell ⟨gb141, 2, none⟩ (.string (x5_3.extract 1 x5_3.size))) w.heap.size (fun _ => True) (.slice Ao17 t136.length co17) t136) := ⟨by (with_reducible repeat (first | apply Kd.R_alloc | apply Kd.R_drewN | apply Kd.R_drew)); exact Kd.R_mono (Kd.R_far (p := ⟨gb141, 2, none⟩) (Kd.R_types HO_4.out BK141.out (by decide)) (fun _ hk => hk.2) (.string (x5_3.extract 1 x5_3.size))) (fun _ hk => trivial)⟩
            have n1_ : Aside0 (Kd.R (Kd.int .u64) 36 (wr.setCell ⟨gb141, 2, none⟩ (.string (x5_3.extract 1 x5_3.size))) w.heap.size (fun _ => True) u142000 x142000_2) := ⟨by (with_reducible repeat (first | apply Kd.R_alloc | apply Kd.R_drewN | apply Kd.R_drew)); exact Kd.R_mono (Kd.R_far (p := ⟨gb141, 2, none⟩) (Kd.R_types HO_142000.out BK141.out (by decide)) (fun _ hk => hk.2) (.string (x5_3.extract 1 x5_3.size))) (fun _ hk => trivial)⟩
            have n2_ : Aside0 ((wr.setCell ⟨gb141, 2, none⟩ (.string (x5_3.extract 1 x5_3.size))).heap[gb134]? = some (.cells #[.slice none 0 0, .bool x135001_2, .string x135002_2, .string x135003_2] 25 (0, 0))) := ⟨by (with_reducible repeat (first | refine blk_drewN ?_ _ | refine blk_drew ?_ | refine blk_alloc ?_ _)); refine blk_far ?_ NB134_141.out _; (with_reducible repeat (first | refine blk_drewN ?_ _ | refine blk_drew ?_ | refine blk_alloc ?_ _)); exact BK134.out⟩
            have n3_ : Aside0 ((wr.setCell ⟨gb141, 2, none⟩ (.string (x5_3.extract 1 x5_3.size))).heap[gb141]? = some (.cells #[u142000, .bool true, .string (x5_3.extract 1 x5_3.size), .string (⟨#[]⟩ : ByteArray)] 25 (0, 0))) := ⟨by (with_reducible repeat (first | refine blk_drewN ?_ _ | refine blk_drew ?_ | refine blk_alloc ?_ _)); refine blk_put (cs := #[u142000, .bool true, .string (⟨#[]⟩ : ByteArray), .string (⟨#[]⟩ : ByteArray)]) ?_ 2 _ rfl; (with_reducible repeat (first | refine blk_drewN ?_ _ | refine blk_drew ?_ | refine blk_alloc ?_ _)); exact BK141.out⟩
            have n4_ : Aside0 (Below w.heap.size w (wr.setCell ⟨gb141, 2, none⟩ (.string (x5_3.extract 1 x5_3.size)))) := ⟨by repeat (first | (with_reducible first | exact HB.out | apply below_alloc | apply pw_below_drewN | apply below_drew1 | refine below_set ?_ GE134.out | refine below_set ?_ GE141.out) | exact HB.out)⟩
            (try clear HO_4)
            (try clear HO_142000)
            (try clear BK134)
            (try clear BK141)
            (try clear HB)
            generalize (wr.setCell ⟨gb141, 2, none⟩ (.string (x5_3.extract 1 x5_3.size))) = w98 at n0_ n1_ n2_ n3_ n4_ ⊢
            have HO_4 := n0_
            have HO_142000 := n1_
            have BK134 := n2_
            have BK141 := n3_
            have HB := n4_
            clear n0_ n1_ n2_ n3_ n4_
            have n0_ := Aside0.mk (Kd.R_drew HO_4.out)
            have n1_ := Aside0.mk (Kd.R_drew HO_142000.out)
            have n2_ := Aside0.mk (blk_drew BK134.out)
            have n3_ := Aside0.mk (blk_drew BK141.out)
            have n4_ := Aside0.mk (below_drew1 HB.out)
            clear HO_4
            clear HO_142000
            clear BK134
            clear BK141
            clear HB
            have HO_4 := n0_
            have HO_142000 := n1_
            have BK134 := n2_
            have BK141 := n3_
            have HB := n4_
            clear n0_ n1_ n2_ n3_ n4_
            have p93 : 0 ≤ (0 : Int) := (by omega)
            have q93 : 0 < x5_3.size := (by have : (0 : Int) < (x5_3.size : Int) := of_decide_eq_true (by assumption); omega)
            have hx93 : ∀ h : 0 < x5_3.size, ((x5_3[0]'h).toNat : Int) = bt x5_3 0 := bt_at x5_3 0
            clear p93
            have qi93 : (0 < (x5_3.size : Int)) = True := eq_true (of_decide_eq_true (by assumption))
            replace q93 := eq_true q93
            refine start_ (n := 11) (S := fun w' => w'.cell? ⟨gb141, 0, none⟩ = some (u142000) ∧ w'.cell? ⟨gb141, 1, none⟩ = some (.bool true) ∧ w'.cell? ⟨gb141, 2, none⟩ = some (.string (x5_3.extract 1 x5_3.size)) ∧ w'.cell? ⟨gb141, 3, none⟩ = some (.string (⟨#[]⟩ : ByteArray))) (ds := []) #[false, false, false, false, false, false, false, false, false, false, false] (by kernel_rfl) rfl rfl ⟨(blk_cell BK141.out 0).trans rfl, (blk_cell BK141.out 1).trans rfl, (blk_cell BK141.out 2).trans rfl, (blk_cell BK141.out 3).trans rfl⟩ (fun hHeld => ?_); refine with_tabW spec_VerSemantic.tab23 spec_VerSemantic.bits23 (fun HT_ HW_ => ?_)
            generalize w98.drew = w99 at HO_4 HO_142000 BK134 BK141 HB hHeld ⊢
            refine pure_ (i := 1) (N := some 90) (v := ?_) (a' := ?_) #[false, true, false, false, false, false, false, false, false, false, false] rfl rfl (any_of HT_.out (by kernel_rfl)) (fun _ _ _ h => h) (Or.inl ⟨by rfl, ?_⟩) ?_ ?_
            rotate_left
            ·intro w'
             go_simp
             with_reducible rfl
            rotate_left
            ·simp only [Act.put, List.setIfInBounds_toArray, List.set_cons_zero, List.set_cons_succ, i64_w, i32_w]
             rfl
            refine take_ (i := 0) (N := some 89) (v := ?_) (a' := ?_) #[true, true, false, false, false, false, false, false, false, false, false] rfl rfl (take_ofW HT_.out HW_.out (by kernel_rfl)) (fun _ _ _ h => h) (Or.inl ⟨by rfl, ?_⟩) hHeld ?_ ?_
            rotate_left
            ·rintro w' ⟨s0, s1, s2, s3⟩
             go_simp
             with_reducible rfl
            rotate_left
            ·simp only [Act.put, List.setIfInBounds_toArray, List.set_cons_zero, List.set_cons_succ, i64_w, i32_w]
             rfl
            refine take_ (i := 2) (N := some 91) (v := ?_) (a' := ?_) #[true, true, true, false, false, false, false, false, false, false, false] rfl rfl (take_ofW HT_.out HW_.out (by kernel_rfl)) (fun _ _ _ h => h) (Or.inl ⟨by rfl, ?_⟩) hHeld ?_ ?_
            rotate_left
            ·rintro w' ⟨s0, s1, s2, s3⟩
             go_simp
             with_reducible rfl
            rotate_left
            ·simp only [Act.put, List.setIfInBounds_toArray, List.set_cons_zero, List.set_cons_succ, i64_w, i32_w]
             rfl
            refine pure_ (i := 3) (N := some 92) (v := ?_) (a' := ?_) #[true, true, true, true, false, false, false, false, false, false, false] rfl rfl (any_of HT_.out (by kernel_rfl)) (fun _ _ _ h => h) (Or.inl ⟨by rfl, ?_⟩) ?_ ?_
            rotate_left
            ·intro w'
             go_simp
             with_reducible rfl
            rotate_left
            ·simp only [Act.put, List.setIfInBounds_toArray, List.set_cons_zero, List.set_cons_succ, i64_w, i32_w]
             rfl
            refine pure_ (i := 4) (N := some 93) (v := ?_) (a' := ?_) #[true, true, true, true, true, false, false, false, false, false, false] rfl rfl (any_of HT_.out (by kernel_rfl)) (fun _ _ _ h => h) (Or.inl ⟨by rfl, ?_⟩) ?_ ?_
            rotate_left
            ·intro w'
             go_simp
             with_reducible rfl
            rotate_left
            ·simp only [Act.put, List.setIfInBounds_toArray, List.set_cons_zero, List.set_cons_succ, i64_w, i32_w]
             rfl
            refine pure_ (i := 5) (N := some 94) (v := ?_) (a' := ?_) #[true, true, true, true, true, true, false, false, false, false, false] rfl rfl (any_of HT_.out (by kernel_rfl)) (fun _ _ _ h => h) (Or.inl ⟨by rfl, ?_⟩) ?_ ?_
            rotate_left
            ·intro w'
             go_simp
             with_reducible rfl
            rotate_left
            ·simp only [Act.put, List.setIfInBounds_toArray, List.set_cons_zero, List.set_cons_succ, i64_w, i32_w]
             rfl
            refine take_ (i := 6) (N := some 95) (v := ?_) (a' := ?_) #[true, true, true, true, true, true, true, false, false, false, false] rfl rfl (take_ofW HT_.out HW_.out (by kernel_rfl)) (fun _ _ _ h => h) (Or.inl ⟨by rfl, ?_⟩) hHeld ?_ ?_
            rotate_left
            ·rintro w' ⟨s0, s1, s2, s3⟩
             go_simp
             with_reducible rfl
            rotate_left
            ·simp only [Act.put, List.setIfInBounds_toArray, List.set_cons_zero, List.set_cons_succ, i64_w, i32_w]
             rfl
            refine one_ (i := 7) (N := some 96) #[true, true, true, true, true, true, true, true, false, false, false] rfl rfl (one_of HT_.out (by kernel_rfl)) (by decide) (fun K hK => ?_)
            refine goes_ Tryd.func53 (by kernel_rfl) rfl #[.string (x5_3.extract 1 x5_3.size), .bool true] (by rfl) rfl rfl (by (try simp only [List.map_toArray, List.map_cons, List.map_nil]); first | done | rfl | (simp only [List.length_drop, List.length_take]; rfl)) ?_
            with_reducible refine (spec_VerIdentifiers.calls k2 (x5_3.extract 1 x5_3.size) true t153 _ A95.out).mono ?_
            rintro e w100 ⟨rfl, hb⟩
            refine ⟨_, rfl, ?_⟩
            have n0_ := Aside0.mk (Kd.R_below (by (with_reducible repeat (first | apply Kd.R_alloc | apply Kd.R_drewN | apply Kd.R_drew)); exact HO_4.out) hb)
            have n1_ := Aside0.mk (Kd.R_below (by (with_reducible repeat (first | apply Kd.R_alloc | apply Kd.R_drewN | apply Kd.R_drew)); exact HO_142000.out) hb)
            have n2_ := Aside0.mk (blk_below (g := gb134) (o := .cells #[.slice none 0 0, .bool x135001_2, .string x135002_2, .string x135003_2] 25 (0, 0)) (by (with_reducible repeat (first | refine blk_drewN ?_ _ | refine blk_drew ?_ | refine blk_alloc ?_ _)); exact BK134.out) hb)
            have n3_ := Aside0.mk (blk_below (g := gb141) (o := .cells #[u142000, .bool true, .string (x5_3.extract 1 x5_3.size), .string (⟨#[]⟩ : ByteArray)] 25 (0, 0)) (by (with_reducible repeat (first | refine blk_drewN ?_ _ | refine blk_drew ?_ | refine blk_alloc ?_ _)); exact BK141.out) hb)
            have n4_ := Aside0.mk (below_step (by repeat (first | (with_reducible first | exact HB.out | apply below_alloc | apply pw_below_drewN | apply below_drew1 | refine below_set ?_ GE134.out | refine below_set ?_ GE141.out) | exact HB.out)) hb)
            clear HO_4
            clear HO_142000
            clear BK134
            clear BK141
            clear HB
            have HO_4 := n0_
            have HO_142000 := n1_
            have BK134 := n2_
            have BK141 := n3_
            have HB := n4_
            clear n0_ n1_ n2_ n3_ n4_
            (try clear hb)
            (try clear hb2)
            (try clear hk)
            (try clear hi)
            obtain ⟨Ao101, co101, eo101⟩ := Kd.R_slice HO_142000.out
            (first | subst eo101 | (injection eo101 with f1_ f2_ f3_; have f4_ := f1_.symm; have f5_ := f3_.symm; clear f1_ f2_ f3_; subst f4_; subst f5_))
            refine hK.out _ _ ⟨(blk_cell BK141.out 0).trans rfl, (blk_cell BK141.out 1).trans rfl, (blk_cell BK141.out 2).trans rfl, (blk_cell BK141.out 3).trans rfl⟩ (fun hHeld => ?_)
            clear hK K
            refine norm_ (a' := ?_) ?_ ?_
            rotate_left
            ·show Act.put _ (some 96) _ = _
             simp only [Act.put, List.setIfInBounds_toArray, List.set_cons_zero, List.set_cons_succ, i64_w, i32_w]
             rfl
            refine pure_ (i := 8) (N := some 97) (v := ?_) (a' := ?_) #[true, true, true, true, true, true, true, true, true, false, false] rfl rfl (any_of HT_.out (by kernel_rfl)) (fun _ _ _ h => h) (Or.inl ⟨by rfl, ?_⟩) ?_ ?_
            rotate_left
            ·intro w'
             go_simp
             with_reducible rfl
            rotate_left
            ·simp only [Act.put, List.setIfInBounds_toArray, List.set_cons_zero, List.set_cons_succ, i64_w, i32_w]
             rfl
            refine one_ (i := 9) (N := none) #[true, true, true, true, true, true, true, true, true, true, false] rfl rfl (one_of HT_.out (by kernel_rfl)) (by decide) (fun K hK => ?_)
            have hs102 : w100.cell? ⟨gb134, 0, none⟩ = some (.slice none 0 0) := (blk_cell BK134.out 0).trans rfl
            have hfs102 := blk_frozen BK134.out 0
            have hns102_1 := NB141_134.out
            have hms102_1 := NB134_141.out
            have hs103 : w100.cell? ⟨gb134, 1, none⟩ = some (.bool x135001_2) := (blk_cell BK134.out 1).trans rfl
            have hfs103 := blk_frozen BK134.out 1
            have hns103_1 := NB141_134.out
            have hms103_1 := NB134_141.out
            have hs104 : w100.cell? ⟨gb134, 2, none⟩ = some (.string x135002_2) := (blk_cell BK134.out 2).trans rfl
            have hfs104 := blk_frozen BK134.out 2
            have hns104_1 := NB141_134.out
            have hms104_1 := NB134_141.out
            have hs105 : w100.cell? ⟨gb134, 3, none⟩ = some (.string x135003_2) := (blk_cell BK134.out 3).trans rfl
            have hfs105 := blk_frozen BK134.out 3
            have hns105_1 := NB141_134.out
            have hms105_1 := NB134_141.out
            refine skip_ (w1 := ?_) (by rfl) rfl ?_ ?_
            rotate_left
            ·go_simp
             rfl
            refine hK.out _ _ ⟨((cell_far (p := ⟨gb134, _, none⟩) NB141_134.out _).trans (((cell_far (p := ⟨gb134, _, none⟩) NB141_134.out _).trans (((cell_far (p := ⟨gb134, _, none⟩) NB141_134.out _).trans (((cell_far (p := ⟨gb134, _, none⟩) NB141_134.out _).trans (hHeld.1)))))))), ((cell_far (p := ⟨gb134, _, none⟩) NB141_134.out _).trans (((cell_far (p := ⟨gb134, _, none⟩) NB141_134.out _).trans (((cell_far (p := ⟨gb134, _, none⟩) NB141_134.out _).trans (((cell_far (p := ⟨gb134, _, none⟩) NB141_134.out _).trans (hHeld.2.1)))))))), ((cell_far (p := ⟨gb134, _, none⟩) NB141_134.out _).trans (((cell_far (p := ⟨gb134, _, none⟩) NB141_134.out _).trans (((cell_far (p := ⟨gb134, _, none⟩) NB141_134.out _).trans (((cell_far (p := ⟨gb134, _, none⟩) NB141_134.out _).trans (hHeld.2.2.1)))))))), ((cell_far (p := ⟨gb134, _, none⟩) NB141_134.out _).trans (((cell_far (p := ⟨gb134, _, none⟩) NB141_134.out _).trans (((cell_far (p := ⟨gb134, _, none⟩) NB141_134.out _).trans (((cell_far (p := ⟨gb134, _, none⟩) NB141_134.out _).trans (hHeld.2.2.2))))))))⟩ (fun hHeld => ?_)
            clear hK K
            refine pure_ (i := 10) (N := some 3) (v := ?_) (a' := ?_) #[true, true, true, true, true, true, true, true, true, true, true] rfl rfl (any_of HT_.out (by kernel_rfl)) (fun _ _ _ h => h) (Or.inl ⟨by rfl, ?_⟩) ?_ ?_
            rotate_left
            ·intro w'
             go_simp
             with_reducible rfl
            rotate_left
            ·simp only [Act.put, List.setIfInBounds_toArray, List.set_cons_zero, List.set_cons_succ, i64_w, i32_w]
             rfl
            refine done_ (done_of HT_.out (by kernel_rfl)) ?_
            try go_wp2
            refine bodyPost_ret (results_ct rfl _ _ gb134 25 #[.slice Ao101 x142000_2.length co101, .bool true, .string (x5_3.extract 1 x5_3.size), .string (⟨#[]⟩ : ByteArray)] (0, 0) _ rfl (by (with_reducible repeat (first | refine blk_drewN ?_ _ | refine blk_drew ?_ | refine blk_alloc ?_ _)); refine blk_put (cs := #[.slice Ao101 x142000_2.length co101, .bool true, .string (x5_3.extract 1 x5_3.size), .string x135003_2]) ?_ 3 _ rfl; (with_reducible repeat (first | refine blk_drewN ?_ _ | refine blk_drew ?_ | refine blk_alloc ?_ _)); refine blk_put (cs := #[.slice Ao101 x142000_2.length co101, .bool true, .string x135002_2, .string x135003_2]) ?_ 2 _ rfl; (with_reducible repeat (first | refine blk_drewN ?_ _ | refine blk_drew ?_ | refine blk_alloc ?_ _)); refine blk_put (cs := #[.slice Ao101 x142000_2.length co101, .bool x135001_2, .string x135002_2, .string x135003_2]) ?_ 1 _ rfl; (with_reducible repeat (first | refine blk_drewN ?_ _ | refine blk_drew ?_ | refine blk_alloc ?_ _)); refine blk_put (cs := #[.slice none 0 0, .bool x135001_2, .string x135002_2, .string x135003_2]) ?_ 0 _ rfl; (with_reducible repeat (first | refine blk_drewN ?_ _ | refine blk_drew ?_ | refine blk_alloc ?_ _)); exact BK134.out) Tryd.underlying25 rfl (by kernel_rfl)) rfl ?_
            exact ⟨_, by first | rfl | (simp [errW_none, errW_some] <;> rfl) | (simp [*, errW_none, errW_some] <;> rfl), by (with_reducible repeat (first | apply Kd.R_alloc | apply Kd.R_drewN | apply Kd.R_drew)); exact Kd.R_mono (Kd.R_far (p := ⟨gb134, 3, none⟩) (Kd.R_far (p := ⟨gb134, 2, none⟩) (Kd.R_far (p := ⟨gb134, 1, none⟩) (Kd.R_far (p := ⟨gb134, 0, none⟩) (Kd.R_types HO_142000.out BK134.out (by decide)) (fun _ hk => hk.2) (.slice Ao101 x142000_2.length co101)) (fun _ hk => hk.2) (.bool true)) (fun _ hk => hk.2) (.string (x5_3.extract 1 x5_3.size))) (fun _ hk => hk.2) (.string (⟨#[]⟩ : ByteArray))) (fun _ hk => trivial), by repeat (first | (with_reducible first | exact HB.out | apply below_alloc | apply pw_below_drewN | apply below_drew1 | refine below_set ?_ GE134.out | refine below_set ?_ GE141.out) | exact HB.out)⟩
           ·rw [if_neg c94] at H
            have c94b0 : ((bt x5_3 0) == 45) = false := beq_eq_false_iff_ne.mpr c94
            have c94b1 : ((bt x5_3 0) != 45) = true := bne_iff_ne.mpr c94
            simp only [Option.some.injEq, Prod.mk.injEq] at H
            obtain ⟨rfl, rfl, rfl, rfl, rfl⟩ := H
            try go_wp2_with (first | ((with_reducible refine gate_callee (f := 23) rfl ?_); refine goesL_ (some 67) rfl rfl Tryd.func23 (by kernel_rfl) rfl #[.string x5_3, .int .u8 43] rfl (by (try simp only [List.map_toArray, List.map_cons, List.map_nil]); first | done | rfl | (simp only [List.length_drop, List.length_take]; rfl)) ?_; (with_reducible refine (spec_verPlace.calls k2 x5_3 43 t150 _ A38.out).mono ?_); rintro e w' ⟨rfl, ⟨nd, rfl⟩⟩; refine ⟨_, rfl, ?_⟩; (try (rw [drewN_self wr]; generalize hq_ : World.drewN wr _ = wr; have n0_ : Aside0 (Kd.R (Kd.int .u64) 36 wr w.heap.size (fun _ => True) u142000 x142000_2) := ⟨by rw [← hq_]; exact (by (with_reducible repeat (first | apply Kd.R_alloc | apply Kd.R_drewN | apply Kd.R_drew)); exact HO_142000.out)⟩; have n1_ : Aside0 (Kd.R Kd.string 9 wr w.heap.size (fun _ => True) (.slice Ao17 t136.length co17) t136) := ⟨by rw [← hq_]; exact (by (with_reducible repeat (first | apply Kd.R_alloc | apply Kd.R_drewN | apply Kd.R_drew)); exact HO_4.out)⟩; have n2_ : Aside0 (wr.heap[gb134]? = some (.cells #[.slice none 0 0, .bool x135001_2, .string x135002_2, .string x135003_2] 25 (0, 0))) := ⟨by rw [← hq_]; exact (by (with_reducible repeat (first | refine blk_drewN ?_ _ | refine blk_drew ?_ | refine blk_alloc ?_ _)); exact BK134.out)⟩; have n3_ : Aside0 (wr.heap[gb141]? = some (.cells #[u142000, .bool true, .string (⟨#[]⟩ : ByteArray), .string (⟨#[]⟩ : ByteArray)] 25 (0, 0))) := ⟨by rw [← hq_]; exact (by (with_reducible repeat (first | refine blk_drewN ?_ _ | refine blk_drew ?_ | refine blk_alloc ?_ _)); exact BK141.out)⟩; have n4_ : Aside0 (Below w.heap.size w wr) := ⟨by rw [← hq_]; exact (by repeat (first | (with_reducible first | exact HB.out | apply below_alloc | apply pw_below_drewN | apply below_drew1 | refine below_set ?_ GE134.out | refine below_set ?_ GE141.out) | exact HB.out))⟩; clear HO_142000 HO_4 BK134 BK141 HB hq_; have HO_142000 := n0_; have HO_4 := n1_; have BK134 := n2_; have BK141 := n3_; have HB := n4_; clear n0_ n1_ n2_ n3_ n4_)); have hnb106 := NB141_134.out; have hnc106 := NB134_141.out; have hcz107_0 : wr.cell? ⟨gb141, 0, none⟩ = some (u142000) := (blk_cell BK141.out 0).trans rfl; have hcz107_1 : wr.cell? ⟨gb141, 1, none⟩ = some (.bool true) := (blk_cell BK141.out 1).trans rfl; have hcz107_2 : wr.cell? ⟨gb141, 2, none⟩ = some (.string (⟨#[]⟩ : ByteArray)) := (blk_cell BK141.out 2).trans rfl; have hcz107_3 : wr.cell? ⟨gb141, 3, none⟩ = some (.string (⟨#[]⟩ : ByteArray)) := (blk_cell BK141.out 3).trans rfl; have hfz107_0 := blk_frozen BK141.out 0; have hfz107_1 := blk_frozen BK141.out 1; have hfz107_2 := blk_frozen BK141.out 2; have hfz107_3 := blk_frozen BK141.out 3))
            have n0_ : Aside0 (Kd.R Kd.string 9 (wr.setCell ⟨gb141, 2, none⟩ (.string (x5_3.extract 1 x5_3.size))) w.heap.size (fun _ => True) (.slice Ao17 t136.length co17) t136) := ⟨by (with_reducible repeat (first | apply Kd.R_alloc | apply Kd.R_drewN | apply Kd.R_drew)); exact Kd.R_mono (Kd.R_far (p := ⟨gb141, 2, none⟩) (Kd.R_types HO_4.out BK141.out (by decide)) (fun _ hk => hk.2) (.string (x5_3.extract 1 x5_3.size))) (fun _ hk => trivial)⟩
            have n1_ : Aside0 (Kd.R (Kd.int .u64) 36 (wr.setCell ⟨gb141, 2, none⟩ (.string (x5_3.extract 1 x5_3.size))) w.heap.size (fun _ => True) u142000 x142000_2) := ⟨by (with_reducible repeat (first | apply Kd.R_alloc | apply Kd.R_drewN | apply Kd.R_drew)); exact Kd.R_mono (Kd.R_far (p := ⟨gb141, 2, none⟩) (Kd.R_types HO_142000.out BK141.out (by decide)) (fun _ hk => hk.2) (.string (x5_3.extract 1 x5_3.size))) (fun _ hk => trivial)⟩
            have n2_ : Aside0 ((wr.setCell ⟨gb141, 2, none⟩ (.string (x5_3.extract 1 x5_3.size))).heap[gb134]? = some (.cells #[.slice none 0 0, .bool x135001_2, .string x135002_2, .string x135003_2] 25 (0, 0))) := ⟨by (with_reducible repeat (first | refine blk_drewN ?_ _ | refine blk_drew ?_ | refine blk_alloc ?_ _)); refine blk_far ?_ NB134_141.out _; (with_reducible repeat (first | refine blk_drewN ?_ _ | refine blk_drew ?_ | refine blk_alloc ?_ _)); exact BK134.out⟩
            have n3_ : Aside0 ((wr.setCell ⟨gb141, 2, none⟩ (.string (x5_3.extract 1 x5_3.size))).heap[gb141]? = some (.cells #[u142000, .bool true, .string (x5_3.extract 1 x5_3.size), .string (⟨#[]⟩ : ByteArray)] 25 (0, 0))) := ⟨by (with_reducible repeat (first | refine blk_drewN ?_ _ | refine blk_drew ?_ | refine blk_alloc ?_ _)); refine blk_put (cs := #[u142000, .bool true, .string (⟨#[]⟩ : ByteArray), .string (⟨#[]⟩ : ByteArray)]) ?_ 2 _ rfl; (with_reducible repeat (first | refine blk_drewN ?_ _ | refine blk_drew ?_ | refine blk_alloc ?_ _)); exact BK141.out⟩
            have n4_ : Aside0 (Below w.heap.size w (wr.setCell ⟨gb141, 2, none⟩ (.string (x5_3.extract 1 x5_3.size)))) := ⟨by repeat (first | (with_reducible first | exact HB.out | apply below_alloc | apply pw_below_drewN | apply below_drew1 | refine below_set ?_ GE134.out | refine below_set ?_ GE141.out) | exact HB.out)⟩
            (try clear HO_4)
            (try clear HO_142000)
            (try clear BK134)
            (try clear BK141)
            (try clear HB)
            generalize (wr.setCell ⟨gb141, 2, none⟩ (.string (x5_3.extract 1 x5_3.size))) = w108 at n0_ n1_ n2_ n3_ n4_ ⊢
            have HO_4 := n0_
            have HO_142000 := n1_
            have BK134 := n2_
            have BK141 := n3_
            have HB := n4_
            clear n0_ n1_ n2_ n3_ n4_
            have n0_ := Aside0.mk (Kd.R_drew HO_4.out)
            have n1_ := Aside0.mk (Kd.R_drew HO_142000.out)
            have n2_ := Aside0.mk (blk_drew BK134.out)
            have n3_ := Aside0.mk (blk_drew BK141.out)
            have n4_ := Aside0.mk (below_drew1 HB.out)
            clear HO_4
            clear HO_142000
            clear BK134
            clear BK141
            clear HB
            have HO_4 := n0_
            have HO_142000 := n1_
            have BK134 := n2_
            have BK141 := n3_
            have HB := n4_
            clear n0_ n1_ n2_ n3_ n4_
            have p93 : 0 ≤ (0 : Int) := (by omega)
            have q93 : 0 < x5_3.size := (by have : (0 : Int) < (x5_3.size : Int) := of_decide_eq_true (by assumption); omega)
            have hx93 : ∀ h : 0 < x5_3.size, ((x5_3[0]'h).toNat : Int) = bt x5_3 0 := bt_at x5_3 0
            clear p93
            have qi93 : (0 < (x5_3.size : Int)) = True := eq_true (of_decide_eq_true (by assumption))
            replace q93 := eq_true q93
            obtain ⟨Ao110, co110, eo110⟩ := Kd.R_slice HO_142000.out
            (first | subst eo110 | (injection eo110 with f1_ f2_ f3_; have f4_ := f1_.symm; have f5_ := f3_.symm; clear f1_ f2_ f3_; subst f4_; subst f5_))
            refine start_ (n := 11) (S := fun w' => w'.cell? ⟨gb141, 0, none⟩ = some (.slice Ao110 x142000_2.length co110) ∧ w'.cell? ⟨gb141, 1, none⟩ = some (.bool true) ∧ w'.cell? ⟨gb141, 2, none⟩ = some (.string (x5_3.extract 1 x5_3.size)) ∧ w'.cell? ⟨gb141, 3, none⟩ = some (.string (⟨#[]⟩ : ByteArray))) (ds := []) #[false, false, false, false, false, false, false, false, false, false, false] (by kernel_rfl) rfl rfl ⟨(blk_cell BK141.out 0).trans rfl, (blk_cell BK141.out 1).trans rfl, (blk_cell BK141.out 2).trans rfl, (blk_cell BK141.out 3).trans rfl⟩ (fun hHeld => ?_); refine with_tabW spec_VerSemantic.tab23 spec_VerSemantic.bits23 (fun HT_ HW_ => ?_)
            generalize w108.drew = w109 at HO_4 HO_142000 BK134 BK141 HB hHeld ⊢
            refine pure_ (i := 1) (N := some 90) (v := ?_) (a' := ?_) #[false, true, false, false, false, false, false, false, false, false, false] rfl rfl (any_of HT_.out (by kernel_rfl)) (fun _ _ _ h => h) (Or.inl ⟨by rfl, ?_⟩) ?_ ?_
            rotate_left
            ·intro w'
             go_simp
             with_reducible rfl
            rotate_left
            ·simp only [Act.put, List.setIfInBounds_toArray, List.set_cons_zero, List.set_cons_succ, i64_w, i32_w]
             rfl
            refine take_ (i := 0) (N := some 89) (v := ?_) (a' := ?_) #[true, true, false, false, false, false, false, false, false, false, false] rfl rfl (take_ofW HT_.out HW_.out (by kernel_rfl)) (fun _ _ _ h => h) (Or.inl ⟨by rfl, ?_⟩) hHeld ?_ ?_
            rotate_left
            ·rintro w' ⟨s0, s1, s2, s3⟩
             go_simp
             with_reducible rfl
            rotate_left
            ·simp only [Act.put, List.setIfInBounds_toArray, List.set_cons_zero, List.set_cons_succ, i64_w, i32_w]
             rfl
            refine take_ (i := 2) (N := some 91) (v := ?_) (a' := ?_) #[true, true, true, false, false, false, false, false, false, false, false] rfl rfl (take_ofW HT_.out HW_.out (by kernel_rfl)) (fun _ _ _ h => h) (Or.inl ⟨by rfl, ?_⟩) hHeld ?_ ?_
            rotate_left
            ·rintro w' ⟨s0, s1, s2, s3⟩
             go_simp
             with_reducible rfl
            rotate_left
            ·simp only [Act.put, List.setIfInBounds_toArray, List.set_cons_zero, List.set_cons_succ, i64_w, i32_w]
             rfl
            refine pure_ (i := 3) (N := some 92) (v := ?_) (a' := ?_) #[true, true, true, true, false, false, false, false, false, false, false] rfl rfl (any_of HT_.out (by kernel_rfl)) (fun _ _ _ h => h) (Or.inl ⟨by rfl, ?_⟩) ?_ ?_
            rotate_left
            ·intro w'
             go_simp
             with_reducible rfl
            rotate_left
            ·simp only [Act.put, List.setIfInBounds_toArray, List.set_cons_zero, List.set_cons_succ, i64_w, i32_w]
             rfl
            refine pure_ (i := 4) (N := some 93) (v := ?_) (a' := ?_) #[true, true, true, true, true, false, false, false, false, false, false] rfl rfl (any_of HT_.out (by kernel_rfl)) (fun _ _ _ h => h) (Or.inl ⟨by rfl, ?_⟩) ?_ ?_
            rotate_left
            ·intro w'
             go_simp
             with_reducible rfl
            rotate_left
            ·simp only [Act.put, List.setIfInBounds_toArray, List.set_cons_zero, List.set_cons_succ, i64_w, i32_w]
             rfl
            refine pure_ (i := 5) (N := some 94) (v := undef) (a' := ?_) #[true, true, true, true, true, true, false, false, false, false, false] rfl rfl (any_of HT_.out (by kernel_rfl)) (fun _ _ _ h => h) (Or.inr ⟨by rfl, rfl⟩) ?_ ?_
            rotate_left
            ·simp only [Act.put, List.setIfInBounds_toArray, List.set_cons_zero, List.set_cons_succ, i64_w, i32_w]
             rfl
            refine pure_ (i := 6) (N := some 95) (v := undef) (a' := ?_) #[true, true, true, true, true, true, true, false, false, false, false] rfl rfl (any_of HT_.out (by kernel_rfl)) (fun _ _ _ h => h) (Or.inr ⟨by rfl, rfl⟩) ?_ ?_
            rotate_left
            ·simp only [Act.put, List.setIfInBounds_toArray, List.set_cons_zero, List.set_cons_succ, i64_w, i32_w]
             rfl
            refine pure_ (i := 7) (N := some 96) (v := undef) (a' := ?_) #[true, true, true, true, true, true, true, true, false, false, false] rfl rfl (any_of HT_.out (by kernel_rfl)) (fun _ _ _ h => h) (Or.inr ⟨by rfl, rfl⟩) ?_ ?_
            rotate_left
            ·simp only [Act.put, List.setIfInBounds_toArray, List.set_cons_zero, List.set_cons_succ, i64_w, i32_w]
             rfl
            refine pure_ (i := 8) (N := some 97) (v := ?_) (a' := ?_) #[true, true, true, true, true, true, true, true, true, false, false] rfl rfl (any_of HT_.out (by kernel_rfl)) (fun _ _ _ h => h) (Or.inl ⟨by rfl, ?_⟩) ?_ ?_
            rotate_left
            ·intro w'
             go_simp
             with_reducible rfl
            rotate_left
            ·simp only [Act.put, List.setIfInBounds_toArray, List.set_cons_zero, List.set_cons_succ, i64_w, i32_w]
             rfl
            refine one_ (i := 9) (N := none) #[true, true, true, true, true, true, true, true, true, true, false] rfl rfl (one_of HT_.out (by kernel_rfl)) (by decide) (fun K hK => ?_)
            have hs111 : w109.cell? ⟨gb134, 0, none⟩ = some (.slice none 0 0) := (blk_cell BK134.out 0).trans rfl
            have hfs111 := blk_frozen BK134.out 0
            have hns111_1 := NB141_134.out
            have hms111_1 := NB134_141.out
            have hs112 : w109.cell? ⟨gb134, 1, none⟩ = some (.bool x135001_2) := (blk_cell BK134.out 1).trans rfl
            have hfs112 := blk_frozen BK134.out 1
            have hns112_1 := NB141_134.out
            have hms112_1 := NB134_141.out
            have hs113 : w109.cell? ⟨gb134, 2, none⟩ = some (.string x135002_2) := (blk_cell BK134.out 2).trans rfl
            have hfs113 := blk_frozen BK134.out 2
            have hns113_1 := NB141_134.out
            have hms113_1 := NB134_141.out
            have hs114 : w109.cell? ⟨gb134, 3, none⟩ = some (.string x135003_2) := (blk_cell BK134.out 3).trans rfl
            have hfs114 := blk_frozen BK134.out 3
            have hns114_1 := NB141_134.out
            have hms114_1 := NB134_141.out
            refine skip_ (w1 := ?_) (by rfl) rfl ?_ ?_
            rotate_left
            ·go_simp
             rfl
            refine hK.out _ _ ⟨((cell_far (p := ⟨gb134, _, none⟩) NB141_134.out _).trans (((cell_far (p := ⟨gb134, _, none⟩) NB141_134.out _).trans (((cell_far (p := ⟨gb134, _, none⟩) NB141_134.out _).trans (((cell_far (p := ⟨gb134, _, none⟩) NB141_134.out _).trans (hHeld.1)))))))), ((cell_far (p := ⟨gb134, _, none⟩) NB141_134.out _).trans (((cell_far (p := ⟨gb134, _, none⟩) NB141_134.out _).trans (((cell_far (p := ⟨gb134, _, none⟩) NB141_134.out _).trans (((cell_far (p := ⟨gb134, _, none⟩) NB141_134.out _).trans (hHeld.2.1)))))))), ((cell_far (p := ⟨gb134, _, none⟩) NB141_134.out _).trans (((cell_far (p := ⟨gb134, _, none⟩) NB141_134.out _).trans (((cell_far (p := ⟨gb134, _, none⟩) NB141_134.out _).trans (((cell_far (p := ⟨gb134, _, none⟩) NB141_134.out _).trans (hHeld.2.2.1)))))))), ((cell_far (p := ⟨gb134, _, none⟩) NB141_134.out _).trans (((cell_far (p := ⟨gb134, _, none⟩) NB141_134.out _).trans (((cell_far (p := ⟨gb134, _, none⟩) NB141_134.out _).trans (((cell_far (p := ⟨gb134, _, none⟩) NB141_134.out _).trans (hHeld.2.2.2))))))))⟩ (fun hHeld => ?_)
            clear hK K
            refine pure_ (i := 10) (N := some 3) (v := ?_) (a' := ?_) #[true, true, true, true, true, true, true, true, true, true, true] rfl rfl (any_of HT_.out (by kernel_rfl)) (fun _ _ _ h => h) (Or.inl ⟨by rfl, ?_⟩) ?_ ?_
            rotate_left
            ·intro w'
             go_simp
             with_reducible rfl
            rotate_left
            ·simp only [Act.put, List.setIfInBounds_toArray, List.set_cons_zero, List.set_cons_succ, i64_w, i32_w]
             rfl
            refine done_ (done_of HT_.out (by kernel_rfl)) ?_
            try go_wp2
            refine bodyPost_ret (results_ct rfl _ _ gb134 25 #[.slice Ao110 x142000_2.length co110, .bool true, .string (x5_3.extract 1 x5_3.size), .string (⟨#[]⟩ : ByteArray)] (0, 0) _ rfl (by (with_reducible repeat (first | refine blk_drewN ?_ _ | refine blk_drew ?_ | refine blk_alloc ?_ _)); refine blk_put (cs := #[.slice Ao110 x142000_2.length co110, .bool true, .string (x5_3.extract 1 x5_3.size), .string x135003_2]) ?_ 3 _ rfl; (with_reducible repeat (first | refine blk_drewN ?_ _ | refine blk_drew ?_ | refine blk_alloc ?_ _)); refine blk_put (cs := #[.slice Ao110 x142000_2.length co110, .bool true, .string x135002_2, .string x135003_2]) ?_ 2 _ rfl; (with_reducible repeat (first | refine blk_drewN ?_ _ | refine blk_drew ?_ | refine blk_alloc ?_ _)); refine blk_put (cs := #[.slice Ao110 x142000_2.length co110, .bool x135001_2, .string x135002_2, .string x135003_2]) ?_ 1 _ rfl; (with_reducible repeat (first | refine blk_drewN ?_ _ | refine blk_drew ?_ | refine blk_alloc ?_ _)); refine blk_put (cs := #[.slice none 0 0, .bool x135001_2, .string x135002_2, .string x135003_2]) ?_ 0 _ rfl; (with_reducible repeat (first | refine blk_drewN ?_ _ | refine blk_drew ?_ | refine blk_alloc ?_ _)); exact BK134.out) Tryd.underlying25 rfl (by kernel_rfl)) rfl ?_
            exact ⟨_, by first | rfl | (simp [errW_none, errW_some] <;> rfl) | (simp [*, errW_none, errW_some] <;> rfl), by (with_reducible repeat (first | apply Kd.R_alloc | apply Kd.R_drewN | apply Kd.R_drew)); exact Kd.R_mono (Kd.R_far (p := ⟨gb134, 3, none⟩) (Kd.R_far (p := ⟨gb134, 2, none⟩) (Kd.R_far (p := ⟨gb134, 1, none⟩) (Kd.R_far (p := ⟨gb134, 0, none⟩) (Kd.R_types HO_142000.out BK134.out (by decide)) (fun _ hk => hk.2) (.slice Ao110 x142000_2.length co110)) (fun _ hk => hk.2) (.bool true)) (fun _ hk => hk.2) (.string (x5_3.extract 1 x5_3.size))) (fun _ hk => hk.2) (.string (⟨#[]⟩ : ByteArray))) (fun _ hk => trivial), by repeat (first | (with_reducible first | exact HB.out | apply below_alloc | apply pw_below_drewN | apply below_drew1 | refine below_set ?_ GE134.out | refine below_set ?_ GE141.out) | exact HB.out)⟩
          ·rw [if_neg c92] at H
           exact absurd H (by simp)
         ·rw [if_neg c91] at H
          exact absurd H (by simp)
   ·rw [if_neg c16] at H
    have c16b0 : ((t136.length : Int) == 3) = false := beq_eq_false_iff_ne.mpr c16
    have c16b1 : ((t136.length : Int) != 3) = true := bne_iff_ne.mpr c16
    simp only [Option.some.injEq, Prod.mk.injEq] at H
    obtain ⟨rfl, rfl, rfl, rfl, rfl⟩ := H
    obtain ⟨Ao115, co115, eo115⟩ := Kd.R_slice HO_4.out
    subst eo115
    have hcz116_0 : wc.cell? ⟨gb134, 0, none⟩ = some (.slice none 0 0) := (blk_cell BK134.out 0).trans rfl
    have hcz116_1 : wc.cell? ⟨gb134, 1, none⟩ = some (.bool false) := (blk_cell BK134.out 1).trans rfl
    have hcz116_2 : wc.cell? ⟨gb134, 2, none⟩ = some (.string (⟨#[]⟩ : ByteArray)) := (blk_cell BK134.out 2).trans rfl
    have hcz116_3 : wc.cell? ⟨gb134, 3, none⟩ = some (.string (⟨#[]⟩ : ByteArray)) := (blk_cell BK134.out 3).trans rfl
    have hfz116_0 := blk_frozen BK134.out 0
    have hfz116_1 := blk_frozen BK134.out 1
    have hfz116_2 := blk_frozen BK134.out 2
    have hfz116_3 := blk_frozen BK134.out 3
    go_wp2
    refine bodyPost_ret (results_ct rfl _ _ gb134 25 #[.slice none 0 0, .bool false, .string (⟨#[]⟩ : ByteArray), .string (⟨#[]⟩ : ByteArray)] (0, 0) _ rfl (by (with_reducible repeat (first | refine blk_drewN ?_ _ | refine blk_drew ?_ | refine blk_alloc ?_ _)); refine blk_put (cs := #[.slice none 0 0, .bool false, .string (⟨#[]⟩ : ByteArray), .string (⟨#[]⟩ : ByteArray)]) ?_ 3 _ rfl; (with_reducible repeat (first | refine blk_drewN ?_ _ | refine blk_drew ?_ | refine blk_alloc ?_ _)); refine blk_put (cs := #[.slice none 0 0, .bool false, .string (⟨#[]⟩ : ByteArray), .string (⟨#[]⟩ : ByteArray)]) ?_ 2 _ rfl; (with_reducible repeat (first | refine blk_drewN ?_ _ | refine blk_drew ?_ | refine blk_alloc ?_ _)); refine blk_put (cs := #[.slice none 0 0, .bool false, .string (⟨#[]⟩ : ByteArray), .string (⟨#[]⟩ : ByteArray)]) ?_ 1 _ rfl; (with_reducible repeat (first | refine blk_drewN ?_ _ | refine blk_drew ?_ | refine blk_alloc ?_ _)); refine blk_put (cs := #[.slice none 0 0, .bool false, .string (⟨#[]⟩ : ByteArray), .string (⟨#[]⟩ : ByteArray)]) ?_ 0 _ rfl; (with_reducible repeat (first | refine blk_drewN ?_ _ | refine blk_drew ?_ | refine blk_alloc ?_ _)); exact BK134.out) Tryd.underlying25 rfl (by kernel_rfl)) rfl ?_
    exact ⟨_, by first | rfl | (simp [errW_none, errW_some] <;> rfl) | (simp [*, errW_none, errW_some] <;> rfl), by first | exact Kd.R_nil _ _ _ _ _ | exact Kd.N_nil _ _ _ _ _ | exact Kd.V_nil _ _ _ _ _ | exact Kd.Q_nil _ _ _ _ _ | exact Kd.S_nil _ _ _ _ _, by repeat (first | (with_reducible first | exact HB.out | apply below_alloc | apply pw_below_drewN | apply below_drew1 | refine below_set ?_ GE134.out) | exact HB.out)⟩
end Go.Proofs.YtmfgkidppchobaaDoor.XFnVersionCompare

