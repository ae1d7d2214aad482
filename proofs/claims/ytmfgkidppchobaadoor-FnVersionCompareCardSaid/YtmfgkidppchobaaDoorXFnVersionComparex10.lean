/- A text of this session: the functions of the law FnVersionCompare, by a program that calls the kit's print and lays this session's own contracts of single functions beside. -/
import Derived.Test.YtmfgkidppchobaaDoorVerH
import Derived.Test.YtmfgkidppchobaaDoorXFnVersionComparex0
import Derived.Test.YtmfgkidppchobaaDoorXFnVersionComparex1
import Derived.Test.YtmfgkidppchobaaDoorXFnVersionComparex6
import Derived.Test.YtmfgkidppchobaaDoorXFnVersionComparex7
import Derived.Test.YtmfgkidppchobaaDoorXFnVersionComparex9
namespace Go.Proofs.YtmfgkidppchobaaDoor.XFnVersionCompare
open Go.Proofs.YtmfgkidppchobaaDoor.Ver5 Go.RowKit Go.Proofs.YtmfgkidppchobaaDoorW.PrintWords Go.Proofs.YtmfgkidppchobaaDoorW.PrintLast Go.Proofs.YtmfgkidppchobaaDoorW.PrintMore
attribute [local go_sem] max2_int min2_int max_two min_two max_three min_three max_four min_four
set_option linter.unusedVariables false
set_option linter.unusedSimpArgs false
mutual
def laws_FnVersionCompare.j0 : Nat → Int → ByteArray → ByteArray → Bool → Option (Bool)
 | 0, _, _, _, _ => none
 | k + 1, x0, x1, x2, x23 => if x23 = true then (some true) else ((laws_verKind.f x0).bind fun t244 => ((spec_VerParsed.f k t244 x1).bind fun bt245 => (if bt245.2.2.2.2.2 = true then (if bt245.2.1 = true then (laws_FnVersionCompare.j1 k t244 x1 x2 bt245.2.2.2.2.1 2 bt245.1 bt245.2.1 bt245.2.2.1 bt245.2.2.2.1) else (laws_FnVersionCompare.j1 k t244 x1 x2 bt245.2.2.2.2.1 1 bt245.1 bt245.2.1 bt245.2.2.1 bt245.2.2.2.1)) else (some true))))
def laws_FnVersionCompare.j1 : Nat → Int → ByteArray → ByteArray → Bool → Int → List Int → Bool → ByteArray → ByteArray → Option (Bool)
 | 0, _, _, _, _, _, _, _, _, _ => none
 | k + 1, x0, x1, x2, x8, x10, x254000, x254001, x254002, x254003 => (spec_VerParsed.f k x10 x2).bind fun bt254 => (if bt254.2.2.2.2.2 = true then ((impl_VersionCompare.f k x0 x1 x2).bind fun bt263 => (if x8 = true then (laws_FnVersionCompare.j2 k bt263.1 bt263.2 (!bt254.2.2.2.2.1) x254000 x254001 x254002 x254003 bt254.1 bt254.2.1 bt254.2.2.1 bt254.2.2.2.1) else (laws_FnVersionCompare.j2 k bt263.1 bt263.2 true x254000 x254001 x254002 x254003 bt254.1 bt254.2.1 bt254.2.2.1 bt254.2.2.2.1))) else (some true))
def laws_FnVersionCompare.j2 : Nat → Int → Bool → Bool → List Int → Bool → ByteArray → ByteArray → List Int → Bool → ByteArray → ByteArray → Option (Bool)
 | 0, _, _, _, _, _, _, _, _, _, _, _ => none
 | k + 1, x14, x15, x58, x254000, x254001, x254002, x254003, x263000, x263001, x263002, x263003 => if x58 = true then (some (!x15)) else ((spec_VerAsked.f k x254000 x254001 x254002 x254003 x263000 x263001 x263002 x263003).bind fun t265 => (if t265 = true then (if x15 = true then ((spec_Versions.f k x254000 x254001 x254002 x254003 x263000 x263001 x263002 x263003).bind fun t266 => (some (x14 == t266))) else (some false)) else (some true)))
end
def laws_FnVersionCompare.f (k : Nat) (a0 : Int) (a1 : ByteArray) (a2 : ByteArray) : Option (Bool) := if (a1.size : Int) > 2147483647 then (laws_FnVersionCompare.j0 k a0 a1 a2 true) else (laws_FnVersionCompare.j0 k a0 a1 a2 (decide ((a2.size : Int) > 2147483647)))
set_option maxHeartbeats 8000000 in
set_option maxRecDepth 100000 in
theorem laws_FnVersionCompare.calls (k : Nat) (a0 : Int) (a1 : ByteArray) (a2 : ByteArray) (r : Bool) (w : World) (h : laws_FnVersionCompare.f k a0 a1 a2 = some r) (hV : VT.V w := by first | assumption | exact VT.V.below hV (by repeat (first | exact HB.out | exact HB | exact Below.refl _ _ | apply below_alloc | apply pw_below_drewN | apply below_drew1))) :
  Calls Tryd.prog 3 #[.int .i64 a0, .string a1, .string a2] w fun e w' => e = .returned (.bool r) ∧ Below w.heap.size w w' := by
 have hu25 := Tryd.underlying25
 have HB := Aside0.mk (Below.refl w.heap.size w)
 have H : (if (a1.size : Int) > 2147483647 then (laws_FnVersionCompare.j0 k a0 a1 a2 true) else (laws_FnVersionCompare.j0 k a0 a1 a2 (decide ((a2.size : Int) > 2147483647)))) = some r := h
 clear h
 have HC4 := Aside0.mk H
 clear H
 go_enter Tryd.func3, Tryd.ntmps3
 go_upto_region 1 with (fail)
 go_cut [23] (fun v23 wc => ∃ (kq : Nat) (x23_3 : Bool), v23 = .bool x23_3 ∧ Aside0 (laws_FnVersionCompare.j0 kq a0 a1 a2 x23_3 = some r) ∧ Aside0 (kq ≤ k) ∧ Aside0 (Below w.heap.size w wc))
 case first =>
  have H := HC4.out
  clear HC4
  by_cases c5 : (a1.size : Int) > 2147483647
  ·rw [if_pos c5] at H
   have c5b0 : decide (2147483647 < (a1.size : Int)) = true := decide_eq_true c5
   have c5b1 : decide (2147483647 < a1.size) = true := decide_eq_true (by omega)
   clear c5
   (first | rw [c5b0] | (simp only [i64_w, i32_w]; rw [c5b0]) | skip)
   have H' := Aside0.mk H
   clear H
   go_wp2
   go_meet
   case rel => exact ⟨_, (true), (by first | rfl | (simp; done) | (simp [*]; done)), H', ⟨by first | omega | exact Nat.le_refl _⟩, ⟨by repeat (first | (with_reducible first | exact HB.out | apply below_alloc | apply pw_below_drewN | apply below_drew1) | exact HB.out)⟩⟩
  ·rw [if_neg c5] at H
   have c5b0 : decide (2147483647 < (a1.size : Int)) = false := decide_eq_false c5
   have c5b1 : decide (2147483647 < a1.size) = false := decide_eq_false (by omega)
   clear c5
   (first | rw [c5b0] | (simp only [i64_w, i32_w]; rw [c5b0]) | skip)
   have H' := Aside0.mk H
   clear H
   go_wp2
   go_meet
   case rel => exact ⟨_, (decide ((a2.size : Int) > 2147483647)), (by first | rfl | (simp; done) | (simp [*]; done)), H', ⟨by first | omega | exact Nat.le_refl _⟩, ⟨by repeat (first | (with_reducible first | exact HB.out | apply below_alloc | apply pw_below_drewN | apply below_drew1) | exact HB.out)⟩⟩
 case rest =>
  clear HC4
  try clear p2
  try clear c3
  try clear c5
  try clear c5b0
  try clear c5b1
  obtain ⟨kq, x23_3, rfl, HA, HJ3, HB⟩ := hcut
  cases kq with
  | zero => exact absurd HA.out (by simp [laws_FnVersionCompare.j0])
  | succ kj3 =>
   have H := HA.out
   clear HA
   simp only [laws_FnVersionCompare.j0] at H
   by_cases c6 : x23_3 = true
   ·subst c6
    have H1 : (some true) = some r := by rw [if_pos rfl] at H; exact H
    clear H
    have H := H1
    clear H1
    obtain rfl := Option.some.inj H
    go_wp2
    go_ret
    exact ⟨by first | rfl | (simp [errW_none, errW_some] <;> rfl) | (simp [*, errW_none, errW_some] <;> rfl), by repeat (first | (with_reducible first | exact HB.out | apply below_alloc | apply pw_below_drewN | apply below_drew1) | exact HB.out)⟩
   ·replace c6 := Bool.eq_false_iff.mpr c6
    subst c6
    have H1 : ((laws_verKind.f a0).bind fun t244 => ((spec_VerParsed.f kj3 t244 a1).bind fun bt245 => (if bt245.2.2.2.2.2 = true then (if bt245.2.1 = true then (laws_FnVersionCompare.j1 kj3 t244 a1 a2 bt245.2.2.2.2.1 2 bt245.1 bt245.2.1 bt245.2.2.1 bt245.2.2.2.1) else (laws_FnVersionCompare.j1 kj3 t244 a1 a2 bt245.2.2.2.2.1 1 bt245.1 bt245.2.1 bt245.2.2.1 bt245.2.2.2.1)) else (some true)))) = some r := by rw [if_neg (show ¬ (false = true) by decide)] at H; exact H
    clear H
    have H := H1
    clear H1
    replace H := Option.bind_eq_some_iff.mp H
    obtain ⟨t244, A70, H⟩ := H
    replace H : ((spec_VerParsed.f kj3 t244 a1).bind fun bt245 => (if bt245.2.2.2.2.2 = true then (if bt245.2.1 = true then (laws_FnVersionCompare.j1 kj3 t244 a1 a2 bt245.2.2.2.2.1 2 bt245.1 bt245.2.1 bt245.2.2.1 bt245.2.2.2.1) else (laws_FnVersionCompare.j1 kj3 t244 a1 a2 bt245.2.2.2.2.1 1 bt245.1 bt245.2.1 bt245.2.2.1 bt245.2.2.2.1)) else (some true))) = some r := H
    have A7 := Aside0.mk A70
    clear A70
    replace H := Option.bind_eq_some_iff.mp H
    obtain ⟨⟨t245, t248, t249, t250, t251, t252⟩, A80, H⟩ := H
    replace H : (if t252 = true then (if t248 = true then (laws_FnVersionCompare.j1 kj3 t244 a1 a2 t251 2 t245 t248 t249 t250) else (laws_FnVersionCompare.j1 kj3 t244 a1 a2 t251 1 t245 t248 t249 t250)) else (some true)) = some r := H
    have A8 := Aside0.mk A80
    clear A80
    by_cases c9 : t252 = true
    ·subst c9
     have H1 : (if t248 = true then (laws_FnVersionCompare.j1 kj3 t244 a1 a2 t251 2 t245 t248 t249 t250) else (laws_FnVersionCompare.j1 kj3 t244 a1 a2 t251 1 t245 t248 t249 t250)) = some r := by rw [if_pos rfl] at H; exact H
     clear H
     have H := H1
     clear H1
     have HC10 := Aside0.mk H
     clear H
     go_upto_if 36 with (first | ((with_reducible refine gate_callee (f := 8) rfl ?_); refine goesL_ (some 25) rfl rfl Tryd.func8 (by kernel_rfl) rfl #[.int .i64 a0] rfl (by (try simp only [List.map_toArray, List.map_cons, List.map_nil]); first | done | rfl | (simp only [List.length_drop, List.length_take]; rfl)) ?_; (with_reducible refine (laws_verKind.calls a0 t244 _ A7.out).mono ?_); rintro e w' ⟨rfl, ⟨nd, rfl⟩⟩; refine ⟨_, rfl, ?_⟩; (try (rw [drewN_self wc]; generalize hq_ : World.drewN wc _ = wc; have n0_ : Aside0 (Below w.heap.size w wc) := ⟨by rw [← hq_]; exact (by repeat (first | (with_reducible first | exact HB.out | apply below_alloc | apply pw_below_drewN | apply below_drew1) | exact HB.out))⟩; clear HB hq_; have HB := n0_; clear n0_))) | ((with_reducible refine gate_callee (f := 9) rfl ?_); refine goesL_ (some 29) rfl rfl Tryd.func9 (by kernel_rfl) rfl #[.int .i64 t244, .string a1] rfl (by (try simp only [List.map_toArray, List.map_cons, List.map_nil]); first | done | rfl | (simp only [List.length_drop, List.length_take]; rfl)) ?_; (with_reducible refine (spec_VerParsed.calls kj3 t244 a1 t245 t248 t249 t250 t251 true _ A8.out).mono ?_); rintro e w11 ⟨v246, rfl, ho0, hb⟩; refine ⟨_, rfl, ?_⟩; have n0_ := Aside0.mk (Kd.R_lower ho0 (below_size (by repeat (first | (with_reducible first | exact HB.out | apply below_alloc | apply pw_below_drewN | apply below_drew1) | exact HB.out)))); have n1_ := Aside0.mk (below_step (by repeat (first | (with_reducible first | exact HB.out | apply below_alloc | apply pw_below_drewN | apply below_drew1) | exact HB.out)) hb); clear HB; have HO247 := n0_; have HB := n1_; clear n0_ n1_; (try clear hb); (try clear hb2); (try clear hk); (try clear hi); (try clear ho0)) | ((with_reducible refine gate_dst (N := 7) rfl ?_); (try (refine gate_guard (by rfl) ?_; dsimp only)); refine box_event ?hg (N := 7) ?hd (cs := #[.slice none 0 0, .bool false, .string (⟨#[]⟩ : ByteArray), .string (⟨#[]⟩ : ByteArray)]) (t := 25) ?hr ?_; (case hd => rfl); (case hg => rfl); (case hr => first | (go_simp; done) | (go_simp; rfl)); intro gb253 hg w12 hbox hb; have n0_ := Aside0.mk (Kd.R_below (by (with_reducible repeat (first | apply Kd.R_alloc | apply Kd.R_drewN | apply Kd.R_drew)); exact HO247.out) hb); have n1_ := Aside0.mk (below_step (by repeat (first | (with_reducible first | exact HB.out | apply below_alloc | apply pw_below_drewN | apply below_drew1) | exact HB.out)) hb); have n2_ := Aside0.mk (hbox); have n3_ := Aside0.mk ((by rw [hg]; exact (below_size (by repeat (first | (with_reducible first | exact HB.out | apply below_alloc | apply pw_below_drewN | apply below_drew1) | exact HB.out))) : w.heap.size ≤ gb253)); have n4_ := Aside0.mk ((by rw [hg]; exact (below_size (by repeat (first | (with_reducible first | exact HB.out | apply below_alloc | apply pw_below_drewN | apply below_drew1) | exact HB.out))) : w.heap.size ≤ gb253)); clear HO247; clear HB; have HO247 := n0_; have HB := n1_; have BK253 := n2_; have GW253 := n3_; have GE253 := n4_; clear n0_ n1_ n2_ n3_ n4_; clear hb hbox hg; obtain ⟨Ao13, co13, eo13⟩ := Kd.R_slice HO247.out; subst eo13; have hcz14_0 : w12.cell? ⟨gb253, 0, none⟩ = some (.slice none 0 0) := (blk_cell BK253.out 0).trans rfl; have hcz14_1 : w12.cell? ⟨gb253, 1, none⟩ = some (.bool false) := (blk_cell BK253.out 1).trans rfl; have hcz14_2 : w12.cell? ⟨gb253, 2, none⟩ = some (.string (⟨#[]⟩ : ByteArray)) := (blk_cell BK253.out 2).trans rfl; have hcz14_3 : w12.cell? ⟨gb253, 3, none⟩ = some (.string (⟨#[]⟩ : ByteArray)) := (blk_cell BK253.out 3).trans rfl; have hfz14_0 := blk_frozen BK253.out 0; have hfz14_1 := blk_frozen BK253.out 1; have hfz14_2 := blk_frozen BK253.out 2; have hfz14_3 := blk_frozen BK253.out 3))
     (try simp only [Act.put, List.setIfInBounds_toArray, List.set_cons_zero, List.set_cons_succ])
     go_cut [10] (fun v10 wc => ∃ (kq : Nat) (x10_9 : Int), v10 = .int .i64 x10_9 ∧ Aside0 (laws_FnVersionCompare.j1 kq t244 a1 a2 t251 x10_9 t245 t248 t249 t250 = some r) ∧ Aside0 (kq ≤ kj3) ∧ Aside0 (Kd.R (Kd.int .u64) 36 wc w.heap.size (fun _ => True) (.slice Ao13 t245.length co13) t245) ∧ Aside0 (wc.heap[gb253]? = some (.cells #[(.slice Ao13 t245.length co13), .bool t248, .string t249, .string t250] 25 (0, 0))) ∧ Aside0 (Below w.heap.size w wc))
     case first =>
      have H := HC10.out
      clear HC10
      by_cases c15 : t248 = true
      ·subst c15
       have H1 : (laws_FnVersionCompare.j1 kj3 t244 a1 a2 t251 2 t245 true t249 t250) = some r := by rw [if_pos rfl] at H; exact H
       clear H
       have H := H1
       clear H1
       have H' := Aside0.mk H
       clear H
       go_wp2
       go_meet
       case rel => exact ⟨_, (2), (by first | rfl | (simp; done) | (simp [*]; done)), H', ⟨by have := HJ3.out; first | omega | exact Nat.le_refl _⟩, ⟨by (with_reducible repeat (first | apply Kd.R_alloc | apply Kd.R_drewN | apply Kd.R_drew)); exact Kd.R_mono (Kd.R_far (p := ⟨gb253, 3, none⟩) (Kd.R_far (p := ⟨gb253, 2, none⟩) (Kd.R_far (p := ⟨gb253, 1, none⟩) (Kd.R_far (p := ⟨gb253, 0, none⟩) (Kd.R_types HO247.out BK253.out (by decide)) (fun _ hk => hk.2) (.slice Ao13 t245.length co13)) (fun _ hk => hk.2) (.bool true)) (fun _ hk => hk.2) (.string t249)) (fun _ hk => hk.2) (.string t250)) (fun _ hk => trivial)⟩, ⟨by (with_reducible repeat (first | refine blk_drewN ?_ _ | refine blk_drew ?_ | refine blk_alloc ?_ _)); refine blk_put (cs := #[.slice Ao13 t245.length co13, .bool true, .string t249, .string (⟨#[]⟩ : ByteArray)]) ?_ 3 _ rfl; (with_reducible repeat (first | refine blk_drewN ?_ _ | refine blk_drew ?_ | refine blk_alloc ?_ _)); refine blk_put (cs := #[.slice Ao13 t245.length co13, .bool true, .string (⟨#[]⟩ : ByteArray), .string (⟨#[]⟩ : ByteArray)]) ?_ 2 _ rfl; (with_reducible repeat (first | refine blk_drewN ?_ _ | refine blk_drew ?_ | refine blk_alloc ?_ _)); refine blk_put (cs := #[.slice Ao13 t245.length co13, .bool false, .string (⟨#[]⟩ : ByteArray), .string (⟨#[]⟩ : ByteArray)]) ?_ 1 _ rfl; (with_reducible repeat (first | refine blk_drewN ?_ _ | refine blk_drew ?_ | refine blk_alloc ?_ _)); refine blk_put (cs := #[.slice none 0 0, .bool false, .string (⟨#[]⟩ : ByteArray), .string (⟨#[]⟩ : ByteArray)]) ?_ 0 _ rfl; (with_reducible repeat (first | refine blk_drewN ?_ _ | refine blk_drew ?_ | refine blk_alloc ?_ _)); exact BK253.out⟩, ⟨by repeat (first | (with_reducible first | exact HB.out | apply below_alloc | apply pw_below_drewN | apply below_drew1 | refine below_set ?_ GE253.out) | exact HB.out)⟩⟩
      ·replace c15 := Bool.eq_false_iff.mpr c15
       subst c15
       have H1 : (laws_FnVersionCompare.j1 kj3 t244 a1 a2 t251 1 t245 false t249 t250) = some r := by rw [if_neg (show ¬ (false = true) by decide)] at H; exact H
       clear H
       have H := H1
       clear H1
       have H' := Aside0.mk H
       clear H
       go_wp2
       go_meet
       case rel => exact ⟨_, (1), (by first | rfl | (simp; done) | (simp [*]; done)), H', ⟨by have := HJ3.out; first | omega | exact Nat.le_refl _⟩, ⟨by (with_reducible repeat (first | apply Kd.R_alloc | apply Kd.R_drewN | apply Kd.R_drew)); exact Kd.R_mono (Kd.R_far (p := ⟨gb253, 3, none⟩) (Kd.R_far (p := ⟨gb253, 2, none⟩) (Kd.R_far (p := ⟨gb253, 1, none⟩) (Kd.R_far (p := ⟨gb253, 0, none⟩) (Kd.R_types HO247.out BK253.out (by decide)) (fun _ hk => hk.2) (.slice Ao13 t245.length co13)) (fun _ hk => hk.2) (.bool false)) (fun _ hk => hk.2) (.string t249)) (fun _ hk => hk.2) (.string t250)) (fun _ hk => trivial)⟩, ⟨by (with_reducible repeat (first | refine blk_drewN ?_ _ | refine blk_drew ?_ | refine blk_alloc ?_ _)); refine blk_put (cs := #[.slice Ao13 t245.length co13, .bool false, .string t249, .string (⟨#[]⟩ : ByteArray)]) ?_ 3 _ rfl; (with_reducible repeat (first | refine blk_drewN ?_ _ | refine blk_drew ?_ | refine blk_alloc ?_ _)); refine blk_put (cs := #[.slice Ao13 t245.length co13, .bool false, .string (⟨#[]⟩ : ByteArray), .string (⟨#[]⟩ : ByteArray)]) ?_ 2 _ rfl; (with_reducible repeat (first | refine blk_drewN ?_ _ | refine blk_drew ?_ | refine blk_alloc ?_ _)); refine blk_put (cs := #[.slice Ao13 t245.length co13, .bool false, .string (⟨#[]⟩ : ByteArray), .string (⟨#[]⟩ : ByteArray)]) ?_ 1 _ rfl; (with_reducible repeat (first | refine blk_drewN ?_ _ | refine blk_drew ?_ | refine blk_alloc ?_ _)); refine blk_put (cs := #[.slice none 0 0, .bool false, .string (⟨#[]⟩ : ByteArray), .string (⟨#[]⟩ : ByteArray)]) ?_ 0 _ rfl; (with_reducible repeat (first | refine blk_drewN ?_ _ | refine blk_drew ?_ | refine blk_alloc ?_ _)); exact BK253.out⟩, ⟨by repeat (first | (with_reducible first | exact HB.out | apply below_alloc | apply pw_below_drewN | apply below_drew1 | refine below_set ?_ GE253.out) | exact HB.out)⟩⟩
     case rest =>
      clear HC10
      try clear c1
      try clear p2
      try clear c3
      try clear c5
      try clear c5b0
      try clear c5b1
      try clear c6
      try clear c8
      try clear c9
      try clear c15
      try clear hcz14_0
      try clear hcz14_1
      try clear hcz14_2
      try clear hcz14_3
      try clear hfz14_0
      try clear hfz14_1
      try clear hfz14_2
      try clear hfz14_3
      try clear p2
      obtain ⟨kq, x10_9, rfl, HA, HJ9, HO_254000, BK253, HB⟩ := hcut
      cases kq with
      | zero => exact absurd HA.out (by simp [laws_FnVersionCompare.j1])
      | succ kj9 =>
       have H := HA.out
       clear HA
       simp only [laws_FnVersionCompare.j1] at H
       replace H := Option.bind_eq_some_iff.mp H
       obtain ⟨⟨t254, t257, t258, t259, t260, t261⟩, A160, H⟩ := H
       replace H : (if t261 = true then ((impl_VersionCompare.f kj9 t244 a1 a2).bind fun bt263 => (if t251 = true then (laws_FnVersionCompare.j2 kj9 bt263.1 bt263.2 (!t260) t245 t248 t249 t250 t254 t257 t258 t259) else (laws_FnVersionCompare.j2 kj9 bt263.1 bt263.2 true t245 t248 t249 t250 t254 t257 t258 t259))) else (some true)) = some r := H
       have A16 := Aside0.mk A160
       clear A160
       by_cases c17 : t261 = true
       ·subst c17
        have H1 : ((impl_VersionCompare.f kj9 t244 a1 a2).bind fun bt263 => (if t251 = true then (laws_FnVersionCompare.j2 kj9 bt263.1 bt263.2 (!t260) t245 t248 t249 t250 t254 t257 t258 t259) else (laws_FnVersionCompare.j2 kj9 bt263.1 bt263.2 true t245 t248 t249 t250 t254 t257 t258 t259))) = some r := by rw [if_pos rfl] at H; exact H
        clear H
        have H := H1
        clear H1
        replace H := Option.bind_eq_some_iff.mp H
        obtain ⟨⟨t263, t264⟩, A180, H⟩ := H
        replace H : (if t251 = true then (laws_FnVersionCompare.j2 kj9 t263 t264 (!t260) t245 t248 t249 t250 t254 t257 t258 t259) else (laws_FnVersionCompare.j2 kj9 t263 t264 true t245 t248 t249 t250 t254 t257 t258 t259)) = some r := H
        have A18 := Aside0.mk A180
        clear A180
        have HC19 := Aside0.mk H
        clear H
        go_upto_region 14 with (first | ((with_reducible refine gate_callee (f := 9) rfl ?_); refine goesL_ (some 40) rfl rfl Tryd.func9 (by kernel_rfl) rfl #[.int .i64 x10_9, .string a2] rfl (by (try simp only [List.map_toArray, List.map_cons, List.map_nil]); first | done | rfl | (simp only [List.length_drop, List.length_take]; rfl)) ?_; (with_reducible refine (spec_VerParsed.calls kj9 x10_9 a2 t254 t257 t258 t259 t260 true _ A16.out).mono ?_); rintro e w20 ⟨v255, rfl, ho0, hb⟩; refine ⟨_, rfl, ?_⟩; have n0_ := Aside0.mk (Kd.R_elder' (by (with_reducible repeat (first | apply Kd.R_alloc | apply Kd.R_drewN | apply Kd.R_drew)); exact HO_254000.out) (Kd.R_base ho0) hb); have n1_ := Aside0.mk (Kd.R_lower (Kd.R_new' ho0 (Kd.R_lt (by (with_reducible repeat (first | apply Kd.R_alloc | apply Kd.R_drewN | apply Kd.R_drew)); exact HO_254000.out))) (below_size (by repeat (first | (with_reducible first | exact HB.out | apply below_alloc | apply pw_below_drewN | apply below_drew1 | refine below_set ?_ GE253.out) | exact HB.out)))); have n2_ := Aside0.mk (blk_below (g := gb253) (o := .cells #[.slice Ao13 t245.length co13, .bool t248, .string t249, .string t250] 25 (0, 0)) (by (with_reducible repeat (first | refine blk_drewN ?_ _ | refine blk_drew ?_ | refine blk_alloc ?_ _)); exact BK253.out) hb); have n3_ := Aside0.mk (below_step (by repeat (first | (with_reducible first | exact HB.out | apply below_alloc | apply pw_below_drewN | apply below_drew1 | refine below_set ?_ GE253.out) | exact HB.out)) hb); clear HO_254000; clear BK253; clear HB; have HO_254000 := n0_; have HO256 := n1_; have BK253 := n2_; have HB := n3_; clear n0_ n1_ n2_ n3_; (try clear hb); (try clear hb2); (try clear hk); (try clear hi); (try clear ho0)) | ((with_reducible refine gate_dst (N := 11) rfl ?_); (try (refine gate_guard (by rfl) ?_; dsimp only)); refine box_event ?hg (N := 11) ?hd (cs := #[.slice none 0 0, .bool false, .string (⟨#[]⟩ : ByteArray), .string (⟨#[]⟩ : ByteArray)]) (t := 25) ?hr ?_; (case hd => rfl); (case hg => rfl); (case hr => first | (go_simp; done) | (go_simp; rfl)); intro gb262 hg w21 hbox hb; have n0_ := Aside0.mk (Kd.R_below (by (with_reducible repeat (first | apply Kd.R_alloc | apply Kd.R_drewN | apply Kd.R_drew)); exact HO_254000.out) hb); have n1_ := Aside0.mk (Kd.R_below (by (with_reducible repeat (first | apply Kd.R_alloc | apply Kd.R_drewN | apply Kd.R_drew)); exact HO256.out) hb); have n2_ := Aside0.mk (blk_below (g := gb253) (o := .cells #[.slice Ao13 t245.length co13, .bool t248, .string t249, .string t250] 25 (0, 0)) (by (with_reducible repeat (first | refine blk_drewN ?_ _ | refine blk_drew ?_ | refine blk_alloc ?_ _)); exact BK253.out) hb); have n3_ := Aside0.mk (below_step (by repeat (first | (with_reducible first | exact HB.out | apply below_alloc | apply pw_below_drewN | apply below_drew1 | refine below_set ?_ GE253.out) | exact HB.out)) hb); have n4_ := Aside0.mk (hbox); have n5_ := Aside0.mk ((by rw [hg]; exact (below_size (by repeat (first | (with_reducible first | exact HB.out | apply below_alloc | apply pw_below_drewN | apply below_drew1 | refine below_set ?_ GE253.out) | exact HB.out))) : w.heap.size ≤ gb262)); have n6_ := Aside0.mk ((by rw [hg]; exact (below_size (by repeat (first | (with_reducible first | exact HB.out | apply below_alloc | apply pw_below_drewN | apply below_drew1 | refine below_set ?_ GE253.out) | exact HB.out))) : w.heap.size ≤ gb262)); have n7_ := Aside0.mk ((by rw [hg]; exact Nat.ne_of_lt (blk_lt (g := gb253) (o := .cells #[.slice Ao13 t245.length co13, .bool t248, .string t249, .string t250] 25 (0, 0)) (by (with_reducible repeat (first | refine blk_drewN ?_ _ | refine blk_drew ?_ | refine blk_alloc ?_ _)); exact BK253.out)) : gb253 ≠ gb262)); have n8_ := Aside0.mk ((by rw [hg]; exact Nat.ne_of_gt (blk_lt (g := gb253) (o := .cells #[.slice Ao13 t245.length co13, .bool t248, .string t249, .string t250] 25 (0, 0)) (by (with_reducible repeat (first | refine blk_drewN ?_ _ | refine blk_drew ?_ | refine blk_alloc ?_ _)); exact BK253.out)) : gb262 ≠ gb253)); clear HO_254000; clear HO256; clear BK253; clear HB; have HO_254000 := n0_; have HO256 := n1_; have BK253 := n2_; have HB := n3_; have BK262 := n4_; have GW262 := n5_; have GE262 := n6_; have NB253_262 := n7_; have NB262_253 := n8_; clear n0_ n1_ n2_ n3_ n4_ n5_ n6_ n7_ n8_; clear hb hbox hg; obtain ⟨Ao22, co22, eo22⟩ := Kd.R_slice HO256.out; subst eo22; have hnb23 := NB262_253.out; have hnc23 := NB253_262.out; have hcz24_0 : w21.cell? ⟨gb262, 0, none⟩ = some (.slice none 0 0) := (blk_cell BK262.out 0).trans rfl; have hcz24_1 : w21.cell? ⟨gb262, 1, none⟩ = some (.bool false) := (blk_cell BK262.out 1).trans rfl; have hcz24_2 : w21.cell? ⟨gb262, 2, none⟩ = some (.string (⟨#[]⟩ : ByteArray)) := (blk_cell BK262.out 2).trans rfl; have hcz24_3 : w21.cell? ⟨gb262, 3, none⟩ = some (.string (⟨#[]⟩ : ByteArray)) := (blk_cell BK262.out 3).trans rfl; have hfz24_0 := blk_frozen BK262.out 0; have hfz24_1 := blk_frozen BK262.out 1; have hfz24_2 := blk_frozen BK262.out 2; have hfz24_3 := blk_frozen BK262.out 3) | ((with_reducible refine gate_callee (f := 10) rfl ?_); refine goesL_ (some 50) rfl rfl Tryd.func10 (by kernel_rfl) rfl #[.int .i64 t244, .string a1, .string a2] rfl (by (try simp only [List.map_toArray, List.map_cons, List.map_nil]); first | done | rfl | (simp only [List.length_drop, List.length_take]; rfl)) ?_; (with_reducible refine (impl_VersionCompare.calls kj9 t244 a1 a2 t263 t264 _ A18.out (by first | exact VT.V.below hV HB.out | exact VT.V.below hV ((((HB.out.setCell GE262.out _).setCell GE262.out _).setCell GE262.out _).setCell GE262.out _))).mono ?_); rintro e w25 ⟨rfl, hb⟩; refine ⟨_, rfl, ?_⟩; have n0_ := Aside0.mk (Kd.R_below (by (with_reducible repeat (first | apply Kd.R_alloc | apply Kd.R_drewN | apply Kd.R_drew)); exact (Kd.R_mono (Kd.R_far (p := ⟨gb262, 3, none⟩) (Kd.R_far (p := ⟨gb262, 2, none⟩) (Kd.R_far (p := ⟨gb262, 1, none⟩) (Kd.R_far (p := ⟨gb262, 0, none⟩) (Kd.R_types HO_254000.out BK262.out (by decide)) (fun _ hk => hk.2) (.slice Ao22 t254.length co22)) (fun _ hk => hk.2) (.bool t257)) (fun _ hk => hk.2) (.string t258)) (fun _ hk => hk.2) (.string t259)) (fun _ h_ => h_.1))) hb); have n1_ := Aside0.mk (Kd.R_below (by (with_reducible repeat (first | apply Kd.R_alloc | apply Kd.R_drewN | apply Kd.R_drew)); exact (Kd.R_mono (Kd.R_far (p := ⟨gb262, 3, none⟩) (Kd.R_far (p := ⟨gb262, 2, none⟩) (Kd.R_far (p := ⟨gb262, 1, none⟩) (Kd.R_far (p := ⟨gb262, 0, none⟩) (Kd.R_types HO256.out BK262.out (by decide)) (fun _ hk => hk.2) (.slice Ao22 t254.length co22)) (fun _ hk => hk.2) (.bool t257)) (fun _ hk => hk.2) (.string t258)) (fun _ hk => hk.2) (.string t259)) (fun _ h_ => h_.1))) hb); have n2_ := Aside0.mk (blk_below (g := gb253) (o := .cells #[.slice Ao13 t245.length co13, .bool t248, .string t249, .string t250] 25 (0, 0)) (by (with_reducible repeat (first | refine blk_drewN ?_ _ | refine blk_drew ?_ | refine blk_alloc ?_ _)); refine blk_far ?_ NB253_262.out _; (with_reducible repeat (first | refine blk_drewN ?_ _ | refine blk_drew ?_ | refine blk_alloc ?_ _)); refine blk_far ?_ NB253_262.out _; (with_reducible repeat (first | refine blk_drewN ?_ _ | refine blk_drew ?_ | refine blk_alloc ?_ _)); refine blk_far ?_ NB253_262.out _; (with_reducible repeat (first | refine blk_drewN ?_ _ | refine blk_drew ?_ | refine blk_alloc ?_ _)); refine blk_far ?_ NB253_262.out _; (with_reducible repeat (first | refine blk_drewN ?_ _ | refine blk_drew ?_ | refine blk_alloc ?_ _)); exact BK253.out) hb); have n3_ := Aside0.mk (blk_below (g := gb262) (o := .cells #[.slice Ao22 t254.length co22, .bool t257, .string t258, .string t259] 25 (0, 0)) (by (with_reducible repeat (first | refine blk_drewN ?_ _ | refine blk_drew ?_ | refine blk_alloc ?_ _)); refine blk_put (cs := #[.slice Ao22 t254.length co22, .bool t257, .string t258, .string (⟨#[]⟩ : ByteArray)]) ?_ 3 _ rfl; (with_reducible repeat (first | refine blk_drewN ?_ _ | refine blk_drew ?_ | refine blk_alloc ?_ _)); refine blk_put (cs := #[.slice Ao22 t254.length co22, .bool t257, .string (⟨#[]⟩ : ByteArray), .string (⟨#[]⟩ : ByteArray)]) ?_ 2 _ rfl; (with_reducible repeat (first | refine blk_drewN ?_ _ | refine blk_drew ?_ | refine blk_alloc ?_ _)); refine blk_put (cs := #[.slice Ao22 t254.length co22, .bool false, .string (⟨#[]⟩ : ByteArray), .string (⟨#[]⟩ : ByteArray)]) ?_ 1 _ rfl; (with_reducible repeat (first | refine blk_drewN ?_ _ | refine blk_drew ?_ | refine blk_alloc ?_ _)); refine blk_put (cs := #[.slice none 0 0, .bool false, .string (⟨#[]⟩ : ByteArray), .string (⟨#[]⟩ : ByteArray)]) ?_ 0 _ rfl; (with_reducible repeat (first | refine blk_drewN ?_ _ | refine blk_drew ?_ | refine blk_alloc ?_ _)); exact BK262.out) hb); have n4_ := Aside0.mk (below_step (by repeat (first | (with_reducible first | exact HB.out | apply below_alloc | apply pw_below_drewN | apply below_drew1 | refine below_set ?_ GE253.out | refine below_set ?_ GE262.out) | exact HB.out)) hb); clear HO_254000; clear HO256; clear BK253; clear BK262; clear HB; have HO_254000 := n0_; have HO256 := n1_; have BK253 := n2_; have BK262 := n3_; have HB := n4_; clear n0_ n1_ n2_ n3_ n4_; (try clear hb); (try clear hb2); (try clear hk); (try clear hi)))
        (try simp only [Act.put, List.setIfInBounds_toArray, List.set_cons_zero, List.set_cons_succ])
        go_cut [58] (fun v58 wc => ∃ (kq : Nat) (x58_18 : Bool), v58 = .bool x58_18 ∧ Aside0 (laws_FnVersionCompare.j2 kq t263 t264 x58_18 t245 t248 t249 t250 t254 t257 t258 t259 = some r) ∧ Aside0 (kq ≤ kj9) ∧ Aside0 (Kd.R (Kd.int .u64) 36 wc w.heap.size (fun k_ => some k_ ≠ ((.slice Ao22 t254.length co22) : Value).ownBlock) (.slice Ao13 t245.length co13) t245) ∧ Aside0 (Kd.R (Kd.int .u64) 36 wc w.heap.size (fun k_ => some k_ ≠ ((.slice Ao13 t245.length co13) : Value).ownBlock) (.slice Ao22 t254.length co22) t254) ∧ Aside0 (wc.heap[gb253]? = some (.cells #[(.slice Ao13 t245.length co13), .bool t248, .string t249, .string t250] 25 (0, 0))) ∧ Aside0 (wc.heap[gb262]? = some (.cells #[(.slice Ao22 t254.length co22), .bool t257, .string t258, .string t259] 25 (0, 0))) ∧ Aside0 (Below w.heap.size w wc))
        case first =>
         have H := HC19.out
         clear HC19
         by_cases c26 : t251 = true
         ·subst c26
          have H1 : (laws_FnVersionCompare.j2 kj9 t263 t264 (!t260) t245 t248 t249 t250 t254 t257 t258 t259) = some r := by rw [if_pos rfl] at H; exact H
          clear H
          have H := H1
          clear H1
          have H' := Aside0.mk H
          clear H
          go_wp2
          go_meet
          case rel => exact ⟨_, (!t260), (by first | rfl | (simp; done) | (simp [*]; done)), H', ⟨by have := HJ3.out; have := HJ9.out; first | omega | exact Nat.le_refl _⟩, ⟨by (with_reducible repeat (first | apply Kd.R_alloc | apply Kd.R_drewN | apply Kd.R_drew)); exact Kd.R_mono HO_254000.out (fun _ hk => hk.2)⟩, ⟨by (with_reducible repeat (first | apply Kd.R_alloc | apply Kd.R_drewN | apply Kd.R_drew)); exact Kd.R_mono HO256.out (fun _ hk => hk.2)⟩, ⟨by (with_reducible repeat (first | refine blk_drewN ?_ _ | refine blk_drew ?_ | refine blk_alloc ?_ _)); exact BK253.out⟩, ⟨by (with_reducible repeat (first | refine blk_drewN ?_ _ | refine blk_drew ?_ | refine blk_alloc ?_ _)); exact BK262.out⟩, ⟨by repeat (first | (with_reducible first | exact HB.out | apply below_alloc | apply pw_below_drewN | apply below_drew1 | refine below_set ?_ GE253.out | refine below_set ?_ GE262.out) | exact HB.out)⟩⟩
         ·replace c26 := Bool.eq_false_iff.mpr c26
          subst c26
          have H1 : (laws_FnVersionCompare.j2 kj9 t263 t264 true t245 t248 t249 t250 t254 t257 t258 t259) = some r := by rw [if_neg (show ¬ (false = true) by decide)] at H; exact H
          clear H
          have H := H1
          clear H1
          have H' := Aside0.mk H
          clear H
          go_wp2
          go_meet
          case rel => exact ⟨_, (true), (by first | rfl | (simp; done) | (simp [*]; done)), H', ⟨by have := HJ3.out; have := HJ9.out; first | omega | exact Nat.le_refl _⟩, ⟨by (with_reducible repeat (first | apply Kd.R_alloc | apply Kd.R_drewN | apply Kd.R_drew)); exact Kd.R_mono HO_254000.out (fun _ hk => hk.2)⟩, ⟨by (with_reducible repeat (first | apply Kd.R_alloc | apply Kd.R_drewN | apply Kd.R_drew)); exact Kd.R_mono HO256.out (fun _ hk => hk.2)⟩, ⟨by (with_reducible repeat (first | refine blk_drewN ?_ _ | refine blk_drew ?_ | refine blk_alloc ?_ _)); exact BK253.out⟩, ⟨by (with_reducible repeat (first | refine blk_drewN ?_ _ | refine blk_drew ?_ | refine blk_alloc ?_ _)); exact BK262.out⟩, ⟨by repeat (first | (with_reducible first | exact HB.out | apply below_alloc | apply pw_below_drewN | apply below_drew1 | refine below_set ?_ GE253.out | refine below_set ?_ GE262.out) | exact HB.out)⟩⟩
        case rest =>
         clear HC19
         try clear c1
         try clear c2
         try clear p2
         try clear c3
         try clear c5
         try clear c5b0
         try clear c5b1
         try clear c6
         try clear c8
         try clear c9
         try clear c10
         try clear c15
         try clear c17
         try clear c23
         try clear c26
         try clear hcz14_0
         try clear hcz14_1
         try clear hcz14_2
         try clear hcz14_3
         try clear hcz24_0
         try clear hcz24_1
         try clear hcz24_2
         try clear hcz24_3
         try clear hfz14_0
         try clear hfz14_1
         try clear hfz14_2
         try clear hfz14_3
         try clear hfz24_0
         try clear hfz24_1
         try clear hfz24_2
         try clear hfz24_3
         try clear p2
         obtain ⟨kq, x58_18, rfl, HA, HJ18, HO_254000, HO_263000, BK253, BK262, HB⟩ := hcut
         cases kq with
         | zero => exact absurd HA.out (by simp [laws_FnVersionCompare.j2])
         | succ kj18 =>
          have H := HA.out
          clear HA
          simp only [laws_FnVersionCompare.j2] at H
          by_cases c27 : x58_18 = true
          ·subst c27
           have H1 : (some (!t264)) = some r := by rw [if_pos rfl] at H; exact H
           clear H
           have H := H1
           clear H1
           obtain rfl := Option.some.inj H
           go_wp2
           go_ret
           exact ⟨by first | rfl | (simp [errW_none, errW_some] <;> rfl) | (simp [*, errW_none, errW_some] <;> rfl), by repeat (first | (with_reducible first | exact HB.out | apply below_alloc | apply pw_below_drewN | apply below_drew1 | refine below_set ?_ GE253.out | refine below_set ?_ GE262.out) | exact HB.out)⟩
          ·replace c27 := Bool.eq_false_iff.mpr c27
           subst c27
           have H1 : ((spec_VerAsked.f kj18 t245 t248 t249 t250 t254 t257 t258 t259).bind fun t265 => (if t265 = true then (if t264 = true then ((spec_Versions.f kj18 t245 t248 t249 t250 t254 t257 t258 t259).bind fun t266 => (some (t263 == t266))) else (some false)) else (some true))) = some r := by rw [if_neg (show ¬ (false = true) by decide)] at H; exact H
           clear H
           have H := H1
           clear H1
           replace H := Option.bind_eq_some_iff.mp H
           obtain ⟨t265, A280, H⟩ := H
           replace H : (if t265 = true then (if t264 = true then ((spec_Versions.f kj18 t245 t248 t249 t250 t254 t257 t258 t259).bind fun t266 => (some (t263 == t266))) else (some false)) else (some true)) = some r := H
           have A28 := Aside0.mk A280
           clear A280
           by_cases c29 : t265 = true
           ·subst c29
            have H1 : (if t264 = true then ((spec_Versions.f kj18 t245 t248 t249 t250 t254 t257 t258 t259).bind fun t266 => (some (t263 == t266))) else (some false)) = some r := by rw [if_pos rfl] at H; exact H
            clear H
            have H := H1
            clear H1
            by_cases c30 : t264 = true
            ·subst c30
             have H1 : ((spec_Versions.f kj18 t245 t248 t249 t250 t254 t257 t258 t259).bind fun t266 => (some (t263 == t266))) = some r := by rw [if_pos rfl] at H; exact H
             clear H
             have H := H1
             clear H1
             replace H := Option.bind_eq_some_iff.mp H
             obtain ⟨t266, A310, H⟩ := H
             replace H : (some (t263 == t266)) = some r := H
             have A31 := Aside0.mk A310
             clear A310
             obtain rfl := Option.some.inj H
             have hnb32 := NB253_262.out
             have hnc32 := NB262_253.out
             have hcz33_0 : wc.cell? ⟨gb253, 0, none⟩ = some (.slice Ao13 t245.length co13) := (blk_cell BK253.out 0).trans rfl
             have hcz33_1 : wc.cell? ⟨gb253, 1, none⟩ = some (.bool t248) := (blk_cell BK253.out 1).trans rfl
             have hcz33_2 : wc.cell? ⟨gb253, 2, none⟩ = some (.string t249) := (blk_cell BK253.out 2).trans rfl
             have hcz33_3 : wc.cell? ⟨gb253, 3, none⟩ = some (.string t250) := (blk_cell BK253.out 3).trans rfl
             have hfz33_0 := blk_frozen BK253.out 0
             have hfz33_1 := blk_frozen BK253.out 1
             have hfz33_2 := blk_frozen BK253.out 2
             have hfz33_3 := blk_frozen BK253.out 3
             have hcz34_0 : wc.cell? ⟨gb262, 0, none⟩ = some (.slice Ao22 t254.length co22) := (blk_cell BK262.out 0).trans rfl
             have hcz34_1 : wc.cell? ⟨gb262, 1, none⟩ = some (.bool t257) := (blk_cell BK262.out 1).trans rfl
             have hcz34_2 : wc.cell? ⟨gb262, 2, none⟩ = some (.string t258) := (blk_cell BK262.out 2).trans rfl
             have hcz34_3 : wc.cell? ⟨gb262, 3, none⟩ = some (.string t259) := (blk_cell BK262.out 3).trans rfl
             have hfz34_0 := blk_frozen BK262.out 0
             have hfz34_1 := blk_frozen BK262.out 1
             have hfz34_2 := blk_frozen BK262.out 2
             have hfz34_3 := blk_frozen BK262.out 3
             go_wp2_with (first | ((with_reducible refine gate_callee (f := 11) rfl ?_); refine goesL_ (some 63) rfl rfl Tryd.func11 (by kernel_rfl) rfl #[.agg #[.slice Ao13 t245.length co13, .bool t248, .string t249, .string t250], .agg #[.slice Ao22 t254.length co22, .bool t257, .string t258, .string t259]] rfl (by (try simp only [List.map_toArray, List.map_cons, List.map_nil]); first | done | rfl | (simp only [List.length_drop, List.length_take]; rfl)) ?_; (with_reducible refine (spec_VerAsked.calls kj18 _ _ t245 t248 t249 t250 _ _ t254 t257 t258 t259 true _ ?side1 ?side2 ?side3 ?side4 A28.out).mono ?_); (case side1 => repeat (first | exact (Kd.R_reads' HO_254000.out).2.2 | (with_reducible refine Kd.C_alloc ?_ _) | (with_reducible refine Kd.C_drewN ?_ _) | (with_reducible refine Kd.C_drew ?_))); (case side2 => exact (Kd.R_reads' HO_254000.out).2.1); (case side3 => repeat (first | exact (Kd.R_reads' HO_263000.out).2.2 | (with_reducible refine Kd.C_alloc ?_ _) | (with_reducible refine Kd.C_drewN ?_ _) | (with_reducible refine Kd.C_drew ?_))); (case side4 => exact (Kd.R_reads' HO_263000.out).2.1); rintro e w35 ⟨rfl, hb⟩; refine ⟨_, rfl, ?_⟩; have n0_ := Aside0.mk (Kd.R_below (by (with_reducible repeat (first | apply Kd.R_alloc | apply Kd.R_drewN | apply Kd.R_drew)); exact HO_254000.out) hb); have n1_ := Aside0.mk (Kd.R_below (by (with_reducible repeat (first | apply Kd.R_alloc | apply Kd.R_drewN | apply Kd.R_drew)); exact HO_263000.out) hb); have n2_ := Aside0.mk (blk_below (g := gb253) (o := .cells #[.slice Ao13 t245.length co13, .bool t248, .string t249, .string t250] 25 (0, 0)) (by (with_reducible repeat (first | refine blk_drewN ?_ _ | refine blk_drew ?_ | refine blk_alloc ?_ _)); exact BK253.out) hb); have n3_ := Aside0.mk (blk_below (g := gb262) (o := .cells #[.slice Ao22 t254.length co22, .bool t257, .string t258, .string t259] 25 (0, 0)) (by (with_reducible repeat (first | refine blk_drewN ?_ _ | refine blk_drew ?_ | refine blk_alloc ?_ _)); exact BK262.out) hb); have n4_ := Aside0.mk (below_step (by repeat (first | (with_reducible first | exact HB.out | apply below_alloc | apply pw_below_drewN | apply below_drew1 | refine below_set ?_ GE253.out | refine below_set ?_ GE262.out) | exact HB.out)) hb); clear HO_254000; clear HO_263000; clear BK253; clear BK262; clear HB; have HO_254000 := n0_; have HO_263000 := n1_; have BK253 := n2_; have BK262 := n3_; have HB := n4_; clear n0_ n1_ n2_ n3_ n4_; (try clear hb); (try clear hb2); (try clear hk); (try clear hi); have hcz36_0 : w35.cell? ⟨gb253, 0, none⟩ = some (.slice Ao13 t245.length co13) := (blk_cell BK253.out 0).trans rfl; have hcz36_1 : w35.cell? ⟨gb253, 1, none⟩ = some (.bool t248) := (blk_cell BK253.out 1).trans rfl; have hcz36_2 : w35.cell? ⟨gb253, 2, none⟩ = some (.string t249) := (blk_cell BK253.out 2).trans rfl; have hcz36_3 : w35.cell? ⟨gb253, 3, none⟩ = some (.string t250) := (blk_cell BK253.out 3).trans rfl; have hfz36_0 := blk_frozen BK253.out 0; have hfz36_1 := blk_frozen BK253.out 1; have hfz36_2 := blk_frozen BK253.out 2; have hfz36_3 := blk_frozen BK253.out 3; have hcz37_0 : w35.cell? ⟨gb262, 0, none⟩ = some (.slice Ao22 t254.length co22) := (blk_cell BK262.out 0).trans rfl; have hcz37_1 : w35.cell? ⟨gb262, 1, none⟩ = some (.bool t257) := (blk_cell BK262.out 1).trans rfl; have hcz37_2 : w35.cell? ⟨gb262, 2, none⟩ = some (.string t258) := (blk_cell BK262.out 2).trans rfl; have hcz37_3 : w35.cell? ⟨gb262, 3, none⟩ = some (.string t259) := (blk_cell BK262.out 3).trans rfl; have hfz37_0 := blk_frozen BK262.out 0; have hfz37_1 := blk_frozen BK262.out 1; have hfz37_2 := blk_frozen BK262.out 2; have hfz37_3 := blk_frozen BK262.out 3) | (go_at_call 12; (with_reducible refine (spec_Versions.calls kj18 _ _ t245 t248 t249 t250 _ _ t254 t257 t258 t259 t266 _ ?side1 ?side2 ?side3 ?side4 A31.out).mono ?_); (case side1 => repeat (first | exact (Kd.R_reads' HO_254000.out).2.2 | (with_reducible refine Kd.C_alloc ?_ _) | (with_reducible refine Kd.C_drewN ?_ _) | (with_reducible refine Kd.C_drew ?_))); (case side2 => exact (Kd.R_reads' HO_254000.out).2.1); (case side3 => repeat (first | exact (Kd.R_reads' HO_263000.out).2.2 | (with_reducible refine Kd.C_alloc ?_ _) | (with_reducible refine Kd.C_drewN ?_ _) | (with_reducible refine Kd.C_drew ?_))); (case side4 => exact (Kd.R_reads' HO_263000.out).2.1); rintro e w38 ⟨rfl, hb⟩; have n0_ := Aside0.mk (Kd.R_below (by (with_reducible repeat (first | apply Kd.R_alloc | apply Kd.R_drewN | apply Kd.R_drew)); exact HO_254000.out) hb); have n1_ := Aside0.mk (Kd.R_below (by (with_reducible repeat (first | apply Kd.R_alloc | apply Kd.R_drewN | apply Kd.R_drew)); exact HO_263000.out) hb); have n2_ := Aside0.mk (blk_below (g := gb253) (o := .cells #[.slice Ao13 t245.length co13, .bool t248, .string t249, .string t250] 25 (0, 0)) (by (with_reducible repeat (first | refine blk_drewN ?_ _ | refine blk_drew ?_ | refine blk_alloc ?_ _)); exact BK253.out) hb); have n3_ := Aside0.mk (blk_below (g := gb262) (o := .cells #[.slice Ao22 t254.length co22, .bool t257, .string t258, .string t259] 25 (0, 0)) (by (with_reducible repeat (first | refine blk_drewN ?_ _ | refine blk_drew ?_ | refine blk_alloc ?_ _)); exact BK262.out) hb); have n4_ := Aside0.mk (below_step (by repeat (first | (with_reducible first | exact HB.out | apply below_alloc | apply pw_below_drewN | apply below_drew1 | refine below_set ?_ GE253.out | refine below_set ?_ GE262.out) | exact HB.out)) hb); clear HO_254000; clear HO_263000; clear BK253; clear BK262; clear HB; have HO_254000 := n0_; have HO_263000 := n1_; have BK253 := n2_; have BK262 := n3_; have HB := n4_; clear n0_ n1_ n2_ n3_ n4_; (try clear hb); (try clear hb2); (try clear hk); (try clear hi)))
             go_ret
             exact ⟨by first | rfl | (simp [errW_none, errW_some] <;> rfl) | (simp [*, errW_none, errW_some] <;> rfl), by repeat (first | (with_reducible first | exact HB.out | apply below_alloc | apply pw_below_drewN | apply below_drew1 | refine below_set ?_ GE253.out | refine below_set ?_ GE262.out) | exact HB.out)⟩
            ·replace c30 := Bool.eq_false_iff.mpr c30
             subst c30
             have H1 : (some false) = some r := by rw [if_neg (show ¬ (false = true) by decide)] at H; exact H
             clear H
             have H := H1
             clear H1
             obtain rfl := Option.some.inj H
             have hnb39 := NB253_262.out
             have hnc39 := NB262_253.out
             have hcz40_0 : wc.cell? ⟨gb253, 0, none⟩ = some (.slice Ao13 t245.length co13) := (blk_cell BK253.out 0).trans rfl
             have hcz40_1 : wc.cell? ⟨gb253, 1, none⟩ = some (.bool t248) := (blk_cell BK253.out 1).trans rfl
             have hcz40_2 : wc.cell? ⟨gb253, 2, none⟩ = some (.string t249) := (blk_cell BK253.out 2).trans rfl
             have hcz40_3 : wc.cell? ⟨gb253, 3, none⟩ = some (.string t250) := (blk_cell BK253.out 3).trans rfl
             have hfz40_0 := blk_frozen BK253.out 0
             have hfz40_1 := blk_frozen BK253.out 1
             have hfz40_2 := blk_frozen BK253.out 2
             have hfz40_3 := blk_frozen BK253.out 3
             have hcz41_0 : wc.cell? ⟨gb262, 0, none⟩ = some (.slice Ao22 t254.length co22) := (blk_cell BK262.out 0).trans rfl
             have hcz41_1 : wc.cell? ⟨gb262, 1, none⟩ = some (.bool t257) := (blk_cell BK262.out 1).trans rfl
             have hcz41_2 : wc.cell? ⟨gb262, 2, none⟩ = some (.string t258) := (blk_cell BK262.out 2).trans rfl
             have hcz41_3 : wc.cell? ⟨gb262, 3, none⟩ = some (.string t259) := (blk_cell BK262.out 3).trans rfl
             have hfz41_0 := blk_frozen BK262.out 0
             have hfz41_1 := blk_frozen BK262.out 1
             have hfz41_2 := blk_frozen BK262.out 2
             have hfz41_3 := blk_frozen BK262.out 3
             go_wp2_with (first | ((with_reducible refine gate_callee (f := 11) rfl ?_); refine goesL_ (some 63) rfl rfl Tryd.func11 (by kernel_rfl) rfl #[.agg #[.slice Ao13 t245.length co13, .bool t248, .string t249, .string t250], .agg #[.slice Ao22 t254.length co22, .bool t257, .string t258, .string t259]] rfl (by (try simp only [List.map_toArray, List.map_cons, List.map_nil]); first | done | rfl | (simp only [List.length_drop, List.length_take]; rfl)) ?_; (with_reducible refine (spec_VerAsked.calls kj18 _ _ t245 t248 t249 t250 _ _ t254 t257 t258 t259 true _ ?side1 ?side2 ?side3 ?side4 A28.out).mono ?_); (case side1 => repeat (first | exact (Kd.R_reads' HO_254000.out).2.2 | (with_reducible refine Kd.C_alloc ?_ _) | (with_reducible refine Kd.C_drewN ?_ _) | (with_reducible refine Kd.C_drew ?_))); (case side2 => exact (Kd.R_reads' HO_254000.out).2.1); (case side3 => repeat (first | exact (Kd.R_reads' HO_263000.out).2.2 | (with_reducible refine Kd.C_alloc ?_ _) | (with_reducible refine Kd.C_drewN ?_ _) | (with_reducible refine Kd.C_drew ?_))); (case side4 => exact (Kd.R_reads' HO_263000.out).2.1); rintro e w42 ⟨rfl, hb⟩; refine ⟨_, rfl, ?_⟩; have n0_ := Aside0.mk (Kd.R_below (by (with_reducible repeat (first | apply Kd.R_alloc | apply Kd.R_drewN | apply Kd.R_drew)); exact HO_254000.out) hb); have n1_ := Aside0.mk (Kd.R_below (by (with_reducible repeat (first | apply Kd.R_alloc | apply Kd.R_drewN | apply Kd.R_drew)); exact HO_263000.out) hb); have n2_ := Aside0.mk (blk_below (g := gb253) (o := .cells #[.slice Ao13 t245.length co13, .bool t248, .string t249, .string t250] 25 (0, 0)) (by (with_reducible repeat (first | refine blk_drewN ?_ _ | refine blk_drew ?_ | refine blk_alloc ?_ _)); exact BK253.out) hb); have n3_ := Aside0.mk (blk_below (g := gb262) (o := .cells #[.slice Ao22 t254.length co22, .bool t257, .string t258, .string t259] 25 (0, 0)) (by (with_reducible repeat (first | refine blk_drewN ?_ _ | refine blk_drew ?_ | refine blk_alloc ?_ _)); exact BK262.out) hb); have n4_ := Aside0.mk (below_step (by repeat (first | (with_reducible first | exact HB.out | apply below_alloc | apply pw_below_drewN | apply below_drew1 | refine below_set ?_ GE253.out | refine below_set ?_ GE262.out) | exact HB.out)) hb); clear HO_254000; clear HO_263000; clear BK253; clear BK262; clear HB; have HO_254000 := n0_; have HO_263000 := n1_; have BK253 := n2_; have BK262 := n3_; have HB := n4_; clear n0_ n1_ n2_ n3_ n4_; (try clear hb); (try clear hb2); (try clear hk); (try clear hi)))
             go_ret
             exact ⟨by first | rfl | (simp [errW_none, errW_some] <;> rfl) | (simp [*, errW_none, errW_some] <;> rfl), by repeat (first | (with_reducible first | exact HB.out | apply below_alloc | apply pw_below_drewN | apply below_drew1 | refine below_set ?_ GE253.out | refine below_set ?_ GE262.out) | exact HB.out)⟩
           ·replace c29 := Bool.eq_false_iff.mpr c29
            subst c29
            have H1 : (some true) = some r := by rw [if_neg (show ¬ (false = true) by decide)] at H; exact H
            clear H
            have H := H1
            clear H1
            obtain rfl := Option.some.inj H
            have hnb43 := NB253_262.out
            have hnc43 := NB262_253.out
            have hcz44_0 : wc.cell? ⟨gb253, 0, none⟩ = some (.slice Ao13 t245.length co13) := (blk_cell BK253.out 0).trans rfl
            have hcz44_1 : wc.cell? ⟨gb253, 1, none⟩ = some (.bool t248) := (blk_cell BK253.out 1).trans rfl
            have hcz44_2 : wc.cell? ⟨gb253, 2, none⟩ = some (.string t249) := (blk_cell BK253.out 2).trans rfl
            have hcz44_3 : wc.cell? ⟨gb253, 3, none⟩ = some (.string t250) := (blk_cell BK253.out 3).trans rfl
            have hfz44_0 := blk_frozen BK253.out 0
            have hfz44_1 := blk_frozen BK253.out 1
            have hfz44_2 := blk_frozen BK253.out 2
            have hfz44_3 := blk_frozen BK253.out 3
            have hcz45_0 : wc.cell? ⟨gb262, 0, none⟩ = some (.slice Ao22 t254.length co22) := (blk_cell BK262.out 0).trans rfl
            have hcz45_1 : wc.cell? ⟨gb262, 1, none⟩ = some (.bool t257) := (blk_cell BK262.out 1).trans rfl
            have hcz45_2 : wc.cell? ⟨gb262, 2, none⟩ = some (.string t258) := (blk_cell BK262.out 2).trans rfl
            have hcz45_3 : wc.cell? ⟨gb262, 3, none⟩ = some (.string t259) := (blk_cell BK262.out 3).trans rfl
            have hfz45_0 := blk_frozen BK262.out 0
            have hfz45_1 := blk_frozen BK262.out 1
            have hfz45_2 := blk_frozen BK262.out 2
            have hfz45_3 := blk_frozen BK262.out 3
            go_wp2_with (first | ((with_reducible refine gate_callee (f := 11) rfl ?_); refine goesL_ (some 63) rfl rfl Tryd.func11 (by kernel_rfl) rfl #[.agg #[.slice Ao13 t245.length co13, .bool t248, .string t249, .string t250], .agg #[.slice Ao22 t254.length co22, .bool t257, .string t258, .string t259]] rfl (by (try simp only [List.map_toArray, List.map_cons, List.map_nil]); first | done | rfl | (simp only [List.length_drop, List.length_take]; rfl)) ?_; (with_reducible refine (spec_VerAsked.calls kj18 _ _ t245 t248 t249 t250 _ _ t254 t257 t258 t259 false _ ?side1 ?side2 ?side3 ?side4 A28.out).mono ?_); (case side1 => repeat (first | exact (Kd.R_reads' HO_254000.out).2.2 | (with_reducible refine Kd.C_alloc ?_ _) | (with_reducible refine Kd.C_drewN ?_ _) | (with_reducible refine Kd.C_drew ?_))); (case side2 => exact (Kd.R_reads' HO_254000.out).2.1); (case side3 => repeat (first | exact (Kd.R_reads' HO_263000.out).2.2 | (with_reducible refine Kd.C_alloc ?_ _) | (with_reducible refine Kd.C_drewN ?_ _) | (with_reducible refine Kd.C_drew ?_))); (case side4 => exact (Kd.R_reads' HO_263000.out).2.1); rintro e w46 ⟨rfl, hb⟩; refine ⟨_, rfl, ?_⟩; have n0_ := Aside0.mk (Kd.R_below (by (with_reducible repeat (first | apply Kd.R_alloc | apply Kd.R_drewN | apply Kd.R_drew)); exact HO_254000.out) hb); have n1_ := Aside0.mk (Kd.R_below (by (with_reducible repeat (first | apply Kd.R_alloc | apply Kd.R_drewN | apply Kd.R_drew)); exact HO_263000.out) hb); have n2_ := Aside0.mk (blk_below (g := gb253) (o := .cells #[.slice Ao13 t245.length co13, .bool t248, .string t249, .string t250] 25 (0, 0)) (by (with_reducible repeat (first | refine blk_drewN ?_ _ | refine blk_drew ?_ | refine blk_alloc ?_ _)); exact BK253.out) hb); have n3_ := Aside0.mk (blk_below (g := gb262) (o := .cells #[.slice Ao22 t254.length co22, .bool t257, .string t258, .string t259] 25 (0, 0)) (by (with_reducible repeat (first | refine blk_drewN ?_ _ | refine blk_drew ?_ | refine blk_alloc ?_ _)); exact BK262.out) hb); have n4_ := Aside0.mk (below_step (by repeat (first | (with_reducible first | exact HB.out | apply below_alloc | apply pw_below_drewN | apply below_drew1 | refine below_set ?_ GE253.out | refine below_set ?_ GE262.out) | exact HB.out)) hb); clear HO_254000; clear HO_263000; clear BK253; clear BK262; clear HB; have HO_254000 := n0_; have HO_263000 := n1_; have BK253 := n2_; have BK262 := n3_; have HB := n4_; clear n0_ n1_ n2_ n3_ n4_; (try clear hb); (try clear hb2); (try clear hk); (try clear hi)))
            go_ret
            exact ⟨by first | rfl | (simp [errW_none, errW_some] <;> rfl) | (simp [*, errW_none, errW_some] <;> rfl), by repeat (first | (with_reducible first | exact HB.out | apply below_alloc | apply pw_below_drewN | apply below_drew1 | refine below_set ?_ GE253.out | refine below_set ?_ GE262.out) | exact HB.out)⟩
       ·replace c17 := Bool.eq_false_iff.mpr c17
        subst c17
        have H1 : (some true) = some r := by rw [if_neg (show ¬ (false = true) by decide)] at H; exact H
        clear H
        have H := H1
        clear H1
        obtain rfl := Option.some.inj H
        go_wp2_with (first | ((with_reducible refine gate_callee (f := 9) rfl ?_); refine goesL_ (some 40) rfl rfl Tryd.func9 (by kernel_rfl) rfl #[.int .i64 x10_9, .string a2] rfl (by (try simp only [List.map_toArray, List.map_cons, List.map_nil]); first | done | rfl | (simp only [List.length_drop, List.length_take]; rfl)) ?_; (with_reducible refine (spec_VerParsed.calls kj9 x10_9 a2 t254 t257 t258 t259 t260 false _ A16.out).mono ?_); rintro e w47 ⟨v255, rfl, ho0, hb⟩; refine ⟨_, rfl, ?_⟩; have n0_ := Aside0.mk (Kd.R_elder' (by (with_reducible repeat (first | apply Kd.R_alloc | apply Kd.R_drewN | apply Kd.R_drew)); exact HO_254000.out) (Kd.R_base ho0) hb); have n1_ := Aside0.mk (Kd.R_lower (Kd.R_new' ho0 (Kd.R_lt (by (with_reducible repeat (first | apply Kd.R_alloc | apply Kd.R_drewN | apply Kd.R_drew)); exact HO_254000.out))) (below_size (by repeat (first | (with_reducible first | exact HB.out | apply below_alloc | apply pw_below_drewN | apply below_drew1 | refine below_set ?_ GE253.out) | exact HB.out)))); have n2_ := Aside0.mk (blk_below (g := gb253) (o := .cells #[.slice Ao13 t245.length co13, .bool t248, .string t249, .string t250] 25 (0, 0)) (by (with_reducible repeat (first | refine blk_drewN ?_ _ | refine blk_drew ?_ | refine blk_alloc ?_ _)); exact BK253.out) hb); have n3_ := Aside0.mk (below_step (by repeat (first | (with_reducible first | exact HB.out | apply below_alloc | apply pw_below_drewN | apply below_drew1 | refine below_set ?_ GE253.out) | exact HB.out)) hb); clear HO_254000; clear BK253; clear HB; have HO_254000 := n0_; have HO256 := n1_; have BK253 := n2_; have HB := n3_; clear n0_ n1_ n2_ n3_; (try clear hb); (try clear hb2); (try clear hk); (try clear hi); (try clear ho0)) | ((with_reducible refine gate_dst (N := 11) rfl ?_); (try (refine gate_guard (by rfl) ?_; dsimp only)); refine box_event ?hg (N := 11) ?hd (cs := #[.slice none 0 0, .bool false, .string (⟨#[]⟩ : ByteArray), .string (⟨#[]⟩ : ByteArray)]) (t := 25) ?hr ?_; (case hd => rfl); (case hg => rfl); (case hr => first | (go_simp; done) | (go_simp; rfl)); intro gb262 hg w48 hbox hb; have n0_ := Aside0.mk (Kd.R_below (by (with_reducible repeat (first | apply Kd.R_alloc | apply Kd.R_drewN | apply Kd.R_drew)); exact HO_254000.out) hb); have n1_ := Aside0.mk (Kd.R_below (by (with_reducible repeat (first | apply Kd.R_alloc | apply Kd.R_drewN | apply Kd.R_drew)); exact HO256.out) hb); have n2_ := Aside0.mk (blk_below (g := gb253) (o := .cells #[.slice Ao13 t245.length co13, .bool t248, .string t249, .string t250] 25 (0, 0)) (by (with_reducible repeat (first | refine blk_drewN ?_ _ | refine blk_drew ?_ | refine blk_alloc ?_ _)); exact BK253.out) hb); have n3_ := Aside0.mk (below_step (by repeat (first | (with_reducible first | exact HB.out | apply below_alloc | apply pw_below_drewN | apply below_drew1 | refine below_set ?_ GE253.out) | exact HB.out)) hb); have n4_ := Aside0.mk (hbox); have n5_ := Aside0.mk ((by rw [hg]; exact (below_size (by repeat (first | (with_reducible first | exact HB.out | apply below_alloc | apply pw_below_drewN | apply below_drew1 | refine below_set ?_ GE253.out) | exact HB.out))) : w.heap.size ≤ gb262)); have n6_ := Aside0.mk ((by rw [hg]; exact (below_size (by repeat (first | (with_reducible first | exact HB.out | apply below_alloc | apply pw_below_drewN | apply below_drew1 | refine below_set ?_ GE253.out) | exact HB.out))) : w.heap.size ≤ gb262)); have n7_ := Aside0.mk ((by rw [hg]; exact Nat.ne_of_lt (blk_lt (g := gb253) (o := .cells #[.slice Ao13 t245.length co13, .bool t248, .string t249, .string t250] 25 (0, 0)) (by (with_reducible repeat (first | refine blk_drewN ?_ _ | refine blk_drew ?_ | refine blk_alloc ?_ _)); exact BK253.out)) : gb253 ≠ gb262)); have n8_ := Aside0.mk ((by rw [hg]; exact Nat.ne_of_gt (blk_lt (g := gb253) (o := .cells #[.slice Ao13 t245.length co13, .bool t248, .string t249, .string t250] 25 (0, 0)) (by (with_reducible repeat (first | refine blk_drewN ?_ _ | refine blk_drew ?_ | refine blk_alloc ?_ _)); exact BK253.out)) : gb262 ≠ gb253)); clear HO_254000; clear HO256; clear BK253; clear HB; have HO_254000 := n0_; have HO256 := n1_; have BK253 := n2_; have HB := n3_; have BK262 := n4_; have GW262 := n5_; have GE262 := n6_; have NB253_262 := n7_; have NB262_253 := n8_; clear n0_ n1_ n2_ n3_ n4_ n5_ n6_ n7_ n8_; clear hb hbox hg; obtain ⟨Ao49, co49, eo49⟩ := Kd.R_slice HO256.out; subst eo49; have hnb50 := NB262_253.out; have hnc50 := NB253_262.out; have hcz51_0 : w48.cell? ⟨gb262, 0, none⟩ = some (.slice none 0 0) := (blk_cell BK262.out 0).trans rfl; have hcz51_1 : w48.cell? ⟨gb262, 1, none⟩ = some (.bool false) := (blk_cell BK262.out 1).trans rfl; have hcz51_2 : w48.cell? ⟨gb262, 2, none⟩ = some (.string (⟨#[]⟩ : ByteArray)) := (blk_cell BK262.out 2).trans rfl; have hcz51_3 : w48.cell? ⟨gb262, 3, none⟩ = some (.string (⟨#[]⟩ : ByteArray)) := (blk_cell BK262.out 3).trans rfl; have hfz51_0 := blk_frozen BK262.out 0; have hfz51_1 := blk_frozen BK262.out 1; have hfz51_2 := blk_frozen BK262.out 2; have hfz51_3 := blk_frozen BK262.out 3))
        go_ret
        exact ⟨by first | rfl | (simp [errW_none, errW_some] <;> rfl) | (simp [*, errW_none, errW_some] <;> rfl), by repeat (first | (with_reducible first | exact HB.out | apply below_alloc | apply pw_below_drewN | apply below_drew1 | refine below_set ?_ GE253.out | refine below_set ?_ GE262.out) | exact HB.out)⟩
    ·replace c9 := Bool.eq_false_iff.mpr c9
     subst c9
     have H1 : (some true) = some r := by rw [if_neg (show ¬ (false = true) by decide)] at H; exact H
     clear H
     have H := H1
     clear H1
     obtain rfl := Option.some.inj H
     go_wp2_with (first | ((with_reducible refine gate_callee (f := 8) rfl ?_); refine goesL_ (some 25) rfl rfl Tryd.func8 (by kernel_rfl) rfl #[.int .i64 a0] rfl (by (try simp only [List.map_toArray, List.map_cons, List.map_nil]); first | done | rfl | (simp only [List.length_drop, List.length_take]; rfl)) ?_; (with_reducible refine (laws_verKind.calls a0 t244 _ A7.out).mono ?_); rintro e w' ⟨rfl, ⟨nd, rfl⟩⟩; refine ⟨_, rfl, ?_⟩; (try (rw [drewN_self wc]; generalize hq_ : World.drewN wc _ = wc; have n0_ : Aside0 (Below w.heap.size w wc) := ⟨by rw [← hq_]; exact (by repeat (first | (with_reducible first | exact HB.out | apply below_alloc | apply pw_below_drewN | apply below_drew1) | exact HB.out))⟩; clear HB hq_; have HB := n0_; clear n0_))) | ((with_reducible refine gate_callee (f := 9) rfl ?_); refine goesL_ (some 29) rfl rfl Tryd.func9 (by kernel_rfl) rfl #[.int .i64 t244, .string a1] rfl (by (try simp only [List.map_toArray, List.map_cons, List.map_nil]); first | done | rfl | (simp only [List.length_drop, List.length_take]; rfl)) ?_; (with_reducible refine (spec_VerParsed.calls kj3 t244 a1 t245 t248 t249 t250 t251 false _ A8.out).mono ?_); rintro e w52 ⟨v246, rfl, ho0, hb⟩; refine ⟨_, rfl, ?_⟩; have n0_ := Aside0.mk (Kd.R_lower ho0 (below_size (by repeat (first | (with_reducible first | exact HB.out | apply below_alloc | apply pw_below_drewN | apply below_drew1) | exact HB.out)))); have n1_ := Aside0.mk (below_step (by repeat (first | (with_reducible first | exact HB.out | apply below_alloc | apply pw_below_drewN | apply below_drew1) | exact HB.out)) hb); clear HB; have HO247 := n0_; have HB := n1_; clear n0_ n1_; (try clear hb); (try clear hb2); (try clear hk); (try clear hi); (try clear ho0)) | ((with_reducible refine gate_dst (N := 7) rfl ?_); (try (refine gate_guard (by rfl) ?_; dsimp only)); refine box_event ?hg (N := 7) ?hd (cs := #[.slice none 0 0, .bool false, .string (⟨#[]⟩ : ByteArray), .string (⟨#[]⟩ : ByteArray)]) (t := 25) ?hr ?_; (case hd => rfl); (case hg => rfl); (case hr => first | (go_simp; done) | (go_simp; rfl)); intro gb253 hg w53 hbox hb; have n0_ := Aside0.mk (Kd.R_below (by (with_reducible repeat (first | apply Kd.R_alloc | apply Kd.R_drewN | apply Kd.R_drew)); exact HO247.out) hb); have n1_ := Aside0.mk (below_step (by repeat (first | (with_reducible first | exact HB.out | apply below_alloc | apply pw_below_drewN | apply below_drew1) | exact HB.out)) hb); have n2_ := Aside0.mk (hbox); have n3_ := Aside0.mk ((by rw [hg]; exact (below_size (by repeat (first | (with_reducible first | exact HB.out | apply below_alloc | apply pw_below_drewN | apply below_drew1) | exact HB.out))) : w.heap.size ≤ gb253)); have n4_ := Aside0.mk ((by rw [hg]; exact (below_size (by repeat (first | (with_reducible first | exact HB.out | apply below_alloc | apply pw_below_drewN | apply below_drew1) | exact HB.out))) : w.heap.size ≤ gb253)); clear HO247; clear HB; have HO247 := n0_; have HB := n1_; have BK253 := n2_; have GW253 := n3_; have GE253 := n4_; clear n0_ n1_ n2_ n3_ n4_; clear hb hbox hg; obtain ⟨Ao54, co54, eo54⟩ := Kd.R_slice HO247.out; subst eo54; have hcz55_0 : w53.cell? ⟨gb253, 0, none⟩ = some (.slice none 0 0) := (blk_cell BK253.out 0).trans rfl; have hcz55_1 : w53.cell? ⟨gb253, 1, none⟩ = some (.bool false) := (blk_cell BK253.out 1).trans rfl; have hcz55_2 : w53.cell? ⟨gb253, 2, none⟩ = some (.string (⟨#[]⟩ : ByteArray)) := (blk_cell BK253.out 2).trans rfl; have hcz55_3 : w53.cell? ⟨gb253, 3, none⟩ = some (.string (⟨#[]⟩ : ByteArray)) := (blk_cell BK253.out 3).trans rfl; have hfz55_0 := blk_frozen BK253.out 0; have hfz55_1 := blk_frozen BK253.out 1; have hfz55_2 := blk_frozen BK253.out 2; have hfz55_3 := blk_frozen BK253.out 3))
     go_ret
     exact ⟨by first | rfl | (simp [errW_none, errW_some] <;> rfl) | (simp [*, errW_none, errW_some] <;> rfl), by repeat (first | (with_reducible first | exact HB.out | apply below_alloc | apply pw_below_drewN | apply below_drew1 | refine below_set ?_ GE253.out) | exact HB.out)⟩
end Go.Proofs.YtmfgkidppchobaaDoor.XFnVersionCompare

