/- A text of this session: the functions of the law FnKindForAny, by a program that calls the kit's print and lays this session's own contracts of single functions beside. -/
import Derived.Test.YtehgokciafpnbaaXFnKindForAnyx0
import Derived.Test.YtehgokciafpnbaaXFnKindForAnyx3
namespace Go.Proofs.Ytehgokciafpnbaa.XFnKindForAny
open Go.RowKit Go.Proofs.YtehgokciafpnbaaW.PrintWords Go.Proofs.YtehgokciafpnbaaW.PrintLast Go.Proofs.YtehgokciafpnbaaW.PrintMore
attribute [local go_sem] max2_int min2_int max_two min_two max_three min_three max_four min_four   -- for this text's walks alone
set_option linter.unusedVariables false
set_option linter.unusedSimpArgs false

/-! ### schema_GroupVersions_KindForGroupVersionKinds: function 40 -/
def schema_GroupVersions_KindForGroupVersionKinds.l0 : Nat → List (S51) → List (S51) → List (S44) → Int → Int → Option (ByteArray × ByteArray × ByteArray × Bool)
  | 0, _, _, _, _, _ => none
  | k + 1, x1, x6, x11, x12, x13 => if x13 < x12 then (if 0 ≤ x13 then (if x13 < (x11.length : Int) then ((schema_GroupVersion_KindForGroupVersionKinds.f k ((rd_T44 x11 x13).f0) ((rd_T44 x11 x13).f1) x1).bind fun bt125 => (if bt125.2.2.2 = true then (if x6.length < 2932031007402 then (schema_GroupVersions_KindForGroupVersionKinds.l0 k x1 (x6 ++ [(⟨bt125.1, bt125.2.1, bt125.2.2.1⟩ : S51)]) x11 x12 (wrap64 (x13 + 1))) else (none)) else (schema_GroupVersions_KindForGroupVersionKinds.l0 k x1 x6 x11 x12 (wrap64 (x13 + 1))))) else (none)) else (none)) else (if (x6.length : Int) = 1 then (if 0 < (x6.length : Int) then (some ((rd_T51 x6 0).f0, (rd_T51 x6 0).f1, (rd_T51 x6 0).f2, true)) else (none)) else (if (x6.length : Int) > 1 then ((schema_bestMatch.f k x1 x6).bind fun bt134 => (some (bt134.1, bt134.2.1, bt134.2.2, true))) else (some ((⟨#[]⟩ : ByteArray), (⟨#[]⟩ : ByteArray), (⟨#[]⟩ : ByteArray), false))))
def schema_GroupVersions_KindForGroupVersionKinds.f (k : Nat) (l0 : List (S44)) (l1 : List (S51)) : Option (ByteArray × ByteArray × ByteArray × Bool) := schema_GroupVersions_KindForGroupVersionKinds.l0 k l1 ([] : List (S51)) l0 (l0.length : Int) 0
theorem schema_GroupVersions_KindForGroupVersionKinds.mono_l : ∀ k, (∀ y0 y1 y2 y3 y4, LeO (schema_GroupVersions_KindForGroupVersionKinds.l0 k y0 y1 y2 y3 y4) (schema_GroupVersions_KindForGroupVersionKinds.l0 (k + 1) y0 y1 y2 y3 y4))
  | 0 => fun _ _ _ _ _ r h => by simp [schema_GroupVersions_KindForGroupVersionKinds.l0] at h
  | k + 1 => by
    have ih0 := schema_GroupVersions_KindForGroupVersionKinds.mono_l k
    · intro y0 y1 y2 y3 y4
      unfold schema_GroupVersions_KindForGroupVersionKinds.l0
      repeat' first
      | (with_reducible exact ih0 _ _ _ _ _)
      | (with_reducible exact schema_GroupVersion_KindForGroupVersionKinds.mono _ _ _ _)
      | (with_reducible exact schema_bestMatch.mono _ _ _)
      | (with_reducible exact LeO.refl _)
      | (with_reducible exact LeO.none _)
      | (with_reducible refine LeO.ite ?_ ?_)
      | (with_reducible refine LeO.bind ?_ (fun _ => ?_))
      | exact ih0 _ _ _ _ _
      | exact schema_GroupVersion_KindForGroupVersionKinds.mono _ _ _ _
      | exact schema_bestMatch.mono _ _ _
      | exact LeO.none _
      | refine LeO.ite ?_ ?_
      | refine LeO.bind ?_ (fun _ => ?_)
theorem schema_GroupVersions_KindForGroupVersionKinds.mono : ∀ a0 a1 k, LeO (schema_GroupVersions_KindForGroupVersionKinds.f k a0 a1) (schema_GroupVersions_KindForGroupVersionKinds.f (k + 1) a0 a1) := by
  intro a0 a1 k
  have ih0 := schema_GroupVersions_KindForGroupVersionKinds.mono_l k
  unfold schema_GroupVersions_KindForGroupVersionKinds.f
  repeat' first
      | (with_reducible exact ih0 _ _ _ _ _)
      | (with_reducible exact schema_GroupVersion_KindForGroupVersionKinds.mono _ _ _ _)
      | (with_reducible exact schema_bestMatch.mono _ _ _)
      | (with_reducible exact LeO.refl _)
      | (with_reducible exact LeO.none _)
      | (with_reducible refine LeO.ite ?_ ?_)
      | (with_reducible refine LeO.bind ?_ (fun _ => ?_))
      | exact ih0 _ _ _ _ _
      | exact schema_GroupVersion_KindForGroupVersionKinds.mono _ _ _ _
      | exact schema_bestMatch.mono _ _ _
      | exact LeO.none _
      | refine LeO.ite ?_ ?_
      | refine LeO.bind ?_ (fun _ => ?_)
set_option maxHeartbeats 8000000 in
set_option maxRecDepth 100000 in
theorem schema_GroupVersions_KindForGroupVersionKinds.calls (k : Nat) (A0 : Option Addr) (c0 : Nat) (l0 : List (S44)) (A1 : Option Addr) (c1 : Nat) (l1 : List (S51)) (r1 : ByteArray) (r2 : ByteArray) (r3 : ByteArray) (r4 : Bool) (w : World) (hr0 : Kd.C k44 w A0 l0.length l0) (hc0 : l0.length ≤ c0) (hr1 : Kd.C k51 w A1 l1.length l1) (hc1 : l1.length ≤ c1) (h : schema_GroupVersions_KindForGroupVersionKinds.f k l0 l1 = some (r1, r2, r3, r4)) :
    Calls Try.prog 40 #[.slice A0 l0.length c0, .slice A1 l1.length c1] w fun e w' => e = .returned (.tuple #[.agg #[.string r1, .string r2, .string r3], .bool r4]) ∧ Below w.heap.size w w' := by
  have hu51 := Try.underlying51
  have hu44 := Try.underlying44
  have HR0 := Aside0.mk hr0
  have HC0 := Aside0.mk hc0
  clear hr0 hc0
  have HR1 := Aside0.mk hr1
  have HC1 := Aside0.mk hc1
  clear hr1 hc1
  have HB := Aside0.mk (Below.refl w.heap.size w)
  have H : (schema_GroupVersions_KindForGroupVersionKinds.l0 k l1 ([] : List (S51)) l0 (l0.length : Int) 0) = some (r1, r2, r3, r4) := h
  clear h
  have H' := Aside0.mk H
  clear H
  go_enter Try.func40, Try.ntmps40
  go_wp2_with (first | ((with_reducible refine gate_dst (N := 4) rfl ?_); refine box_event ?hg (N := 4) ?hd (cs := #[.string (⟨#[]⟩ : ByteArray), .string (⟨#[]⟩ : ByteArray), .string (⟨#[]⟩ : ByteArray)]) (t := 51) ?hr ?_; (case hd => rfl); (case hg => rfl); (case hr => first | (go_simp; done) | (go_simp; rfl)); intro gb122 hg w3 hbox hb; have n0_ := Aside0.mk (below_step (by repeat (first | (with_reducible first | exact HB.out | apply below_alloc | apply pw_below_drewN | apply below_drew1) | exact HB.out)) hb); have n1_ := Aside0.mk (hbox); have n2_ := Aside0.mk ((by rw [hg]; exact (below_size (by repeat (first | (with_reducible first | exact HB.out | apply below_alloc | apply pw_below_drewN | apply below_drew1) | exact HB.out))) : w.heap.size ≤ gb122)); have n3_ := Aside0.mk ((by rw [hg]; exact (below_size (by repeat (first | (with_reducible first | exact HB.out | apply below_alloc | apply pw_below_drewN | apply below_drew1) | exact HB.out))) : w.heap.size ≤ gb122)); clear HB; have HB := n0_; have BK122 := n1_; have GW122 := n2_; have GE122 := n3_; clear n0_ n1_ n2_ n3_; clear hb hbox hg))
  go_loopg [6, 13] k (fun kq v6 v13 w' => ∃ (x6_1 : List (S51)) (x13_1 : Int), v13 = .int .i64 x13_1 ∧ Aside0 (schema_GroupVersions_KindForGroupVersionKinds.l0 kq l1 x6_1 l0 (l0.length : Int) x13_1 = some (r1, r2, r3, r4)) ∧ Aside0 (kq ≤ k) ∧ Aside0 (Kd.R k51 51 w' w.heap.size (fun k_ => k_ ≠ gb122) v6 x6_1) ∧ Aside0 (w'.heap[gb122]? = some (.cells #[.string (⟨#[]⟩ : ByteArray), .string (⟨#[]⟩ : ByteArray), .string (⟨#[]⟩ : ByteArray)] 51 (0, 0))) ∧ Aside0 (Below w.heap.size w w'))
  case atStart => exact ⟨(([] : List (S51))), (0), (by first | rfl | (simp; done) | (simp [*]; done)), H', ⟨Nat.le_refl _⟩, ⟨by first | exact Kd.R_nil _ _ _ _ _ | exact Kd.N_nil _ _ _ _ _ | exact Kd.V_nil _ _ _ _ _ | exact Kd.Q_nil _ _ _ _ _ | exact Kd.S_nil _ _ _ _ _⟩, ⟨by (with_reducible repeat (first | refine blk_drewN ?_ _ | refine blk_drew ?_ | refine blk_alloc ?_ _)); exact BK122.out⟩, ⟨by repeat (first | (with_reducible first | exact HB.out | apply below_alloc | apply pw_below_drewN | apply below_drew1 | refine below_set ?_ GE122.out) | exact HB.out)⟩⟩
  case round =>
    clear H'
    try clear c1
    try clear p2
    obtain ⟨x6_1, x13_1, rfl, HA, HK1, HO_6, BK122, HB⟩ := hrel
    cases gk with
    | zero => exact absurd HA.out (by simp [schema_GroupVersions_KindForGroupVersionKinds.l0])
    | succ k1 =>
      have H := HA.out
      clear HA
      simp only [schema_GroupVersions_KindForGroupVersionKinds.l0] at H
      by_cases c4 : x13_1 < (l0.length : Int)
      · rw [if_pos c4] at H
        have c4b0 : decide (x13_1 < (l0.length : Int)) = true := decide_eq_true c4
        clear c4
        by_cases c5 : 0 ≤ x13_1
        · rw [if_pos c5] at H
          have c5b0 : decide (0 ≤ x13_1) = true := decide_eq_true c5
          clear c5
          by_cases c6 : x13_1 < (l0.length : Int)
          · rw [if_pos c6] at H
            have c6b0 : decide (x13_1 < (l0.length : Int)) = true := decide_eq_true c6
            clear c6
            replace H := Option.bind_eq_some_iff.mp H
            obtain ⟨⟨t125, t126, t127, t128⟩, A70, H⟩ := H
            replace H : (if t128 = true then (if x6_1.length < 2932031007402 then (schema_GroupVersions_KindForGroupVersionKinds.l0 k1 l1 (x6_1 ++ [(⟨t125, t126, t127⟩ : S51)]) l0 (l0.length : Int) (wrap64 (x13_1 + 1))) else (none)) else (schema_GroupVersions_KindForGroupVersionKinds.l0 k1 l1 x6_1 l0 (l0.length : Int) (wrap64 (x13_1 + 1)))) = some (r1, r2, r3, r4) := H
            have A7 := Aside0.mk A70
            clear A70
            by_cases c8 : t128 = true
            · subst c8
              have H1 : (if x6_1.length < 2932031007402 then (schema_GroupVersions_KindForGroupVersionKinds.l0 k1 l1 (x6_1 ++ [(⟨t125, t126, t127⟩ : S51)]) l0 (l0.length : Int) (wrap64 (x13_1 + 1))) else (none)) = some (r1, r2, r3, r4) := by rw [if_pos rfl] at H; exact H
              clear H
              have H := H1
              clear H1
              by_cases c9 : x6_1.length < 2932031007402
              · rw [if_pos c9] at H
                have LMc9 := Aside0.mk c9
                clear c9
                obtain ⟨y130, hy130⟩ : ∃ y_ : List (S51), y_ = (x6_1 ++ [(⟨t125, t126, t127⟩ : S51)]) := ⟨_, rfl⟩
                replace H : (schema_GroupVersions_KindForGroupVersionKinds.l0 k1 l1 y130 l0 (l0.length : Int) (wrap64 (x13_1 + 1))) = some (r1, r2, r3, r4) := by first | (rw [hy130]; with_reducible exact H) | (have H2_ := (Option.bind_some _ _).symm.trans H; rw [hy130]; with_reducible exact H2_) | (have H2_ := (Option.bind_some _ _).symm.trans H; with_reducible exact H2_) | with_reducible exact H | (rw [hy130]; exact H) | exact H
                have Ny130 := Aside0.mk hy130
                clear hy130
                have H' := Aside0.mk H
                clear H
                have p123 : 0 ≤ (x13_1 : Int) := of_decide_eq_true (by first | (with_reducible assumption) | assumption)
                have q123 : x13_1 < (l0.length : Int) := of_decide_eq_true (by first | (with_reducible assumption) | assumption)
                obtain ⟨ad123, e123, hx123_0, hx123_1⟩ := at_T44 HR0.out x13_1 p123 q123
                cases e123
                replace hx123_0 := (HB.out.cell (World.block_lt_of_cell? w _ hx123_0)).trans hx123_0
                replace hx123_1 := (HB.out.cell (World.block_lt_of_cell? w _ hx123_1)).trans hx123_1
                replace p123 := eq_true p123
                replace q123 := eq_true q123
                go_wp2_with (first | ((with_reducible refine gate_dst (N := 8) rfl ?_); refine box_event ?hg (N := 8) ?hd (cs := #[.string (⟨#[]⟩ : ByteArray), .string (⟨#[]⟩ : ByteArray)]) (t := 44) ?hr ?_; (case hd => rfl); (case hg => rfl); (case hr => first | (go_simp; done) | (go_simp; rfl)); intro gb124 hg w10 hbox hb; have n0_ := Aside0.mk (Kd.R_below (by (with_reducible repeat (first | apply Kd.R_alloc | apply Kd.R_drewN | apply Kd.R_drew)); exact HO_6.out) hb); have n1_ := Aside0.mk (blk_below (g := gb122) (o := .cells #[.string (⟨#[]⟩ : ByteArray), .string (⟨#[]⟩ : ByteArray), .string (⟨#[]⟩ : ByteArray)] 51 (0, 0)) (by (with_reducible repeat (first | refine blk_drewN ?_ _ | refine blk_drew ?_ | refine blk_alloc ?_ _)); exact BK122.out) hb); have n2_ := Aside0.mk (below_step (by repeat (first | (with_reducible first | exact HB.out | apply below_alloc | apply pw_below_drewN | apply below_drew1 | refine below_set ?_ GE122.out) | exact HB.out)) hb); have n3_ := Aside0.mk (hbox); have n4_ := Aside0.mk ((by rw [hg]; exact (below_size (by repeat (first | (with_reducible first | exact HB.out | apply below_alloc | apply pw_below_drewN | apply below_drew1 | refine below_set ?_ GE122.out) | exact HB.out))) : w.heap.size ≤ gb124)); have n5_ := Aside0.mk ((by rw [hg]; exact (below_size (by repeat (first | (with_reducible first | exact HB.out | apply below_alloc | apply pw_below_drewN | apply below_drew1 | refine below_set ?_ GE122.out) | exact HB.out))) : w.heap.size ≤ gb124)); have n6_ := Aside0.mk ((by rw [hg]; exact Nat.ne_of_lt (blk_lt (g := gb122) (o := .cells #[.string (⟨#[]⟩ : ByteArray), .string (⟨#[]⟩ : ByteArray), .string (⟨#[]⟩ : ByteArray)] 51 (0, 0)) (by (with_reducible repeat (first | refine blk_drewN ?_ _ | refine blk_drew ?_ | refine blk_alloc ?_ _)); exact BK122.out)) : gb122 ≠ gb124)); have n7_ := Aside0.mk ((by rw [hg]; exact Nat.ne_of_gt (blk_lt (g := gb122) (o := .cells #[.string (⟨#[]⟩ : ByteArray), .string (⟨#[]⟩ : ByteArray), .string (⟨#[]⟩ : ByteArray)] 51 (0, 0)) (by (with_reducible repeat (first | refine blk_drewN ?_ _ | refine blk_drew ?_ | refine blk_alloc ?_ _)); exact BK122.out)) : gb124 ≠ gb122)); clear HO_6; clear BK122; clear HB; have HO_6 := n0_; have BK122 := n1_; have HB := n2_; have BK124 := n3_; have GW124 := n4_; have GE124 := n5_; have NB122_124 := n6_; have NB124_122 := n7_; clear n0_ n1_ n2_ n3_ n4_ n5_ n6_ n7_; clear hb hbox hg; have hnb11 := NB124_122.out; have hnc11 := NB122_124.out; have hcz12_0 : w10.cell? ⟨gb124, 0, none⟩ = some (.string (⟨#[]⟩ : ByteArray)) := (blk_cell BK124.out 0).trans rfl; have hcz12_1 : w10.cell? ⟨gb124, 1, none⟩ = some (.string (⟨#[]⟩ : ByteArray)) := (blk_cell BK124.out 1).trans rfl; have hfz12_0 := blk_frozen BK124.out 0; have hfz12_1 := blk_frozen BK124.out 1) | ((with_reducible refine gate_callee (f := 48) rfl ?_); refine goesL_ (some 20) rfl rfl Try.func48 (by kernel_rfl) rfl #[.agg #[.string ((rd_T44 l0 x13_1).f0), .string ((rd_T44 l0 x13_1).f1)], .slice A1 l1.length c1] rfl (by (try simp only [List.map_toArray, List.map_cons, List.map_nil]); first | done | rfl | (simp only [List.length_drop, List.length_take]; rfl)) ?_; (with_reducible refine (schema_GroupVersion_KindForGroupVersionKinds.calls k1 ((rd_T44 l0 x13_1).f0) ((rd_T44 l0 x13_1).f1) _ _ l1 t125 t126 t127 true _ ?side1 ?side2 A7.out).mono ?_); (case side1 => exact Kd.C_below HR1.out (by repeat (first | (with_reducible first | exact HB.out | apply below_alloc | apply pw_below_drewN | apply below_drew1 | refine below_set ?_ GE122.out | refine below_set ?_ GE124.out) | exact HB.out))); (case side2 => exact HC1.out); rintro e w13 ⟨rfl, hb⟩; refine ⟨_, rfl, ?_⟩; have n0_ := Aside0.mk (Kd.R_below (by (with_reducible repeat (first | apply Kd.R_alloc | apply Kd.R_drewN | apply Kd.R_drew)); exact (Kd.R_mono (Kd.R_far (p := ⟨gb124, 1, none⟩) (Kd.R_far (p := ⟨gb124, 0, none⟩) (Kd.R_types HO_6.out BK124.out (by decide)) (fun _ hk => hk.2) (.string ((rd_T44 l0 x13_1).f0))) (fun _ hk => hk.2) (.string ((rd_T44 l0 x13_1).f1))) (fun _ h_ => h_.1))) hb); have n1_ := Aside0.mk (blk_below (g := gb122) (o := .cells #[.string (⟨#[]⟩ : ByteArray), .string (⟨#[]⟩ : ByteArray), .string (⟨#[]⟩ : ByteArray)] 51 (0, 0)) (by (with_reducible repeat (first | refine blk_drewN ?_ _ | refine blk_drew ?_ | refine blk_alloc ?_ _)); refine blk_far ?_ NB122_124.out _; (with_reducible repeat (first | refine blk_drewN ?_ _ | refine blk_drew ?_ | refine blk_alloc ?_ _)); refine blk_far ?_ NB122_124.out _; (with_reducible repeat (first | refine blk_drewN ?_ _ | refine blk_drew ?_ | refine blk_alloc ?_ _)); exact BK122.out) hb); have n2_ := Aside0.mk (blk_below (g := gb124) (o := .cells #[.string ((rd_T44 l0 x13_1).f0), .string ((rd_T44 l0 x13_1).f1)] 44 (0, 0)) (by (with_reducible repeat (first | refine blk_drewN ?_ _ | refine blk_drew ?_ | refine blk_alloc ?_ _)); refine blk_put (cs := #[.string ((rd_T44 l0 x13_1).f0), .string (⟨#[]⟩ : ByteArray)]) ?_ 1 _ rfl; (with_reducible repeat (first | refine blk_drewN ?_ _ | refine blk_drew ?_ | refine blk_alloc ?_ _)); refine blk_put (cs := #[.string (⟨#[]⟩ : ByteArray), .string (⟨#[]⟩ : ByteArray)]) ?_ 0 _ rfl; (with_reducible repeat (first | refine blk_drewN ?_ _ | refine blk_drew ?_ | refine blk_alloc ?_ _)); exact BK124.out) hb); have n3_ := Aside0.mk (below_step (by repeat (first | (with_reducible first | exact HB.out | apply below_alloc | apply pw_below_drewN | apply below_drew1 | refine below_set ?_ GE122.out | refine below_set ?_ GE124.out) | exact HB.out)) hb); clear HO_6; clear BK122; clear BK124; clear HB; have HO_6 := n0_; have BK122 := n1_; have BK124 := n2_; have HB := n3_; clear n0_ n1_ n2_ n3_; (try clear hb); (try clear hb2); (try clear hk); (try clear hi)) | ((with_reducible refine gate_dst (N := 9) rfl ?_); refine box_event ?hg (N := 9) ?hd (cs := #[.string (⟨#[]⟩ : ByteArray), .string (⟨#[]⟩ : ByteArray), .string (⟨#[]⟩ : ByteArray)]) (t := 51) ?hr ?_; (case hd => rfl); (case hg => rfl); (case hr => first | (go_simp; done) | (go_simp; rfl)); intro gb129 hg w14 hbox hb; have n0_ := Aside0.mk (Kd.R_below (Kd.R_elderB (by (with_reducible repeat (first | apply Kd.R_alloc | apply Kd.R_drewN | apply Kd.R_drew)); exact HO_6.out) gb129 (Nat.le_of_eq hg.symm)) hb); have n1_ := Aside0.mk (blk_below (g := gb122) (o := .cells #[.string (⟨#[]⟩ : ByteArray), .string (⟨#[]⟩ : ByteArray), .string (⟨#[]⟩ : ByteArray)] 51 (0, 0)) (by (with_reducible repeat (first | refine blk_drewN ?_ _ | refine blk_drew ?_ | refine blk_alloc ?_ _)); exact BK122.out) hb); have n2_ := Aside0.mk (blk_below (g := gb124) (o := .cells #[.string ((rd_T44 l0 x13_1).f0), .string ((rd_T44 l0 x13_1).f1)] 44 (0, 0)) (by (with_reducible repeat (first | refine blk_drewN ?_ _ | refine blk_drew ?_ | refine blk_alloc ?_ _)); exact BK124.out) hb); have n3_ := Aside0.mk (below_step (by repeat (first | (with_reducible first | exact HB.out | apply below_alloc | apply pw_below_drewN | apply below_drew1 | refine below_set ?_ GE122.out | refine below_set ?_ GE124.out) | exact HB.out)) hb); have n4_ := Aside0.mk (hbox); have n5_ := Aside0.mk ((by rw [hg]; exact (below_size (by repeat (first | (with_reducible first | exact HB.out | apply below_alloc | apply pw_below_drewN | apply below_drew1 | refine below_set ?_ GE122.out | refine below_set ?_ GE124.out) | exact HB.out))) : w.heap.size ≤ gb129)); have n6_ := Aside0.mk ((by rw [hg]; exact (below_size (by repeat (first | (with_reducible first | exact HB.out | apply below_alloc | apply pw_below_drewN | apply below_drew1 | refine below_set ?_ GE122.out | refine below_set ?_ GE124.out) | exact HB.out))) : w.heap.size ≤ gb129)); have n7_ := Aside0.mk ((by rw [hg]; exact Nat.ne_of_lt (blk_lt (g := gb122) (o := .cells #[.string (⟨#[]⟩ : ByteArray), .string (⟨#[]⟩ : ByteArray), .string (⟨#[]⟩ : ByteArray)] 51 (0, 0)) (by (with_reducible repeat (first | refine blk_drewN ?_ _ | refine blk_drew ?_ | refine blk_alloc ?_ _)); exact BK122.out)) : gb122 ≠ gb129)); have n8_ := Aside0.mk ((by rw [hg]; exact Nat.ne_of_gt (blk_lt (g := gb122) (o := .cells #[.string (⟨#[]⟩ : ByteArray), .string (⟨#[]⟩ : ByteArray), .string (⟨#[]⟩ : ByteArray)] 51 (0, 0)) (by (with_reducible repeat (first | refine blk_drewN ?_ _ | refine blk_drew ?_ | refine blk_alloc ?_ _)); exact BK122.out)) : gb129 ≠ gb122)); have n9_ := Aside0.mk ((by rw [hg]; exact Nat.ne_of_lt (blk_lt (g := gb124) (o := .cells #[.string ((rd_T44 l0 x13_1).f0), .string ((rd_T44 l0 x13_1).f1)] 44 (0, 0)) (by (with_reducible repeat (first | refine blk_drewN ?_ _ | refine blk_drew ?_ | refine blk_alloc ?_ _)); exact BK124.out)) : gb124 ≠ gb129)); have n10_ := Aside0.mk ((by rw [hg]; exact Nat.ne_of_gt (blk_lt (g := gb124) (o := .cells #[.string ((rd_T44 l0 x13_1).f0), .string ((rd_T44 l0 x13_1).f1)] 44 (0, 0)) (by (with_reducible repeat (first | refine blk_drewN ?_ _ | refine blk_drew ?_ | refine blk_alloc ?_ _)); exact BK124.out)) : gb129 ≠ gb124)); clear HO_6; clear BK122; clear BK124; clear HB; have HO_6 := n0_; have BK122 := n1_; have BK124 := n2_; have HB := n3_; have BK129 := n4_; have GW129 := n5_; have GE129 := n6_; have NB122_129 := n7_; have NB129_122 := n8_; have NB124_129 := n9_; have NB129_124 := n10_; clear n0_ n1_ n2_ n3_ n4_ n5_ n6_ n7_ n8_ n9_ n10_; clear hb hbox hg; have hnb15 := NB129_122.out; have hnc15 := NB122_129.out; have hnb16 := NB129_124.out; have hnc16 := NB124_129.out; have hcz17_0 : w14.cell? ⟨gb129, 0, none⟩ = some (.string (⟨#[]⟩ : ByteArray)) := (blk_cell BK129.out 0).trans rfl; have hcz17_1 : w14.cell? ⟨gb129, 1, none⟩ = some (.string (⟨#[]⟩ : ByteArray)) := (blk_cell BK129.out 1).trans rfl; have hcz17_2 : w14.cell? ⟨gb129, 2, none⟩ = some (.string (⟨#[]⟩ : ByteArray)) := (blk_cell BK129.out 2).trans rfl; have hfz17_0 := blk_frozen BK129.out 0; have hfz17_1 := blk_frozen BK129.out 1; have hfz17_2 := blk_frozen BK129.out 2) | ((with_reducible refine gate_builtin (b := .append) (xs := #[.tmp 25, .tmp 27]) rfl ?_); at_builtin; refine Kd.R_append k51 (w0 := w) w.heap.size rfl (.tmp 25) (.tmp 27) 69 51 (.agg #[(.string ⟨#[]⟩), (.string ⟨#[]⟩), (.string ⟨#[]⟩)]) 48 rfl Try.underlying69 info51 rfl (by decide) (by omega) u6 x6_1 (⟨t125, t126, t127⟩ : S51) [.string t125, .string t126, .string t127] (fun k_ => k_ ≠ gb122 ∧ k_ ≠ gb129) (fun _ => False) rfl (by first | (go_simp; done) | (go_simp; rfl)) ?aP (fun _ hk => hk.elim) ?aF ?aO ?aB ?aS ?aL ?_; (case aP => exact k51_mkM _ _ _ (⟨t125, t126, t127⟩ : S51)); (case aB => exact (by repeat (first | (with_reducible first | exact HB.out | apply below_alloc | apply pw_below_drewN | apply below_drew1 | refine below_set ?_ GE122.out | refine below_set ?_ GE124.out | refine below_set ?_ GE129.out) | exact HB.out))); (case aF => exact (fun k_ hk => ⟨Kd.freshB (g := gb122) (o := .cells #[.string (⟨#[]⟩ : ByteArray), .string (⟨#[]⟩ : ByteArray), .string (⟨#[]⟩ : ByteArray)] 51 (0, 0)) (by (with_reducible repeat (first | refine blk_drewN ?_ _ | refine blk_drew ?_ | refine blk_alloc ?_ _)); refine blk_far ?_ NB122_129.out _; (with_reducible repeat (first | refine blk_drewN ?_ _ | refine blk_drew ?_ | refine blk_alloc ?_ _)); refine blk_far ?_ NB122_129.out _; (with_reducible repeat (first | refine blk_drewN ?_ _ | refine blk_drew ?_ | refine blk_alloc ?_ _)); refine blk_far ?_ NB122_129.out _; (with_reducible repeat (first | refine blk_drewN ?_ _ | refine blk_drew ?_ | refine blk_alloc ?_ _)); exact BK122.out) k_ hk, Kd.freshB (g := gb129) (o := .cells #[.string t125, .string t126, .string t127] 51 (0, 0)) (by (with_reducible repeat (first | refine blk_drewN ?_ _ | refine blk_drew ?_ | refine blk_alloc ?_ _)); refine blk_put (cs := #[.string t125, .string t126, .string (⟨#[]⟩ : ByteArray)]) ?_ 2 _ rfl; (with_reducible repeat (first | refine blk_drewN ?_ _ | refine blk_drew ?_ | refine blk_alloc ?_ _)); refine blk_put (cs := #[.string t125, .string (⟨#[]⟩ : ByteArray), .string (⟨#[]⟩ : ByteArray)]) ?_ 1 _ rfl; (with_reducible repeat (first | refine blk_drewN ?_ _ | refine blk_drew ?_ | refine blk_alloc ?_ _)); refine blk_put (cs := #[.string (⟨#[]⟩ : ByteArray), .string (⟨#[]⟩ : ByteArray), .string (⟨#[]⟩ : ByteArray)]) ?_ 0 _ rfl; (with_reducible repeat (first | refine blk_drewN ?_ _ | refine blk_drew ?_ | refine blk_alloc ?_ _)); exact BK129.out) k_ hk⟩)); (case aO => exact (by (with_reducible repeat (first | apply Kd.R_alloc | apply Kd.R_drewN | apply Kd.R_drew)); exact Kd.R_mono (Kd.R_far (p := ⟨gb129, 2, none⟩) (Kd.R_far (p := ⟨gb129, 1, none⟩) (Kd.R_far (p := ⟨gb129, 0, none⟩) (Kd.R_mono HO_6.out (fun k_ hk => (⟨hk, hk.2⟩ : _ ∧ k_ ≠ gb129))) (fun _ hk => hk.2) (.string t125)) (fun _ hk => hk.2) (.string t126)) (fun _ hk => hk.2) (.string t127)) (fun _ hk => ⟨hk.1.1, hk.1.2⟩))); (case aS => exact (below_size (by repeat (first | (with_reducible first | exact HB.out | apply below_alloc | apply pw_below_drewN | apply below_drew1 | refine below_set ?_ GE122.out | refine below_set ?_ GE124.out | refine below_set ?_ GE129.out) | exact HB.out)))); (case aL => have := LMc9.out; omega); intro v131 w18 ho hb hg hat; rw [← Ny130.out] at ho; have n0_ := Aside0.mk (blk_grown (g := gb122) (o := .cells #[.string (⟨#[]⟩ : ByteArray), .string (⟨#[]⟩ : ByteArray), .string (⟨#[]⟩ : ByteArray)] 51 (0, 0)) (by (with_reducible repeat (first | refine blk_drewN ?_ _ | refine blk_drew ?_ | refine blk_alloc ?_ _)); refine blk_far ?_ NB122_129.out _; (with_reducible repeat (first | refine blk_drewN ?_ _ | refine blk_drew ?_ | refine blk_alloc ?_ _)); refine blk_far ?_ NB122_129.out _; (with_reducible repeat (first | refine blk_drewN ?_ _ | refine blk_drew ?_ | refine blk_alloc ?_ _)); refine blk_far ?_ NB122_129.out _; (with_reducible repeat (first | refine blk_drewN ?_ _ | refine blk_drew ?_ | refine blk_alloc ?_ _)); exact BK122.out) hg (Kd.R_away HO_6.out (fun _ hk => hk.1))); have n1_ := Aside0.mk (blk_grown (g := gb124) (o := .cells #[.string ((rd_T44 l0 x13_1).f0), .string ((rd_T44 l0 x13_1).f1)] 44 (0, 0)) (by (with_reducible repeat (first | refine blk_drewN ?_ _ | refine blk_drew ?_ | refine blk_alloc ?_ _)); refine blk_far ?_ NB124_129.out _; (with_reducible repeat (first | refine blk_drewN ?_ _ | refine blk_drew ?_ | refine blk_alloc ?_ _)); refine blk_far ?_ NB124_129.out _; (with_reducible repeat (first | refine blk_drewN ?_ _ | refine blk_drew ?_ | refine blk_alloc ?_ _)); refine blk_far ?_ NB124_129.out _; (with_reducible repeat (first | refine blk_drewN ?_ _ | refine blk_drew ?_ | refine blk_alloc ?_ _)); exact BK124.out) hg (Kd.R_ne HO_6.out BK124.out (by decide))); have n2_ := Aside0.mk (blk_grown (g := gb129) (o := .cells #[.string t125, .string t126, .string t127] 51 (0, 0)) (by (with_reducible repeat (first | refine blk_drewN ?_ _ | refine blk_drew ?_ | refine blk_alloc ?_ _)); refine blk_put (cs := #[.string t125, .string t126, .string (⟨#[]⟩ : ByteArray)]) ?_ 2 _ rfl; (with_reducible repeat (first | refine blk_drewN ?_ _ | refine blk_drew ?_ | refine blk_alloc ?_ _)); refine blk_put (cs := #[.string t125, .string (⟨#[]⟩ : ByteArray), .string (⟨#[]⟩ : ByteArray)]) ?_ 1 _ rfl; (with_reducible repeat (first | refine blk_drewN ?_ _ | refine blk_drew ?_ | refine blk_alloc ?_ _)); refine blk_put (cs := #[.string (⟨#[]⟩ : ByteArray), .string (⟨#[]⟩ : ByteArray), .string (⟨#[]⟩ : ByteArray)]) ?_ 0 _ rfl; (with_reducible repeat (first | refine blk_drewN ?_ _ | refine blk_drew ?_ | refine blk_alloc ?_ _)); exact BK129.out) hg (Kd.R_away HO_6.out (fun _ hk => hk.2))); have n3_ := Aside0.mk (hb); have n4_ := Aside0.mk (ho); clear BK122; clear BK124; clear BK129; clear HB; clear HO_6; have BK122 := n0_; have BK124 := n1_; have BK129 := n2_; have HB := n3_; have HO132 := n4_; clear n0_ n1_ n2_ n3_ n4_; clear ho hb hg hat))
                go_roundg k1
                case measure => have := HK1.out; omega
                case rel => exact ⟨(y130), (wrap64 (x13_1 + 1)), (by first | rfl | (simp; done) | (simp [*]; done)), H', ⟨by have := HK1.out; omega⟩, ⟨by (with_reducible repeat (first | apply Kd.R_alloc | apply Kd.R_drewN | apply Kd.R_drew)); exact Kd.R_mono HO132.out (fun _ hk => hk.1)⟩, ⟨by (with_reducible repeat (first | refine blk_drewN ?_ _ | refine blk_drew ?_ | refine blk_alloc ?_ _)); exact BK122.out⟩, ⟨by repeat (first | (with_reducible first | exact HB.out | apply below_alloc | apply pw_below_drewN | apply below_drew1 | refine below_set ?_ GE122.out | refine below_set ?_ GE124.out | refine below_set ?_ GE129.out) | exact HB.out)⟩⟩
              · rw [if_neg c9] at H
                exact absurd H (by simp)
            · replace c8 := Bool.eq_false_iff.mpr c8
              subst c8
              have H1 : (schema_GroupVersions_KindForGroupVersionKinds.l0 k1 l1 x6_1 l0 (l0.length : Int) (wrap64 (x13_1 + 1))) = some (r1, r2, r3, r4) := by rw [if_neg (show ¬ (false = true) by decide)] at H; exact H
              clear H
              have H := H1
              clear H1
              have H' := Aside0.mk H
              clear H
              have p123 : 0 ≤ (x13_1 : Int) := of_decide_eq_true (by first | (with_reducible assumption) | assumption)
              have q123 : x13_1 < (l0.length : Int) := of_decide_eq_true (by first | (with_reducible assumption) | assumption)
              obtain ⟨ad123, e123, hx123_0, hx123_1⟩ := at_T44 HR0.out x13_1 p123 q123
              cases e123
              replace hx123_0 := (HB.out.cell (World.block_lt_of_cell? w _ hx123_0)).trans hx123_0
              replace hx123_1 := (HB.out.cell (World.block_lt_of_cell? w _ hx123_1)).trans hx123_1
              replace p123 := eq_true p123
              replace q123 := eq_true q123
              go_wp2_with (first | ((with_reducible refine gate_dst (N := 8) rfl ?_); refine box_event ?hg (N := 8) ?hd (cs := #[.string (⟨#[]⟩ : ByteArray), .string (⟨#[]⟩ : ByteArray)]) (t := 44) ?hr ?_; (case hd => rfl); (case hg => rfl); (case hr => first | (go_simp; done) | (go_simp; rfl)); intro gb124 hg w19 hbox hb; have n0_ := Aside0.mk (Kd.R_below (by (with_reducible repeat (first | apply Kd.R_alloc | apply Kd.R_drewN | apply Kd.R_drew)); exact HO_6.out) hb); have n1_ := Aside0.mk (blk_below (g := gb122) (o := .cells #[.string (⟨#[]⟩ : ByteArray), .string (⟨#[]⟩ : ByteArray), .string (⟨#[]⟩ : ByteArray)] 51 (0, 0)) (by (with_reducible repeat (first | refine blk_drewN ?_ _ | refine blk_drew ?_ | refine blk_alloc ?_ _)); exact BK122.out) hb); have n2_ := Aside0.mk (below_step (by repeat (first | (with_reducible first | exact HB.out | apply below_alloc | apply pw_below_drewN | apply below_drew1 | refine below_set ?_ GE122.out) | exact HB.out)) hb); have n3_ := Aside0.mk (hbox); have n4_ := Aside0.mk ((by rw [hg]; exact (below_size (by repeat (first | (with_reducible first | exact HB.out | apply below_alloc | apply pw_below_drewN | apply below_drew1 | refine below_set ?_ GE122.out) | exact HB.out))) : w.heap.size ≤ gb124)); have n5_ := Aside0.mk ((by rw [hg]; exact (below_size (by repeat (first | (with_reducible first | exact HB.out | apply below_alloc | apply pw_below_drewN | apply below_drew1 | refine below_set ?_ GE122.out) | exact HB.out))) : w.heap.size ≤ gb124)); have n6_ := Aside0.mk ((by rw [hg]; exact Nat.ne_of_lt (blk_lt (g := gb122) (o := .cells #[.string (⟨#[]⟩ : ByteArray), .string (⟨#[]⟩ : ByteArray), .string (⟨#[]⟩ : ByteArray)] 51 (0, 0)) (by (with_reducible repeat (first | refine blk_drewN ?_ _ | refine blk_drew ?_ | refine blk_alloc ?_ _)); exact BK122.out)) : gb122 ≠ gb124)); have n7_ := Aside0.mk ((by rw [hg]; exact Nat.ne_of_gt (blk_lt (g := gb122) (o := .cells #[.string (⟨#[]⟩ : ByteArray), .string (⟨#[]⟩ : ByteArray), .string (⟨#[]⟩ : ByteArray)] 51 (0, 0)) (by (with_reducible repeat (first | refine blk_drewN ?_ _ | refine blk_drew ?_ | refine blk_alloc ?_ _)); exact BK122.out)) : gb124 ≠ gb122)); clear HO_6; clear BK122; clear HB; have HO_6 := n0_; have BK122 := n1_; have HB := n2_; have BK124 := n3_; have GW124 := n4_; have GE124 := n5_; have NB122_124 := n6_; have NB124_122 := n7_; clear n0_ n1_ n2_ n3_ n4_ n5_ n6_ n7_; clear hb hbox hg; have hnb20 := NB124_122.out; have hnc20 := NB122_124.out; have hcz21_0 : w19.cell? ⟨gb124, 0, none⟩ = some (.string (⟨#[]⟩ : ByteArray)) := (blk_cell BK124.out 0).trans rfl; have hcz21_1 : w19.cell? ⟨gb124, 1, none⟩ = some (.string (⟨#[]⟩ : ByteArray)) := (blk_cell BK124.out 1).trans rfl; have hfz21_0 := blk_frozen BK124.out 0; have hfz21_1 := blk_frozen BK124.out 1) | ((with_reducible refine gate_callee (f := 48) rfl ?_); refine goesL_ (some 20) rfl rfl Try.func48 (by kernel_rfl) rfl #[.agg #[.string ((rd_T44 l0 x13_1).f0), .string ((rd_T44 l0 x13_1).f1)], .slice A1 l1.length c1] rfl (by (try simp only [List.map_toArray, List.map_cons, List.map_nil]); first | done | rfl | (simp only [List.length_drop, List.length_take]; rfl)) ?_; (with_reducible refine (schema_GroupVersion_KindForGroupVersionKinds.calls k1 ((rd_T44 l0 x13_1).f0) ((rd_T44 l0 x13_1).f1) _ _ l1 t125 t126 t127 false _ ?side1 ?side2 A7.out).mono ?_); (case side1 => exact Kd.C_below HR1.out (by repeat (first | (with_reducible first | exact HB.out | apply below_alloc | apply pw_below_drewN | apply below_drew1 | refine below_set ?_ GE122.out | refine below_set ?_ GE124.out) | exact HB.out))); (case side2 => exact HC1.out); rintro e w22 ⟨rfl, hb⟩; refine ⟨_, rfl, ?_⟩; have n0_ := Aside0.mk (Kd.R_below (by (with_reducible repeat (first | apply Kd.R_alloc | apply Kd.R_drewN | apply Kd.R_drew)); exact (Kd.R_mono (Kd.R_far (p := ⟨gb124, 1, none⟩) (Kd.R_far (p := ⟨gb124, 0, none⟩) (Kd.R_types HO_6.out BK124.out (by decide)) (fun _ hk => hk.2) (.string ((rd_T44 l0 x13_1).f0))) (fun _ hk => hk.2) (.string ((rd_T44 l0 x13_1).f1))) (fun _ h_ => h_.1))) hb); have n1_ := Aside0.mk (blk_below (g := gb122) (o := .cells #[.string (⟨#[]⟩ : ByteArray), .string (⟨#[]⟩ : ByteArray), .string (⟨#[]⟩ : ByteArray)] 51 (0, 0)) (by (with_reducible repeat (first | refine blk_drewN ?_ _ | refine blk_drew ?_ | refine blk_alloc ?_ _)); refine blk_far ?_ NB122_124.out _; (with_reducible repeat (first | refine blk_drewN ?_ _ | refine blk_drew ?_ | refine blk_alloc ?_ _)); refine blk_far ?_ NB122_124.out _; (with_reducible repeat (first | refine blk_drewN ?_ _ | refine blk_drew ?_ | refine blk_alloc ?_ _)); exact BK122.out) hb); have n2_ := Aside0.mk (blk_below (g := gb124) (o := .cells #[.string ((rd_T44 l0 x13_1).f0), .string ((rd_T44 l0 x13_1).f1)] 44 (0, 0)) (by (with_reducible repeat (first | refine blk_drewN ?_ _ | refine blk_drew ?_ | refine blk_alloc ?_ _)); refine blk_put (cs := #[.string ((rd_T44 l0 x13_1).f0), .string (⟨#[]⟩ : ByteArray)]) ?_ 1 _ rfl; (with_reducible repeat (first | refine blk_drewN ?_ _ | refine blk_drew ?_ | refine blk_alloc ?_ _)); refine blk_put (cs := #[.string (⟨#[]⟩ : ByteArray), .string (⟨#[]⟩ : ByteArray)]) ?_ 0 _ rfl; (with_reducible repeat (first | refine blk_drewN ?_ _ | refine blk_drew ?_ | refine blk_alloc ?_ _)); exact BK124.out) hb); have n3_ := Aside0.mk (below_step (by repeat (first | (with_reducible first | exact HB.out | apply below_alloc | apply pw_below_drewN | apply below_drew1 | refine below_set ?_ GE122.out | refine below_set ?_ GE124.out) | exact HB.out)) hb); clear HO_6; clear BK122; clear BK124; clear HB; have HO_6 := n0_; have BK122 := n1_; have BK124 := n2_; have HB := n3_; clear n0_ n1_ n2_ n3_; (try clear hb); (try clear hb2); (try clear hk); (try clear hi)) | ((with_reducible refine gate_dst (N := 9) rfl ?_); refine box_event ?hg (N := 9) ?hd (cs := #[.string (⟨#[]⟩ : ByteArray), .string (⟨#[]⟩ : ByteArray), .string (⟨#[]⟩ : ByteArray)]) (t := 51) ?hr ?_; (case hd => rfl); (case hg => rfl); (case hr => first | (go_simp; done) | (go_simp; rfl)); intro gb129 hg w23 hbox hb; have n0_ := Aside0.mk (Kd.R_below (Kd.R_elderB (by (with_reducible repeat (first | apply Kd.R_alloc | apply Kd.R_drewN | apply Kd.R_drew)); exact HO_6.out) gb129 (Nat.le_of_eq hg.symm)) hb); have n1_ := Aside0.mk (blk_below (g := gb122) (o := .cells #[.string (⟨#[]⟩ : ByteArray), .string (⟨#[]⟩ : ByteArray), .string (⟨#[]⟩ : ByteArray)] 51 (0, 0)) (by (with_reducible repeat (first | refine blk_drewN ?_ _ | refine blk_drew ?_ | refine blk_alloc ?_ _)); exact BK122.out) hb); have n2_ := Aside0.mk (blk_below (g := gb124) (o := .cells #[.string ((rd_T44 l0 x13_1).f0), .string ((rd_T44 l0 x13_1).f1)] 44 (0, 0)) (by (with_reducible repeat (first | refine blk_drewN ?_ _ | refine blk_drew ?_ | refine blk_alloc ?_ _)); exact BK124.out) hb); have n3_ := Aside0.mk (below_step (by repeat (first | (with_reducible first | exact HB.out | apply below_alloc | apply pw_below_drewN | apply below_drew1 | refine below_set ?_ GE122.out | refine below_set ?_ GE124.out) | exact HB.out)) hb); have n4_ := Aside0.mk (hbox); have n5_ := Aside0.mk ((by rw [hg]; exact (below_size (by repeat (first | (with_reducible first | exact HB.out | apply below_alloc | apply pw_below_drewN | apply below_drew1 | refine below_set ?_ GE122.out | refine below_set ?_ GE124.out) | exact HB.out))) : w.heap.size ≤ gb129)); have n6_ := Aside0.mk ((by rw [hg]; exact (below_size (by repeat (first | (with_reducible first | exact HB.out | apply below_alloc | apply pw_below_drewN | apply below_drew1 | refine below_set ?_ GE122.out | refine below_set ?_ GE124.out) | exact HB.out))) : w.heap.size ≤ gb129)); have n7_ := Aside0.mk ((by rw [hg]; exact Nat.ne_of_lt (blk_lt (g := gb122) (o := .cells #[.string (⟨#[]⟩ : ByteArray), .string (⟨#[]⟩ : ByteArray), .string (⟨#[]⟩ : ByteArray)] 51 (0, 0)) (by (with_reducible repeat (first | refine blk_drewN ?_ _ | refine blk_drew ?_ | refine blk_alloc ?_ _)); exact BK122.out)) : gb122 ≠ gb129)); have n8_ := Aside0.mk ((by rw [hg]; exact Nat.ne_of_gt (blk_lt (g := gb122) (o := .cells #[.string (⟨#[]⟩ : ByteArray), .string (⟨#[]⟩ : ByteArray), .string (⟨#[]⟩ : ByteArray)] 51 (0, 0)) (by (with_reducible repeat (first | refine blk_drewN ?_ _ | refine blk_drew ?_ | refine blk_alloc ?_ _)); exact BK122.out)) : gb129 ≠ gb122)); have n9_ := Aside0.mk ((by rw [hg]; exact Nat.ne_of_lt (blk_lt (g := gb124) (o := .cells #[.string ((rd_T44 l0 x13_1).f0), .string ((rd_T44 l0 x13_1).f1)] 44 (0, 0)) (by (with_reducible repeat (first | refine blk_drewN ?_ _ | refine blk_drew ?_ | refine blk_alloc ?_ _)); exact BK124.out)) : gb124 ≠ gb129)); have n10_ := Aside0.mk ((by rw [hg]; exact Nat.ne_of_gt (blk_lt (g := gb124) (o := .cells #[.string ((rd_T44 l0 x13_1).f0), .string ((rd_T44 l0 x13_1).f1)] 44 (0, 0)) (by (with_reducible repeat (first | refine blk_drewN ?_ _ | refine blk_drew ?_ | refine blk_alloc ?_ _)); exact BK124.out)) : gb129 ≠ gb124)); clear HO_6; clear BK122; clear BK124; clear HB; have HO_6 := n0_; have BK122 := n1_; have BK124 := n2_; have HB := n3_; have BK129 := n4_; have GW129 := n5_; have GE129 := n6_; have NB122_129 := n7_; have NB129_122 := n8_; have NB124_129 := n9_; have NB129_124 := n10_; clear n0_ n1_ n2_ n3_ n4_ n5_ n6_ n7_ n8_ n9_ n10_; clear hb hbox hg; have hnb24 := NB129_122.out; have hnc24 := NB122_129.out; have hnb25 := NB129_124.out; have hnc25 := NB124_129.out; have hcz26_0 : w23.cell? ⟨gb129, 0, none⟩ = some (.string (⟨#[]⟩ : ByteArray)) := (blk_cell BK129.out 0).trans rfl; have hcz26_1 : w23.cell? ⟨gb129, 1, none⟩ = some (.string (⟨#[]⟩ : ByteArray)) := (blk_cell BK129.out 1).trans rfl; have hcz26_2 : w23.cell? ⟨gb129, 2, none⟩ = some (.string (⟨#[]⟩ : ByteArray)) := (blk_cell BK129.out 2).trans rfl; have hfz26_0 := blk_frozen BK129.out 0; have hfz26_1 := blk_frozen BK129.out 1; have hfz26_2 := blk_frozen BK129.out 2))
              go_roundg k1
              case measure => have := HK1.out; omega
              case rel => exact ⟨(x6_1), (wrap64 (x13_1 + 1)), (by first | rfl | (simp; done) | (simp [*]; done)), H', ⟨by have := HK1.out; omega⟩, ⟨by (with_reducible repeat (first | apply Kd.R_alloc | apply Kd.R_drewN | apply Kd.R_drew)); exact Kd.R_mono (Kd.R_far (p := ⟨gb129, 2, none⟩) (Kd.R_far (p := ⟨gb129, 1, none⟩) (Kd.R_far (p := ⟨gb129, 0, none⟩) (Kd.R_mono HO_6.out (fun k_ hk => (⟨hk, hk.2⟩ : _ ∧ k_ ≠ gb129))) (fun _ hk => hk.2) (.string t125)) (fun _ hk => hk.2) (.string t126)) (fun _ hk => hk.2) (.string t127)) (fun _ hk => hk.1.1)⟩, ⟨by (with_reducible repeat (first | refine blk_drewN ?_ _ | refine blk_drew ?_ | refine blk_alloc ?_ _)); refine blk_far ?_ NB122_129.out _; (with_reducible repeat (first | refine blk_drewN ?_ _ | refine blk_drew ?_ | refine blk_alloc ?_ _)); refine blk_far ?_ NB122_129.out _; (with_reducible repeat (first | refine blk_drewN ?_ _ | refine blk_drew ?_ | refine blk_alloc ?_ _)); refine blk_far ?_ NB122_129.out _; (with_reducible repeat (first | refine blk_drewN ?_ _ | refine blk_drew ?_ | refine blk_alloc ?_ _)); exact BK122.out⟩, ⟨by repeat (first | (with_reducible first | exact HB.out | apply below_alloc | apply pw_below_drewN | apply below_drew1 | refine below_set ?_ GE122.out | refine below_set ?_ GE124.out | refine below_set ?_ GE129.out) | exact HB.out)⟩⟩
          · rw [if_neg c6] at H
            exact absurd H (by simp)
        · rw [if_neg c5] at H
          exact absurd H (by simp)
      · rw [if_neg c4] at H
        have c4b0 : decide (x13_1 < (l0.length : Int)) = false := decide_eq_false c4
        clear c4
        by_cases c27 : (x6_1.length : Int) = 1
        · rw [if_pos c27] at H
          have c27b0 : ((x6_1.length : Int) == 1) = true := beq_iff_eq.mpr c27
          have c27b1 : ((x6_1.length : Int) != 1) = false := bne_eq_false_iff_eq.mpr c27
          clear c27
          by_cases c28 : 0 < (x6_1.length : Int)
          · rw [if_pos c28] at H
            have c28b0 : decide (0 < (x6_1.length : Int)) = true := decide_eq_true c28
            have c28b1 : decide (0 < x6_1.length) = true := decide_eq_true (by omega)
            clear c28
            simp only [Option.some.injEq, Prod.mk.injEq] at H
            obtain ⟨rfl, rfl, rfl, rfl⟩ := H
            obtain ⟨Ao29, co29, eo29⟩ := Kd.R_slice HO_6.out
            subst eo29
            have p133 : 0 ≤ (0 : Int) := (by omega)
            have q133 : 0 < (x6_1.length : Int) := of_decide_eq_true (by first | (with_reducible assumption) | assumption)
            obtain ⟨ad133, e133, hx133_0, hx133_1, hx133_2⟩ := at_T51 (Kd.R_reads' HO_6.out).2.2 0 p133 q133
            cases e133
            have qi133 : (0 < x6_1.length) = True := eq_true (by omega)
            (try rw [show ((0 : Int)).toNat = 0 from rfl] at hx133_0)
            (try rw [show 0 * 3 = 0 from rfl] at hx133_0)
            (try rw [Addr.add_zero'] at hx133_0)
            (try rw [show ((0 : Int)).toNat = 0 from rfl] at hx133_1)
            (try rw [show 0 * 3 = 0 from rfl] at hx133_1)
            (try rw [Addr.add_zero'] at hx133_1)
            (try rw [show ((0 : Int)).toNat = 0 from rfl] at hx133_2)
            (try rw [show 0 * 3 = 0 from rfl] at hx133_2)
            (try rw [Addr.add_zero'] at hx133_2)
            replace p133 := eq_true p133
            replace q133 := eq_true q133
            have hcz30_0 : wr.cell? ⟨gb122, 0, none⟩ = some (.string (⟨#[]⟩ : ByteArray)) := (blk_cell BK122.out 0).trans rfl
            have hcz30_1 : wr.cell? ⟨gb122, 1, none⟩ = some (.string (⟨#[]⟩ : ByteArray)) := (blk_cell BK122.out 1).trans rfl
            have hcz30_2 : wr.cell? ⟨gb122, 2, none⟩ = some (.string (⟨#[]⟩ : ByteArray)) := (blk_cell BK122.out 2).trans rfl
            have hfz30_0 := blk_frozen BK122.out 0
            have hfz30_1 := blk_frozen BK122.out 1
            have hfz30_2 := blk_frozen BK122.out 2
            go_wp2
            refine bodyPost_ret (results_ct rfl _ _ gb122 51 #[.string ((rd_T51 x6_1 0).f0), .string ((rd_T51 x6_1 0).f1), .string ((rd_T51 x6_1 0).f2)] (0, 0) _ rfl (by (with_reducible repeat (first | refine blk_drewN ?_ _ | refine blk_drew ?_ | refine blk_alloc ?_ _)); refine blk_put (cs := #[.string ((rd_T51 x6_1 0).f0), .string ((rd_T51 x6_1 0).f1), .string (⟨#[]⟩ : ByteArray)]) ?_ 2 _ rfl; (with_reducible repeat (first | refine blk_drewN ?_ _ | refine blk_drew ?_ | refine blk_alloc ?_ _)); refine blk_put (cs := #[.string ((rd_T51 x6_1 0).f0), .string (⟨#[]⟩ : ByteArray), .string (⟨#[]⟩ : ByteArray)]) ?_ 1 _ rfl; (with_reducible repeat (first | refine blk_drewN ?_ _ | refine blk_drew ?_ | refine blk_alloc ?_ _)); refine blk_put (cs := #[.string (⟨#[]⟩ : ByteArray), .string (⟨#[]⟩ : ByteArray), .string (⟨#[]⟩ : ByteArray)]) ?_ 0 _ rfl; (with_reducible repeat (first | refine blk_drewN ?_ _ | refine blk_drew ?_ | refine blk_alloc ?_ _)); exact BK122.out) Try.underlying51 rfl (by kernel_rfl)) rfl ?_
            exact ⟨by first | rfl | (simp [errW_none, errW_some] <;> rfl) | (simp [*, errW_none, errW_some] <;> rfl), by repeat (first | (with_reducible first | exact HB.out | apply below_alloc | apply pw_below_drewN | apply below_drew1 | refine below_set ?_ GE122.out) | exact HB.out)⟩
          · rw [if_neg c28] at H
            exact absurd H (by simp)
        · rw [if_neg c27] at H
          have c27b0 : ((x6_1.length : Int) == 1) = false := beq_eq_false_iff_ne.mpr c27
          have c27b1 : ((x6_1.length : Int) != 1) = true := bne_iff_ne.mpr c27
          by_cases c31 : (x6_1.length : Int) > 1
          · rw [if_pos c31] at H
            have c31b0 : decide (1 < (x6_1.length : Int)) = true := decide_eq_true c31
            have c31b1 : decide (1 < x6_1.length) = true := decide_eq_true (by omega)
            clear c31
            replace H := Option.bind_eq_some_iff.mp H
            obtain ⟨⟨t134, t135, t136⟩, A320, H⟩ := H
            replace H : (some (t134, t135, t136, true)) = some (r1, r2, r3, r4) := H
            have A32 := Aside0.mk A320
            clear A320
            simp only [Option.some.injEq, Prod.mk.injEq] at H
            obtain ⟨rfl, rfl, rfl, rfl⟩ := H
            obtain ⟨Ao33, co33, eo33⟩ := Kd.R_slice HO_6.out
            subst eo33
            go_wp2_with (first | ((with_reducible refine gate_callee (f := 49) rfl ?_); refine goesL_ (some 41) rfl rfl Try.func49 (by kernel_rfl) rfl #[.slice A1 l1.length c1, .slice Ao33 x6_1.length co33] rfl (by (try simp only [List.map_toArray, List.map_cons, List.map_nil]); first | done | rfl | (simp only [List.length_drop, List.length_take]; rfl)) ?_; (with_reducible refine (schema_bestMatch.calls k1 _ _ l1 _ _ x6_1 t134 t135 t136 _ ?side1 ?side2 ?side3 ?side4 A32.out).mono ?_); (case side1 => repeat (first | exact (Kd.C_below HR1.out HB.out) | (with_reducible refine Kd.C_alloc ?_ _) | (with_reducible refine Kd.C_drewN ?_ _) | (with_reducible refine Kd.C_drew ?_))); (case side2 => exact HC1.out); (case side3 => repeat (first | exact (Kd.R_reads' HO_6.out).2.2 | (with_reducible refine Kd.C_alloc ?_ _) | (with_reducible refine Kd.C_drewN ?_ _) | (with_reducible refine Kd.C_drew ?_))); (case side4 => exact (Kd.R_reads' HO_6.out).2.1); rintro e w34 ⟨rfl, hb⟩; refine ⟨_, rfl, ?_⟩; have n0_ := Aside0.mk (Kd.R_below (by (with_reducible repeat (first | apply Kd.R_alloc | apply Kd.R_drewN | apply Kd.R_drew)); exact HO_6.out) hb); have n1_ := Aside0.mk (blk_below (g := gb122) (o := .cells #[.string (⟨#[]⟩ : ByteArray), .string (⟨#[]⟩ : ByteArray), .string (⟨#[]⟩ : ByteArray)] 51 (0, 0)) (by (with_reducible repeat (first | refine blk_drewN ?_ _ | refine blk_drew ?_ | refine blk_alloc ?_ _)); exact BK122.out) hb); have n2_ := Aside0.mk (below_step (by repeat (first | (with_reducible first | exact HB.out | apply below_alloc | apply pw_below_drewN | apply below_drew1 | refine below_set ?_ GE122.out) | exact HB.out)) hb); clear HO_6; clear BK122; clear HB; have HO_6 := n0_; have BK122 := n1_; have HB := n2_; clear n0_ n1_ n2_; (try clear hb); (try clear hb2); (try clear hk); (try clear hi); have hcz35_0 : w34.cell? ⟨gb122, 0, none⟩ = some (.string (⟨#[]⟩ : ByteArray)) := (blk_cell BK122.out 0).trans rfl; have hcz35_1 : w34.cell? ⟨gb122, 1, none⟩ = some (.string (⟨#[]⟩ : ByteArray)) := (blk_cell BK122.out 1).trans rfl; have hcz35_2 : w34.cell? ⟨gb122, 2, none⟩ = some (.string (⟨#[]⟩ : ByteArray)) := (blk_cell BK122.out 2).trans rfl; have hfz35_0 := blk_frozen BK122.out 0; have hfz35_1 := blk_frozen BK122.out 1; have hfz35_2 := blk_frozen BK122.out 2))
            refine bodyPost_ret (results_ct rfl _ _ gb122 51 #[.string t134, .string t135, .string t136] (0, 0) _ rfl (by (with_reducible repeat (first | refine blk_drewN ?_ _ | refine blk_drew ?_ | refine blk_alloc ?_ _)); refine blk_put (cs := #[.string t134, .string t135, .string (⟨#[]⟩ : ByteArray)]) ?_ 2 _ rfl; (with_reducible repeat (first | refine blk_drewN ?_ _ | refine blk_drew ?_ | refine blk_alloc ?_ _)); refine blk_put (cs := #[.string t134, .string (⟨#[]⟩ : ByteArray), .string (⟨#[]⟩ : ByteArray)]) ?_ 1 _ rfl; (with_reducible repeat (first | refine blk_drewN ?_ _ | refine blk_drew ?_ | refine blk_alloc ?_ _)); refine blk_put (cs := #[.string (⟨#[]⟩ : ByteArray), .string (⟨#[]⟩ : ByteArray), .string (⟨#[]⟩ : ByteArray)]) ?_ 0 _ rfl; (with_reducible repeat (first | refine blk_drewN ?_ _ | refine blk_drew ?_ | refine blk_alloc ?_ _)); exact BK122.out) Try.underlying51 rfl (by kernel_rfl)) rfl ?_
            exact ⟨by first | rfl | (simp [errW_none, errW_some] <;> rfl) | (simp [*, errW_none, errW_some] <;> rfl), by repeat (first | (with_reducible first | exact HB.out | apply below_alloc | apply pw_below_drewN | apply below_drew1 | refine below_set ?_ GE122.out) | exact HB.out)⟩
          · rw [if_neg c31] at H
            have c31b0 : decide (1 < (x6_1.length : Int)) = false := decide_eq_false c31
            have c31b1 : decide (1 < x6_1.length) = false := decide_eq_false (by omega)
            clear c31
            simp only [Option.some.injEq, Prod.mk.injEq] at H
            obtain ⟨rfl, rfl, rfl, rfl⟩ := H
            obtain ⟨Ao36, co36, eo36⟩ := Kd.R_slice HO_6.out
            subst eo36
            have hcz37_0 : wr.cell? ⟨gb122, 0, none⟩ = some (.string (⟨#[]⟩ : ByteArray)) := (blk_cell BK122.out 0).trans rfl
            have hcz37_1 : wr.cell? ⟨gb122, 1, none⟩ = some (.string (⟨#[]⟩ : ByteArray)) := (blk_cell BK122.out 1).trans rfl
            have hcz37_2 : wr.cell? ⟨gb122, 2, none⟩ = some (.string (⟨#[]⟩ : ByteArray)) := (blk_cell BK122.out 2).trans rfl
            have hfz37_0 := blk_frozen BK122.out 0
            have hfz37_1 := blk_frozen BK122.out 1
            have hfz37_2 := blk_frozen BK122.out 2
            go_wp2
            refine bodyPost_ret (results_ct rfl _ _ gb122 51 #[.string (⟨#[]⟩ : ByteArray), .string (⟨#[]⟩ : ByteArray), .string (⟨#[]⟩ : ByteArray)] (0, 0) _ rfl (by (with_reducible repeat (first | refine blk_drewN ?_ _ | refine blk_drew ?_ | refine blk_alloc ?_ _)); refine blk_put (cs := #[.string (⟨#[]⟩ : ByteArray), .string (⟨#[]⟩ : ByteArray), .string (⟨#[]⟩ : ByteArray)]) ?_ 2 _ rfl; (with_reducible repeat (first | refine blk_drewN ?_ _ | refine blk_drew ?_ | refine blk_alloc ?_ _)); refine blk_put (cs := #[.string (⟨#[]⟩ : ByteArray), .string (⟨#[]⟩ : ByteArray), .string (⟨#[]⟩ : ByteArray)]) ?_ 1 _ rfl; (with_reducible repeat (first | refine blk_drewN ?_ _ | refine blk_drew ?_ | refine blk_alloc ?_ _)); refine blk_put (cs := #[.string (⟨#[]⟩ : ByteArray), .string (⟨#[]⟩ : ByteArray), .string (⟨#[]⟩ : ByteArray)]) ?_ 0 _ rfl; (with_reducible repeat (first | refine blk_drewN ?_ _ | refine blk_drew ?_ | refine blk_alloc ?_ _)); exact BK122.out) Try.underlying51 rfl (by kernel_rfl)) rfl ?_
            exact ⟨by first | rfl | (simp [errW_none, errW_some] <;> rfl) | (simp [*, errW_none, errW_some] <;> rfl), by repeat (first | (with_reducible first | exact HB.out | apply below_alloc | apply pw_below_drewN | apply below_drew1 | refine below_set ?_ GE122.out) | exact HB.out)⟩

/-! ### impl_kindOf: function 29 -/
def impl_kindOf.f (a0_0 : ByteArray) (a0_1 : ByteArray) (a0_2 : ByteArray) : Option (ByteArray × ByteArray × ByteArray) := some (a0_0, a0_1, a0_2)
set_option maxHeartbeats 8000000 in
set_option maxRecDepth 100000 in
theorem impl_kindOf.calls (a0_0 : ByteArray) (a0_1 : ByteArray) (a0_2 : ByteArray) (r1 : ByteArray) (r2 : ByteArray) (r3 : ByteArray) (w : World) (h : impl_kindOf.f a0_0 a0_1 a0_2 = some (r1, r2, r3)) :
    Calls Try.prog 29 #[.agg #[.string a0_0, .string a0_1, .string a0_2]] w fun e w' => e = .returned (.agg #[.string r1, .string r2, .string r3]) ∧ Below w.heap.size w w' := by
  have hu26 := Try.underlying26
  have hu51 := Try.underlying51
  have HB := Aside0.mk (Below.refl w.heap.size w)
  have H : (some (a0_0, a0_1, a0_2)) = some (r1, r2, r3) := h
  clear h
  simp only [Option.some.injEq, Prod.mk.injEq] at H
  obtain ⟨rfl, rfl, rfl⟩ := H
  go_enter Try.func29, Try.ntmps29
  go_wp2_with (first | ((with_reducible refine gate_dst (N := 1) rfl ?_); refine box_event ?hg (N := 1) ?hd (cs := #[.string a0_0, .string a0_1, .string a0_2]) (t := 26) ?hr ?_; (case hd => rfl); (case hg => rfl); (case hr => first | (go_simp; done) | (go_simp; rfl)); intro gb137 hg w2 hbox hb; have n0_ := Aside0.mk (below_step (by repeat (first | (with_reducible first | exact HB.out | apply below_alloc | apply pw_below_drewN | apply below_drew1) | exact HB.out)) hb); have n1_ := Aside0.mk (hbox); have n2_ := Aside0.mk ((by rw [hg]; exact (below_size (by repeat (first | (with_reducible first | exact HB.out | apply below_alloc | apply pw_below_drewN | apply below_drew1) | exact HB.out))) : w.heap.size ≤ gb137)); have n3_ := Aside0.mk ((by rw [hg]; exact (below_size (by repeat (first | (with_reducible first | exact HB.out | apply below_alloc | apply pw_below_drewN | apply below_drew1) | exact HB.out))) : w.heap.size ≤ gb137)); clear HB; have HB := n0_; have BK137 := n1_; have GW137 := n2_; have GE137 := n3_; clear n0_ n1_ n2_ n3_; clear hb hbox hg) | ((with_reducible refine gate_dst (N := 2) rfl ?_); refine box_event ?hg (N := 2) ?hd (cs := #[.string (⟨#[]⟩ : ByteArray), .string (⟨#[]⟩ : ByteArray), .string (⟨#[]⟩ : ByteArray)]) (t := 51) ?hr ?_; (case hd => rfl); (case hg => rfl); (case hr => first | (go_simp; done) | (go_simp; rfl)); intro gb138 hg w3 hbox hb; have n0_ := Aside0.mk (blk_below (g := gb137) (o := .cells #[.string a0_0, .string a0_1, .string a0_2] 26 (0, 0)) (by (with_reducible repeat (first | refine blk_drewN ?_ _ | refine blk_drew ?_ | refine blk_alloc ?_ _)); exact BK137.out) hb); have n1_ := Aside0.mk (below_step (by repeat (first | (with_reducible first | exact HB.out | apply below_alloc | apply pw_below_drewN | apply below_drew1 | refine below_set ?_ GE137.out) | exact HB.out)) hb); have n2_ := Aside0.mk (hbox); have n3_ := Aside0.mk ((by rw [hg]; exact (below_size (by repeat (first | (with_reducible first | exact HB.out | apply below_alloc | apply pw_below_drewN | apply below_drew1 | refine below_set ?_ GE137.out) | exact HB.out))) : w.heap.size ≤ gb138)); have n4_ := Aside0.mk ((by rw [hg]; exact (below_size (by repeat (first | (with_reducible first | exact HB.out | apply below_alloc | apply pw_below_drewN | apply below_drew1 | refine below_set ?_ GE137.out) | exact HB.out))) : w.heap.size ≤ gb138)); have n5_ := Aside0.mk ((by rw [hg]; exact Nat.ne_of_lt (blk_lt (g := gb137) (o := .cells #[.string a0_0, .string a0_1, .string a0_2] 26 (0, 0)) (by (with_reducible repeat (first | refine blk_drewN ?_ _ | refine blk_drew ?_ | refine blk_alloc ?_ _)); exact BK137.out)) : gb137 ≠ gb138)); have n6_ := Aside0.mk ((by rw [hg]; exact Nat.ne_of_gt (blk_lt (g := gb137) (o := .cells #[.string a0_0, .string a0_1, .string a0_2] 26 (0, 0)) (by (with_reducible repeat (first | refine blk_drewN ?_ _ | refine blk_drew ?_ | refine blk_alloc ?_ _)); exact BK137.out)) : gb138 ≠ gb137)); clear BK137; clear HB; have BK137 := n0_; have HB := n1_; have BK138 := n2_; have GW138 := n3_; have GE138 := n4_; have NB137_138 := n5_; have NB138_137 := n6_; clear n0_ n1_ n2_ n3_ n4_ n5_ n6_; clear hb hbox hg; have hnb4 := NB137_138.out; have hnc4 := NB138_137.out; have hcz5_0 : w3.cell? ⟨gb137, 0, none⟩ = some (.string a0_0) := (blk_cell BK137.out 0).trans rfl; have hcz5_1 : w3.cell? ⟨gb137, 1, none⟩ = some (.string a0_1) := (blk_cell BK137.out 1).trans rfl; have hcz5_2 : w3.cell? ⟨gb137, 2, none⟩ = some (.string a0_2) := (blk_cell BK137.out 2).trans rfl; have hfz5_0 := blk_frozen BK137.out 0; have hfz5_1 := blk_frozen BK137.out 1; have hfz5_2 := blk_frozen BK137.out 2; have hcz6_0 : w3.cell? ⟨gb138, 0, none⟩ = some (.string (⟨#[]⟩ : ByteArray)) := (blk_cell BK138.out 0).trans rfl; have hcz6_1 : w3.cell? ⟨gb138, 1, none⟩ = some (.string (⟨#[]⟩ : ByteArray)) := (blk_cell BK138.out 1).trans rfl; have hcz6_2 : w3.cell? ⟨gb138, 2, none⟩ = some (.string (⟨#[]⟩ : ByteArray)) := (blk_cell BK138.out 2).trans rfl; have hfz6_0 := blk_frozen BK138.out 0; have hfz6_1 := blk_frozen BK138.out 1; have hfz6_2 := blk_frozen BK138.out 2))
  refine bodyPost_ret (results_cell_row rfl _ _ gb138 51 #[.string a0_0, .string a0_1, .string a0_2] (0, 0) _ rfl (by (with_reducible repeat (first | refine blk_drewN ?_ _ | refine blk_drew ?_ | refine blk_alloc ?_ _)); refine blk_put (cs := #[.string a0_0, .string a0_1, .string (⟨#[]⟩ : ByteArray)]) ?_ 2 _ rfl; (with_reducible repeat (first | refine blk_drewN ?_ _ | refine blk_drew ?_ | refine blk_alloc ?_ _)); refine blk_put (cs := #[.string a0_0, .string (⟨#[]⟩ : ByteArray), .string (⟨#[]⟩ : ByteArray)]) ?_ 1 _ rfl; (with_reducible repeat (first | refine blk_drewN ?_ _ | refine blk_drew ?_ | refine blk_alloc ?_ _)); refine blk_put (cs := #[.string (⟨#[]⟩ : ByteArray), .string (⟨#[]⟩ : ByteArray), .string (⟨#[]⟩ : ByteArray)]) ?_ 0 _ rfl; (with_reducible repeat (first | refine blk_drewN ?_ _ | refine blk_drew ?_ | refine blk_alloc ?_ _)); exact BK138.out) Try.underlying51 rfl (by kernel_rfl)) rfl ?_
  exact ⟨by first | rfl | (simp [errW_none, errW_some] <;> rfl) | (simp [*, errW_none, errW_some] <;> rfl), by repeat (first | (with_reducible first | exact HB.out | apply below_alloc | apply pw_below_drewN | apply below_drew1 | refine below_set ?_ GE137.out | refine below_set ?_ GE138.out) | exact HB.out)⟩

/-! ### impl_kinds: function 41 -/
def impl_kinds.l0 : Nat → List (S51) → List (S26) → Int → Int → Option ((List (S51)))
  | 0, _, _, _, _ => none
  | k + 1, x3, x6, x7, x8 => if x8 < x7 then (if 0 ≤ x8 then (if x8 < (x6.length : Int) then ((impl_kindOf.f ((rd_T26 x6 x8).f0) ((rd_T26 x6 x8).f1) ((rd_T26 x6 x8).f2)).bind fun bt141 => (if x3.length < 2932031007402 then (impl_kinds.l0 k (x3 ++ [(⟨bt141.1, bt141.2.1, bt141.2.2⟩ : S51)]) x6 x7 (wrap64 (x8 + 1))) else (none))) else (none)) else (none)) else (some x3)
def impl_kinds.f (k : Nat) (l0 : List (S26)) : Option ((List (S51))) := impl_kinds.l0 k ([] : List (S51)) l0 (l0.length : Int) 0
theorem impl_kinds.mono_l : ∀ k, (∀ y0 y1 y2 y3, LeO (impl_kinds.l0 k y0 y1 y2 y3) (impl_kinds.l0 (k + 1) y0 y1 y2 y3))
  | 0 => fun _ _ _ _ r h => by simp [impl_kinds.l0] at h
  | k + 1 => by
    have ih0 := impl_kinds.mono_l k
    · intro y0 y1 y2 y3
      unfold impl_kinds.l0
      repeat' first
      | (with_reducible exact ih0 _ _ _ _)
      | (with_reducible exact LeO.refl _)
      | (with_reducible exact LeO.none _)
      | (with_reducible refine LeO.ite ?_ ?_)
      | (with_reducible refine LeO.bind ?_ (fun _ => ?_))
      | exact ih0 _ _ _ _
      | exact LeO.none _
      | refine LeO.ite ?_ ?_
      | refine LeO.bind ?_ (fun _ => ?_)
theorem impl_kinds.mono : ∀ a0 k, LeO (impl_kinds.f k a0) (impl_kinds.f (k + 1) a0) := by
  intro a0 k
  have ih0 := impl_kinds.mono_l k
  unfold impl_kinds.f
  repeat' first
      | (with_reducible exact ih0 _ _ _ _)
      | (with_reducible exact LeO.refl _)
      | (with_reducible exact LeO.none _)
      | (with_reducible refine LeO.ite ?_ ?_)
      | (with_reducible refine LeO.bind ?_ (fun _ => ?_))
      | exact ih0 _ _ _ _
      | exact LeO.none _
      | refine LeO.ite ?_ ?_
      | refine LeO.bind ?_ (fun _ => ?_)
set_option maxHeartbeats 8000000 in
set_option maxRecDepth 100000 in
theorem impl_kinds.calls (k : Nat) (A0 : Option Addr) (c0 : Nat) (l0 : List (S26)) (r : List (S51)) (w : World) (hr0 : Kd.C k26 w A0 l0.length l0) (hc0 : l0.length ≤ c0) (h : impl_kinds.f k l0 = some r) :
    Calls Try.prog 41 #[.slice A0 l0.length c0] w fun e w' => ∃ v0_ : Value, e = .returned (v0_) ∧ Kd.R k51 51 w' w.heap.size (fun _ => True) v0_ r ∧ Below w.heap.size w w' := by
  have hu26 := Try.underlying26
  have HR0 := Aside0.mk hr0
  have HC0 := Aside0.mk hc0
  clear hr0 hc0
  have HB := Aside0.mk (Below.refl w.heap.size w)
  have H : (impl_kinds.l0 k ([] : List (S51)) l0 (l0.length : Int) 0) = some r := h
  clear h
  have H' := Aside0.mk H
  clear H
  go_enter Try.func41, Try.ntmps41
  go_wp2
  go_loopg [3, 8] k (fun kq v3 v8 w' => ∃ (x3_1 : List (S51)) (x8_1 : Int), v8 = .int .i64 x8_1 ∧ Aside0 (impl_kinds.l0 kq x3_1 l0 (l0.length : Int) x8_1 = some r) ∧ Aside0 (kq ≤ k) ∧ Aside0 (Kd.R k51 51 w' w.heap.size (fun _ => True) v3 x3_1) ∧ Aside0 (Below w.heap.size w w'))
  case atStart => exact ⟨(([] : List (S51))), (0), (by first | rfl | (simp; done) | (simp [*]; done)), H', ⟨Nat.le_refl _⟩, ⟨by first | exact Kd.R_nil _ _ _ _ _ | exact Kd.N_nil _ _ _ _ _ | exact Kd.V_nil _ _ _ _ _ | exact Kd.Q_nil _ _ _ _ _ | exact Kd.S_nil _ _ _ _ _⟩, ⟨by repeat (first | (with_reducible first | exact HB.out | apply below_alloc | apply pw_below_drewN | apply below_drew1) | exact HB.out)⟩⟩
  case round =>
    clear H'
    obtain ⟨x3_1, x8_1, rfl, HA, HK1, HO_3, HB⟩ := hrel
    cases gk with
    | zero => exact absurd HA.out (by simp [impl_kinds.l0])
    | succ k1 =>
      have H := HA.out
      clear HA
      simp only [impl_kinds.l0] at H
      by_cases c2 : x8_1 < (l0.length : Int)
      · rw [if_pos c2] at H
        have c2b0 : decide (x8_1 < (l0.length : Int)) = true := decide_eq_true c2
        clear c2
        by_cases c3 : 0 ≤ x8_1
        · rw [if_pos c3] at H
          have c3b0 : decide (0 ≤ x8_1) = true := decide_eq_true c3
          clear c3
          by_cases c4 : x8_1 < (l0.length : Int)
          · rw [if_pos c4] at H
            have c4b0 : decide (x8_1 < (l0.length : Int)) = true := decide_eq_true c4
            clear c4
            replace H := Option.bind_eq_some_iff.mp H
            obtain ⟨⟨t141, t142, t143⟩, A50, H⟩ := H
            replace H : (if x3_1.length < 2932031007402 then (impl_kinds.l0 k1 (x3_1 ++ [(⟨t141, t142, t143⟩ : S51)]) l0 (l0.length : Int) (wrap64 (x8_1 + 1))) else (none)) = some r := H
            have A5 := Aside0.mk A50
            clear A50
            by_cases c6 : x3_1.length < 2932031007402
            · rw [if_pos c6] at H
              have LMc6 := Aside0.mk c6
              clear c6
              obtain ⟨y144, hy144⟩ : ∃ y_ : List (S51), y_ = (x3_1 ++ [(⟨t141, t142, t143⟩ : S51)]) := ⟨_, rfl⟩
              replace H : (impl_kinds.l0 k1 y144 l0 (l0.length : Int) (wrap64 (x8_1 + 1))) = some r := by first | (rw [hy144]; with_reducible exact H) | (have H2_ := (Option.bind_some _ _).symm.trans H; rw [hy144]; with_reducible exact H2_) | (have H2_ := (Option.bind_some _ _).symm.trans H; with_reducible exact H2_) | with_reducible exact H | (rw [hy144]; exact H) | exact H
              have Ny144 := Aside0.mk hy144
              clear hy144
              have H' := Aside0.mk H
              clear H
              have p139 : 0 ≤ (x8_1 : Int) := of_decide_eq_true (by first | (with_reducible assumption) | assumption)
              have q139 : x8_1 < (l0.length : Int) := of_decide_eq_true (by first | (with_reducible assumption) | assumption)
              obtain ⟨ad139, e139, hx139_0, hx139_1, hx139_2⟩ := at_T26 HR0.out x8_1 p139 q139
              cases e139
              replace hx139_0 := (HB.out.cell (World.block_lt_of_cell? w _ hx139_0)).trans hx139_0
              replace hx139_1 := (HB.out.cell (World.block_lt_of_cell? w _ hx139_1)).trans hx139_1
              replace hx139_2 := (HB.out.cell (World.block_lt_of_cell? w _ hx139_2)).trans hx139_2
              replace p139 := eq_true p139
              replace q139 := eq_true q139
              go_wp2_with (first | ((with_reducible refine gate_dst (N := 5) rfl ?_); refine box_event ?hg (N := 5) ?hd (cs := #[.string (⟨#[]⟩ : ByteArray), .string (⟨#[]⟩ : ByteArray), .string (⟨#[]⟩ : ByteArray)]) (t := 26) ?hr ?_; (case hd => rfl); (case hg => rfl); (case hr => first | (go_simp; done) | (go_simp; rfl)); intro gb140 hg w7 hbox hb; have n0_ := Aside0.mk (Kd.R_below (by (with_reducible repeat (first | apply Kd.R_alloc | apply Kd.R_drewN | apply Kd.R_drew)); exact HO_3.out) hb); have n1_ := Aside0.mk (below_step (by repeat (first | (with_reducible first | exact HB.out | apply below_alloc | apply pw_below_drewN | apply below_drew1) | exact HB.out)) hb); have n2_ := Aside0.mk (hbox); have n3_ := Aside0.mk ((by rw [hg]; exact (below_size (by repeat (first | (with_reducible first | exact HB.out | apply below_alloc | apply pw_below_drewN | apply below_drew1) | exact HB.out))) : w.heap.size ≤ gb140)); have n4_ := Aside0.mk ((by rw [hg]; exact (below_size (by repeat (first | (with_reducible first | exact HB.out | apply below_alloc | apply pw_below_drewN | apply below_drew1) | exact HB.out))) : w.heap.size ≤ gb140)); clear HO_3; clear HB; have HO_3 := n0_; have HB := n1_; have BK140 := n2_; have GW140 := n3_; have GE140 := n4_; clear n0_ n1_ n2_ n3_ n4_; clear hb hbox hg; have hcz8_0 : w7.cell? ⟨gb140, 0, none⟩ = some (.string (⟨#[]⟩ : ByteArray)) := (blk_cell BK140.out 0).trans rfl; have hcz8_1 : w7.cell? ⟨gb140, 1, none⟩ = some (.string (⟨#[]⟩ : ByteArray)) := (blk_cell BK140.out 1).trans rfl; have hcz8_2 : w7.cell? ⟨gb140, 2, none⟩ = some (.string (⟨#[]⟩ : ByteArray)) := (blk_cell BK140.out 2).trans rfl; have hfz8_0 := blk_frozen BK140.out 0; have hfz8_1 := blk_frozen BK140.out 1; have hfz8_2 := blk_frozen BK140.out 2) | ((with_reducible refine gate_callee (f := 29) rfl ?_); refine goesL_ (some 14) rfl rfl Try.func29 (by kernel_rfl) rfl #[.agg #[.string ((rd_T26 l0 x8_1).f0), .string ((rd_T26 l0 x8_1).f1), .string ((rd_T26 l0 x8_1).f2)]] rfl (by (try simp only [List.map_toArray, List.map_cons, List.map_nil]); first | done | rfl | (simp only [List.length_drop, List.length_take]; rfl)) ?_; (with_reducible refine (impl_kindOf.calls ((rd_T26 l0 x8_1).f0) ((rd_T26 l0 x8_1).f1) ((rd_T26 l0 x8_1).f2) t141 t142 t143 _ A5.out).mono ?_); rintro e w9 ⟨rfl, hb⟩; refine ⟨_, rfl, ?_⟩; have n0_ := Aside0.mk (Kd.R_below (by (with_reducible repeat (first | apply Kd.R_alloc | apply Kd.R_drewN | apply Kd.R_drew)); exact (Kd.R_mono (Kd.R_far (p := ⟨gb140, 2, none⟩) (Kd.R_far (p := ⟨gb140, 1, none⟩) (Kd.R_far (p := ⟨gb140, 0, none⟩) (Kd.R_types HO_3.out BK140.out (by decide)) (fun _ hk => hk.2) (.string ((rd_T26 l0 x8_1).f0))) (fun _ hk => hk.2) (.string ((rd_T26 l0 x8_1).f1))) (fun _ hk => hk.2) (.string ((rd_T26 l0 x8_1).f2))) (fun _ h_ => h_.1))) hb); have n1_ := Aside0.mk (blk_below (g := gb140) (o := .cells #[.string ((rd_T26 l0 x8_1).f0), .string ((rd_T26 l0 x8_1).f1), .string ((rd_T26 l0 x8_1).f2)] 26 (0, 0)) (by (with_reducible repeat (first | refine blk_drewN ?_ _ | refine blk_drew ?_ | refine blk_alloc ?_ _)); refine blk_put (cs := #[.string ((rd_T26 l0 x8_1).f0), .string ((rd_T26 l0 x8_1).f1), .string (⟨#[]⟩ : ByteArray)]) ?_ 2 _ rfl; (with_reducible repeat (first | refine blk_drewN ?_ _ | refine blk_drew ?_ | refine blk_alloc ?_ _)); refine blk_put (cs := #[.string ((rd_T26 l0 x8_1).f0), .string (⟨#[]⟩ : ByteArray), .string (⟨#[]⟩ : ByteArray)]) ?_ 1 _ rfl; (with_reducible repeat (first | refine blk_drewN ?_ _ | refine blk_drew ?_ | refine blk_alloc ?_ _)); refine blk_put (cs := #[.string (⟨#[]⟩ : ByteArray), .string (⟨#[]⟩ : ByteArray), .string (⟨#[]⟩ : ByteArray)]) ?_ 0 _ rfl; (with_reducible repeat (first | refine blk_drewN ?_ _ | refine blk_drew ?_ | refine blk_alloc ?_ _)); exact BK140.out) hb); have n2_ := Aside0.mk (below_step (by repeat (first | (with_reducible first | exact HB.out | apply below_alloc | apply pw_below_drewN | apply below_drew1 | refine below_set ?_ GE140.out) | exact HB.out)) hb); clear HO_3; clear BK140; clear HB; have HO_3 := n0_; have BK140 := n1_; have HB := n2_; clear n0_ n1_ n2_; (try clear hb); (try clear hb2); (try clear hk); (try clear hi)) | ((with_reducible refine gate_builtin (b := .append) (xs := #[.tmp 12, .tmp 15]) rfl ?_); at_builtin; refine Kd.R_append k51 (w0 := w) w.heap.size rfl (.tmp 12) (.tmp 15) 69 51 (.agg #[(.string ⟨#[]⟩), (.string ⟨#[]⟩), (.string ⟨#[]⟩)]) 48 rfl Try.underlying69 info51 rfl (by decide) (by omega) u3 x3_1 (⟨t141, t142, t143⟩ : S51) [.string t141, .string t142, .string t143] (fun _ => True) (fun _ => False) rfl rfl ?aP (fun _ hk => hk.elim) ?aF ?aO ?aB ?aS ?aL ?_; (case aP => exact k51_mkM _ _ _ (⟨t141, t142, t143⟩ : S51)); (case aB => exact (by repeat (first | (with_reducible first | exact HB.out | apply below_alloc | apply pw_below_drewN | apply below_drew1 | refine below_set ?_ GE140.out) | exact HB.out))); (case aF => exact (fun _ _ => trivial)); (case aO => exact (by (with_reducible repeat (first | apply Kd.R_alloc | apply Kd.R_drewN | apply Kd.R_drew)); exact HO_3.out)); (case aS => exact (below_size (by repeat (first | (with_reducible first | exact HB.out | apply below_alloc | apply pw_below_drewN | apply below_drew1 | refine below_set ?_ GE140.out) | exact HB.out)))); (case aL => have := LMc6.out; omega); intro v145 w10 ho hb hg hat; rw [← Ny144.out] at ho; have n0_ := Aside0.mk (blk_grown (g := gb140) (o := .cells #[.string ((rd_T26 l0 x8_1).f0), .string ((rd_T26 l0 x8_1).f1), .string ((rd_T26 l0 x8_1).f2)] 26 (0, 0)) (by (with_reducible repeat (first | refine blk_drewN ?_ _ | refine blk_drew ?_ | refine blk_alloc ?_ _)); exact BK140.out) hg (Kd.R_ne HO_3.out BK140.out (by decide))); have n1_ := Aside0.mk (hb); have n2_ := Aside0.mk (ho); clear BK140; clear HB; clear HO_3; have BK140 := n0_; have HB := n1_; have HO146 := n2_; clear n0_ n1_ n2_; clear ho hb hg hat))
              go_roundg k1
              case measure => have := HK1.out; omega
              case rel => exact ⟨(y144), (wrap64 (x8_1 + 1)), (by first | rfl | (simp; done) | (simp [*]; done)), H', ⟨by have := HK1.out; omega⟩, ⟨by (with_reducible repeat (first | apply Kd.R_alloc | apply Kd.R_drewN | apply Kd.R_drew)); exact HO146.out⟩, ⟨by repeat (first | (with_reducible first | exact HB.out | apply below_alloc | apply pw_below_drewN | apply below_drew1 | refine below_set ?_ GE140.out) | exact HB.out)⟩⟩
            · rw [if_neg c6] at H
              exact absurd H (by simp)
          · rw [if_neg c4] at H
            exact absurd H (by simp)
        · rw [if_neg c3] at H
          exact absurd H (by simp)
      · rw [if_neg c2] at H
        have c2b0 : decide (x8_1 < (l0.length : Int)) = false := decide_eq_false c2
        clear c2
        obtain rfl := Option.some.inj H
        go_wp2
        go_ret
        exact ⟨_, by first | rfl | (simp [errW_none, errW_some] <;> rfl) | (simp [*, errW_none, errW_some] <;> rfl), by (with_reducible repeat (first | apply Kd.R_alloc | apply Kd.R_drewN | apply Kd.R_drew)); exact HO_3.out, by repeat (first | (with_reducible first | exact HB.out | apply below_alloc | apply pw_below_drewN | apply below_drew1) | exact HB.out)⟩

/-! ### impl_KindForAny: function 23 -/
def impl_KindForAny.l0 : Nat → List (S26) → List (S44) → List (S26) → Int → Int → Option (ByteArray × ByteArray × ByteArray × Bool)
  | 0, _, _, _, _, _ => none
  | k + 1, x1, x6, x11, x12, x13 => if x13 < x12 then (if 0 ≤ x13 then (if x13 < (x11.length : Int) then (if x6.length < 4398046511104 then (impl_KindForAny.l0 k x1 (x6 ++ [(⟨(rd_T26 x11 x13).f0, (rd_T26 x11 x13).f1⟩ : S44)]) x11 x12 (wrap64 (x13 + 1))) else (none)) else (none)) else (none)) else ((impl_kinds.f k x1).bind fun t153 => ((schema_GroupVersions_KindForGroupVersionKinds.f k x6 t153).bind fun bt156 => (some (bt156.1, bt156.2.1, bt156.2.2.1, bt156.2.2.2))))
def impl_KindForAny.f (k : Nat) (l0 : List (S26)) (l1 : List (S26)) : Option (ByteArray × ByteArray × ByteArray × Bool) := impl_KindForAny.l0 k l1 ([] : List (S44)) l0 (l0.length : Int) 0
theorem impl_KindForAny.mono_l : ∀ k, (∀ y0 y1 y2 y3 y4, LeO (impl_KindForAny.l0 k y0 y1 y2 y3 y4) (impl_KindForAny.l0 (k + 1) y0 y1 y2 y3 y4))
  | 0 => fun _ _ _ _ _ r h => by simp [impl_KindForAny.l0] at h
  | k + 1 => by
    have ih0 := impl_KindForAny.mono_l k
    · intro y0 y1 y2 y3 y4
      unfold impl_KindForAny.l0
      repeat' first
      | (with_reducible exact ih0 _ _ _ _ _)
      | (with_reducible exact impl_kinds.mono _ _)
      | (with_reducible exact schema_GroupVersions_KindForGroupVersionKinds.mono _ _ _)
      | (with_reducible exact LeO.refl _)
      | (with_reducible exact LeO.none _)
      | (with_reducible refine LeO.ite ?_ ?_)
      | (with_reducible refine LeO.bind ?_ (fun _ => ?_))
      | exact ih0 _ _ _ _ _
      | exact impl_kinds.mono _ _
      | exact schema_GroupVersions_KindForGroupVersionKinds.mono _ _ _
      | exact LeO.none _
      | refine LeO.ite ?_ ?_
      | refine LeO.bind ?_ (fun _ => ?_)
theorem impl_KindForAny.mono : ∀ a0 a1 k, LeO (impl_KindForAny.f k a0 a1) (impl_KindForAny.f (k + 1) a0 a1) := by
  intro a0 a1 k
  have ih0 := impl_KindForAny.mono_l k
  unfold impl_KindForAny.f
  repeat' first
      | (with_reducible exact ih0 _ _ _ _ _)
      | (with_reducible exact impl_kinds.mono _ _)
      | (with_reducible exact schema_GroupVersions_KindForGroupVersionKinds.mono _ _ _)
      | (with_reducible exact LeO.refl _)
      | (with_reducible exact LeO.none _)
      | (with_reducible refine LeO.ite ?_ ?_)
      | (with_reducible refine LeO.bind ?_ (fun _ => ?_))
      | exact ih0 _ _ _ _ _
      | exact impl_kinds.mono _ _
      | exact schema_GroupVersions_KindForGroupVersionKinds.mono _ _ _
      | exact LeO.none _
      | refine LeO.ite ?_ ?_
      | refine LeO.bind ?_ (fun _ => ?_)
set_option maxHeartbeats 8000000 in
set_option maxRecDepth 100000 in
theorem impl_KindForAny.calls (k : Nat) (A0 : Option Addr) (c0 : Nat) (l0 : List (S26)) (A1 : Option Addr) (c1 : Nat) (l1 : List (S26)) (r1 : ByteArray) (r2 : ByteArray) (r3 : ByteArray) (r4 : Bool) (w : World) (hr0 : Kd.C k26 w A0 l0.length l0) (hc0 : l0.length ≤ c0) (hr1 : Kd.C k26 w A1 l1.length l1) (hc1 : l1.length ≤ c1) (h : impl_KindForAny.f k l0 l1 = some (r1, r2, r3, r4)) :
    Calls Try.prog 23 #[.slice A0 l0.length c0, .slice A1 l1.length c1] w fun e w' => e = .returned (.tuple #[.agg #[.string r1, .string r2, .string r3], .bool r4]) ∧ Below w.heap.size w w' := by
  have hu26 := Try.underlying26
  have hu44 := Try.underlying44
  have hu51 := Try.underlying51
  have HR0 := Aside0.mk hr0
  have HC0 := Aside0.mk hc0
  clear hr0 hc0
  have HR1 := Aside0.mk hr1
  have HC1 := Aside0.mk hc1
  clear hr1 hc1
  have HB := Aside0.mk (Below.refl w.heap.size w)
  have H : (impl_KindForAny.l0 k l1 ([] : List (S44)) l0 (l0.length : Int) 0) = some (r1, r2, r3, r4) := h
  clear h
  have H' := Aside0.mk H
  clear H
  go_enter Try.func23, Try.ntmps23
  go_wp2_with (first | ((with_reducible refine gate_dst (N := 4) rfl ?_); refine box_event ?hg (N := 4) ?hd (cs := #[.string (⟨#[]⟩ : ByteArray), .string (⟨#[]⟩ : ByteArray), .string (⟨#[]⟩ : ByteArray)]) (t := 26) ?hr ?_; (case hd => rfl); (case hg => rfl); (case hr => first | (go_simp; done) | (go_simp; rfl)); intro gb147 hg w3 hbox hb; have n0_ := Aside0.mk (below_step (by repeat (first | (with_reducible first | exact HB.out | apply below_alloc | apply pw_below_drewN | apply below_drew1) | exact HB.out)) hb); have n1_ := Aside0.mk (hbox); have n2_ := Aside0.mk ((by rw [hg]; exact (below_size (by repeat (first | (with_reducible first | exact HB.out | apply below_alloc | apply pw_below_drewN | apply below_drew1) | exact HB.out))) : w.heap.size ≤ gb147)); have n3_ := Aside0.mk ((by rw [hg]; exact (below_size (by repeat (first | (with_reducible first | exact HB.out | apply below_alloc | apply pw_below_drewN | apply below_drew1) | exact HB.out))) : w.heap.size ≤ gb147)); clear HB; have HB := n0_; have BK147 := n1_; have GW147 := n2_; have GE147 := n3_; clear n0_ n1_ n2_ n3_; clear hb hbox hg))
  go_loopg [6, 13] k (fun kq v6 v13 w' => ∃ (x6_1 : List (S44)) (x13_1 : Int), v13 = .int .i64 x13_1 ∧ Aside0 (impl_KindForAny.l0 kq l1 x6_1 l0 (l0.length : Int) x13_1 = some (r1, r2, r3, r4)) ∧ Aside0 (kq ≤ k) ∧ Aside0 (Kd.R k44 44 w' w.heap.size (fun _ => True) v6 x6_1) ∧ Aside0 (w'.heap[gb147]? = some (.cells #[.string (⟨#[]⟩ : ByteArray), .string (⟨#[]⟩ : ByteArray), .string (⟨#[]⟩ : ByteArray)] 26 (0, 0))) ∧ Aside0 (Below w.heap.size w w'))
  case atStart => exact ⟨(([] : List (S44))), (0), (by first | rfl | (simp; done) | (simp [*]; done)), H', ⟨Nat.le_refl _⟩, ⟨by first | exact Kd.R_nil _ _ _ _ _ | exact Kd.N_nil _ _ _ _ _ | exact Kd.V_nil _ _ _ _ _ | exact Kd.Q_nil _ _ _ _ _ | exact Kd.S_nil _ _ _ _ _⟩, ⟨by (with_reducible repeat (first | refine blk_drewN ?_ _ | refine blk_drew ?_ | refine blk_alloc ?_ _)); exact BK147.out⟩, ⟨by repeat (first | (with_reducible first | exact HB.out | apply below_alloc | apply pw_below_drewN | apply below_drew1 | refine below_set ?_ GE147.out) | exact HB.out)⟩⟩
  case round =>
    clear H'
    try clear c1
    try clear c2
    try clear p2
    obtain ⟨x6_1, x13_1, rfl, HA, HK1, HO_6, BK147, HB⟩ := hrel
    cases gk with
    | zero => exact absurd HA.out (by simp [impl_KindForAny.l0])
    | succ k1 =>
      have H := HA.out
      clear HA
      simp only [impl_KindForAny.l0] at H
      by_cases c4 : x13_1 < (l0.length : Int)
      · rw [if_pos c4] at H
        have c4b0 : decide (x13_1 < (l0.length : Int)) = true := decide_eq_true c4
        clear c4
        by_cases c5 : 0 ≤ x13_1
        · rw [if_pos c5] at H
          have c5b0 : decide (0 ≤ x13_1) = true := decide_eq_true c5
          clear c5
          by_cases c6 : x13_1 < (l0.length : Int)
          · rw [if_pos c6] at H
            have c6b0 : decide (x13_1 < (l0.length : Int)) = true := decide_eq_true c6
            clear c6
            by_cases c7 : x6_1.length < 4398046511104
            · rw [if_pos c7] at H
              have LMc7 := Aside0.mk c7
              clear c7
              obtain ⟨y150, hy150⟩ : ∃ y_ : List (S44), y_ = (x6_1 ++ [(⟨(rd_T26 l0 x13_1).f0, (rd_T26 l0 x13_1).f1⟩ : S44)]) := ⟨_, rfl⟩
              replace H : (impl_KindForAny.l0 k1 l1 y150 l0 (l0.length : Int) (wrap64 (x13_1 + 1))) = some (r1, r2, r3, r4) := by first | (rw [hy150]; with_reducible exact H) | (have H2_ := (Option.bind_some _ _).symm.trans H; rw [hy150]; with_reducible exact H2_) | (have H2_ := (Option.bind_some _ _).symm.trans H; with_reducible exact H2_) | with_reducible exact H | (rw [hy150]; exact H) | exact H
              have Ny150 := Aside0.mk hy150
              clear hy150
              have H' := Aside0.mk H
              clear H
              have p148 : 0 ≤ (x13_1 : Int) := of_decide_eq_true (by first | (with_reducible assumption) | assumption)
              have q148 : x13_1 < (l0.length : Int) := of_decide_eq_true (by first | (with_reducible assumption) | assumption)
              obtain ⟨ad148, e148, hx148_0, hx148_1, hx148_2⟩ := at_T26 HR0.out x13_1 p148 q148
              cases e148
              replace hx148_0 := (HB.out.cell (World.block_lt_of_cell? w _ hx148_0)).trans hx148_0
              replace hx148_1 := (HB.out.cell (World.block_lt_of_cell? w _ hx148_1)).trans hx148_1
              replace hx148_2 := (HB.out.cell (World.block_lt_of_cell? w _ hx148_2)).trans hx148_2
              replace p148 := eq_true p148
              replace q148 := eq_true q148
              go_wp2_with (first | ((with_reducible refine gate_dst (N := 8) rfl ?_); refine box_event ?hg (N := 8) ?hd (cs := #[.string (⟨#[]⟩ : ByteArray), .string (⟨#[]⟩ : ByteArray), .string (⟨#[]⟩ : ByteArray)]) (t := 26) ?hr ?_; (case hd => rfl); (case hg => rfl); (case hr => first | (go_simp; done) | (go_simp; rfl)); intro gb149 hg w8 hbox hb; have n0_ := Aside0.mk (Kd.R_below (by (with_reducible repeat (first | apply Kd.R_alloc | apply Kd.R_drewN | apply Kd.R_drew)); exact HO_6.out) hb); have n1_ := Aside0.mk (blk_below (g := gb147) (o := .cells #[.string (⟨#[]⟩ : ByteArray), .string (⟨#[]⟩ : ByteArray), .string (⟨#[]⟩ : ByteArray)] 26 (0, 0)) (by (with_reducible repeat (first | refine blk_drewN ?_ _ | refine blk_drew ?_ | refine blk_alloc ?_ _)); exact BK147.out) hb); have n2_ := Aside0.mk (below_step (by repeat (first | (with_reducible first | exact HB.out | apply below_alloc | apply pw_below_drewN | apply below_drew1 | refine below_set ?_ GE147.out) | exact HB.out)) hb); have n3_ := Aside0.mk (hbox); have n4_ := Aside0.mk ((by rw [hg]; exact (below_size (by repeat (first | (with_reducible first | exact HB.out | apply below_alloc | apply pw_below_drewN | apply below_drew1 | refine below_set ?_ GE147.out) | exact HB.out))) : w.heap.size ≤ gb149)); have n5_ := Aside0.mk ((by rw [hg]; exact (below_size (by repeat (first | (with_reducible first | exact HB.out | apply below_alloc | apply pw_below_drewN | apply below_drew1 | refine below_set ?_ GE147.out) | exact HB.out))) : w.heap.size ≤ gb149)); have n6_ := Aside0.mk ((by rw [hg]; exact Nat.ne_of_lt (blk_lt (g := gb147) (o := .cells #[.string (⟨#[]⟩ : ByteArray), .string (⟨#[]⟩ : ByteArray), .string (⟨#[]⟩ : ByteArray)] 26 (0, 0)) (by (with_reducible repeat (first | refine blk_drewN ?_ _ | refine blk_drew ?_ | refine blk_alloc ?_ _)); exact BK147.out)) : gb147 ≠ gb149)); have n7_ := Aside0.mk ((by rw [hg]; exact Nat.ne_of_gt (blk_lt (g := gb147) (o := .cells #[.string (⟨#[]⟩ : ByteArray), .string (⟨#[]⟩ : ByteArray), .string (⟨#[]⟩ : ByteArray)] 26 (0, 0)) (by (with_reducible repeat (first | refine blk_drewN ?_ _ | refine blk_drew ?_ | refine blk_alloc ?_ _)); exact BK147.out)) : gb149 ≠ gb147)); clear HO_6; clear BK147; clear HB; have HO_6 := n0_; have BK147 := n1_; have HB := n2_; have BK149 := n3_; have GW149 := n4_; have GE149 := n5_; have NB147_149 := n6_; have NB149_147 := n7_; clear n0_ n1_ n2_ n3_ n4_ n5_ n6_ n7_; clear hb hbox hg; have hnb9 := NB149_147.out; have hnc9 := NB147_149.out; have hcz10_0 : w8.cell? ⟨gb149, 0, none⟩ = some (.string (⟨#[]⟩ : ByteArray)) := (blk_cell BK149.out 0).trans rfl; have hcz10_1 : w8.cell? ⟨gb149, 1, none⟩ = some (.string (⟨#[]⟩ : ByteArray)) := (blk_cell BK149.out 1).trans rfl; have hcz10_2 : w8.cell? ⟨gb149, 2, none⟩ = some (.string (⟨#[]⟩ : ByteArray)) := (blk_cell BK149.out 2).trans rfl; have hfz10_0 := blk_frozen BK149.out 0; have hfz10_1 := blk_frozen BK149.out 1; have hfz10_2 := blk_frozen BK149.out 2) | ((with_reducible refine gate_builtin (b := .append) (xs := #[.tmp 17, .tmp 23]) rfl ?_); at_builtin; refine Kd.R_append k44 (w0 := w) w.heap.size rfl (.tmp 17) (.tmp 23) 66 44 (.agg #[(.string ⟨#[]⟩), (.string ⟨#[]⟩)]) 32 rfl Try.underlying66 info44 rfl (by decide) (by omega) u6 x6_1 (⟨(rd_T26 l0 x13_1).f0, (rd_T26 l0 x13_1).f1⟩ : S44) [.string ((rd_T26 l0 x13_1).f0), .string ((rd_T26 l0 x13_1).f1)] (fun _ => True) (fun _ => False) rfl (by first | (go_simp; done) | (go_simp; rfl)) ?aP (fun _ hk => hk.elim) ?aF ?aO ?aB ?aS ?aL ?_; (case aP => exact k44_mkM _ _ _ (⟨(rd_T26 l0 x13_1).f0, (rd_T26 l0 x13_1).f1⟩ : S44)); (case aB => exact (by repeat (first | (with_reducible first | exact HB.out | apply below_alloc | apply pw_below_drewN | apply below_drew1 | refine below_set ?_ GE147.out | refine below_set ?_ GE149.out) | exact HB.out))); (case aF => exact (fun _ _ => trivial)); (case aO => exact (by (with_reducible repeat (first | apply Kd.R_alloc | apply Kd.R_drewN | apply Kd.R_drew)); exact Kd.R_mono (Kd.R_far (p := ⟨gb149, 2, none⟩) (Kd.R_far (p := ⟨gb149, 1, none⟩) (Kd.R_far (p := ⟨gb149, 0, none⟩) (Kd.R_types HO_6.out BK149.out (by decide)) (fun _ hk => hk.2) (.string ((rd_T26 l0 x13_1).f0))) (fun _ hk => hk.2) (.string ((rd_T26 l0 x13_1).f1))) (fun _ hk => hk.2) (.string ((rd_T26 l0 x13_1).f2))) (fun _ hk => trivial))); (case aS => exact (below_size (by repeat (first | (with_reducible first | exact HB.out | apply below_alloc | apply pw_below_drewN | apply below_drew1 | refine below_set ?_ GE147.out | refine below_set ?_ GE149.out) | exact HB.out)))); (case aL => have := LMc7.out; omega); intro v151 w11 ho hb hg hat; rw [← Ny150.out] at ho; have n0_ := Aside0.mk (blk_grown (g := gb147) (o := .cells #[.string (⟨#[]⟩ : ByteArray), .string (⟨#[]⟩ : ByteArray), .string (⟨#[]⟩ : ByteArray)] 26 (0, 0)) (by (with_reducible repeat (first | refine blk_drewN ?_ _ | refine blk_drew ?_ | refine blk_alloc ?_ _)); refine blk_far ?_ NB147_149.out _; (with_reducible repeat (first | refine blk_drewN ?_ _ | refine blk_drew ?_ | refine blk_alloc ?_ _)); refine blk_far ?_ NB147_149.out _; (with_reducible repeat (first | refine blk_drewN ?_ _ | refine blk_drew ?_ | refine blk_alloc ?_ _)); refine blk_far ?_ NB147_149.out _; (with_reducible repeat (first | refine blk_drewN ?_ _ | refine blk_drew ?_ | refine blk_alloc ?_ _)); exact BK147.out) hg (Kd.R_ne HO_6.out BK147.out (by decide))); have n1_ := Aside0.mk (blk_grown (g := gb149) (o := .cells #[.string ((rd_T26 l0 x13_1).f0), .string ((rd_T26 l0 x13_1).f1), .string ((rd_T26 l0 x13_1).f2)] 26 (0, 0)) (by (with_reducible repeat (first | refine blk_drewN ?_ _ | refine blk_drew ?_ | refine blk_alloc ?_ _)); refine blk_put (cs := #[.string ((rd_T26 l0 x13_1).f0), .string ((rd_T26 l0 x13_1).f1), .string (⟨#[]⟩ : ByteArray)]) ?_ 2 _ rfl; (with_reducible repeat (first | refine blk_drewN ?_ _ | refine blk_drew ?_ | refine blk_alloc ?_ _)); refine blk_put (cs := #[.string ((rd_T26 l0 x13_1).f0), .string (⟨#[]⟩ : ByteArray), .string (⟨#[]⟩ : ByteArray)]) ?_ 1 _ rfl; (with_reducible repeat (first | refine blk_drewN ?_ _ | refine blk_drew ?_ | refine blk_alloc ?_ _)); refine blk_put (cs := #[.string (⟨#[]⟩ : ByteArray), .string (⟨#[]⟩ : ByteArray), .string (⟨#[]⟩ : ByteArray)]) ?_ 0 _ rfl; (with_reducible repeat (first | refine blk_drewN ?_ _ | refine blk_drew ?_ | refine blk_alloc ?_ _)); exact BK149.out) hg (Kd.R_ne HO_6.out BK149.out (by decide))); have n2_ := Aside0.mk (hb); have n3_ := Aside0.mk (ho); clear BK147; clear BK149; clear HB; clear HO_6; have BK147 := n0_; have BK149 := n1_; have HB := n2_; have HO152 := n3_; clear n0_ n1_ n2_ n3_; clear ho hb hg hat))
              go_roundg k1
              case measure => have := HK1.out; omega
              case rel => exact ⟨(y150), (wrap64 (x13_1 + 1)), (by first | rfl | (simp; done) | (simp [*]; done)), H', ⟨by have := HK1.out; omega⟩, ⟨by (with_reducible repeat (first | apply Kd.R_alloc | apply Kd.R_drewN | apply Kd.R_drew)); exact HO152.out⟩, ⟨by (with_reducible repeat (first | refine blk_drewN ?_ _ | refine blk_drew ?_ | refine blk_alloc ?_ _)); exact BK147.out⟩, ⟨by repeat (first | (with_reducible first | exact HB.out | apply below_alloc | apply pw_below_drewN | apply below_drew1 | refine below_set ?_ GE147.out | refine below_set ?_ GE149.out) | exact HB.out)⟩⟩
            · rw [if_neg c7] at H
              exact absurd H (by simp)
          · rw [if_neg c6] at H
            exact absurd H (by simp)
        · rw [if_neg c5] at H
          exact absurd H (by simp)
      · rw [if_neg c4] at H
        have c4b0 : decide (x13_1 < (l0.length : Int)) = false := decide_eq_false c4
        clear c4
        replace H := Option.bind_eq_some_iff.mp H
        obtain ⟨t153, A120, H⟩ := H
        replace H : ((schema_GroupVersions_KindForGroupVersionKinds.f k1 x6_1 t153).bind fun bt156 => (some (bt156.1, bt156.2.1, bt156.2.2.1, bt156.2.2.2))) = some (r1, r2, r3, r4) := H
        have A12 := Aside0.mk A120
        clear A120
        replace H := Option.bind_eq_some_iff.mp H
        obtain ⟨⟨t156, t157, t158, t159⟩, A130, H⟩ := H
        replace H : (some (t156, t157, t158, t159)) = some (r1, r2, r3, r4) := H
        have A13 := Aside0.mk A130
        clear A130
        simp only [Option.some.injEq, Prod.mk.injEq] at H
        obtain ⟨rfl, rfl, rfl, rfl⟩ := H
        go_wp2_with (first | ((with_reducible refine gate_callee (f := 41) rfl ?_); refine goesL_ (some 29) rfl rfl Try.func41 (by kernel_rfl) rfl #[.slice A1 l1.length c1] rfl (by (try simp only [List.map_toArray, List.map_cons, List.map_nil]); first | done | rfl | (simp only [List.length_drop, List.length_take]; rfl)) ?_; (with_reducible refine (impl_kinds.calls k1 _ _ l1 t153 _ ?side1 ?side2 A12.out).mono ?_); (case side1 => repeat (first | exact (Kd.C_below HR1.out HB.out) | (with_reducible refine Kd.C_alloc ?_ _) | (with_reducible refine Kd.C_drewN ?_ _) | (with_reducible refine Kd.C_drew ?_))); (case side2 => exact HC1.out); rintro e w14 ⟨v154, rfl, ho0, hb⟩; refine ⟨_, rfl, ?_⟩; have n0_ := Aside0.mk (Kd.R_below (by (with_reducible repeat (first | apply Kd.R_alloc | apply Kd.R_drewN | apply Kd.R_drew)); exact HO_6.out) hb); have n1_ := Aside0.mk (Kd.R_lower ho0 (below_size (by repeat (first | (with_reducible first | exact HB.out | apply below_alloc | apply pw_below_drewN | apply below_drew1 | refine below_set ?_ GE147.out) | exact HB.out)))); have n2_ := Aside0.mk (blk_below (g := gb147) (o := .cells #[.string (⟨#[]⟩ : ByteArray), .string (⟨#[]⟩ : ByteArray), .string (⟨#[]⟩ : ByteArray)] 26 (0, 0)) (by (with_reducible repeat (first | refine blk_drewN ?_ _ | refine blk_drew ?_ | refine blk_alloc ?_ _)); exact BK147.out) hb); have n3_ := Aside0.mk (below_step (by repeat (first | (with_reducible first | exact HB.out | apply below_alloc | apply pw_below_drewN | apply below_drew1 | refine below_set ?_ GE147.out) | exact HB.out)) hb); clear HO_6; clear BK147; clear HB; have HO_6 := n0_; have HO155 := n1_; have BK147 := n2_; have HB := n3_; clear n0_ n1_ n2_ n3_; (try clear hb); (try clear hb2); (try clear hk); (try clear hi); (try clear ho0); obtain ⟨Ao15, co15, eo15⟩ := Kd.R_slice HO_6.out; subst eo15; obtain ⟨Ao16, co16, eo16⟩ := Kd.R_slice HO155.out; subst eo16) | ((with_reducible refine gate_callee (f := 40) rfl ?_); refine goesL_ (some 30) rfl rfl Try.func40 (by kernel_rfl) rfl #[.slice Ao15 x6_1.length co15, .slice Ao16 t153.length co16] rfl (by (try simp only [List.map_toArray, List.map_cons, List.map_nil]); first | done | rfl | (simp only [List.length_drop, List.length_take]; rfl)) ?_; (with_reducible refine (schema_GroupVersions_KindForGroupVersionKinds.calls k1 _ _ x6_1 _ _ t153 t156 t157 t158 t159 _ ?side1 ?side2 ?side3 ?side4 A13.out).mono ?_); (case side1 => repeat (first | exact (Kd.R_reads' HO_6.out).2.2 | (with_reducible refine Kd.C_alloc ?_ _) | (with_reducible refine Kd.C_drewN ?_ _) | (with_reducible refine Kd.C_drew ?_))); (case side2 => exact (Kd.R_reads' HO_6.out).2.1); (case side3 => repeat (first | exact (Kd.R_reads' HO155.out).2.2 | (with_reducible refine Kd.C_alloc ?_ _) | (with_reducible refine Kd.C_drewN ?_ _) | (with_reducible refine Kd.C_drew ?_))); (case side4 => exact (Kd.R_reads' HO155.out).2.1); rintro e w17 ⟨rfl, hb⟩; refine ⟨_, rfl, ?_⟩; have n0_ := Aside0.mk (Kd.R_below (by (with_reducible repeat (first | apply Kd.R_alloc | apply Kd.R_drewN | apply Kd.R_drew)); exact HO_6.out) hb); have n1_ := Aside0.mk (Kd.R_below (by (with_reducible repeat (first | apply Kd.R_alloc | apply Kd.R_drewN | apply Kd.R_drew)); exact HO155.out) hb); have n2_ := Aside0.mk (blk_below (g := gb147) (o := .cells #[.string (⟨#[]⟩ : ByteArray), .string (⟨#[]⟩ : ByteArray), .string (⟨#[]⟩ : ByteArray)] 26 (0, 0)) (by (with_reducible repeat (first | refine blk_drewN ?_ _ | refine blk_drew ?_ | refine blk_alloc ?_ _)); exact BK147.out) hb); have n3_ := Aside0.mk (below_step (by repeat (first | (with_reducible first | exact HB.out | apply below_alloc | apply pw_below_drewN | apply below_drew1 | refine below_set ?_ GE147.out) | exact HB.out)) hb); clear HO_6; clear HO155; clear BK147; clear HB; have HO_6 := n0_; have HO155 := n1_; have BK147 := n2_; have HB := n3_; clear n0_ n1_ n2_ n3_; (try clear hb); (try clear hb2); (try clear hk); (try clear hi)) | ((with_reducible refine gate_dst (N := 9) rfl ?_); refine box_event ?hg (N := 9) ?hd (cs := #[.string (⟨#[]⟩ : ByteArray), .string (⟨#[]⟩ : ByteArray), .string (⟨#[]⟩ : ByteArray)]) (t := 51) ?hr ?_; (case hd => rfl); (case hg => rfl); (case hr => first | (go_simp; done) | (go_simp; rfl)); intro gb160 hg w18 hbox hb; have n0_ := Aside0.mk (Kd.R_below (by (with_reducible repeat (first | apply Kd.R_alloc | apply Kd.R_drewN | apply Kd.R_drew)); exact HO_6.out) hb); have n1_ := Aside0.mk (Kd.R_below (Kd.R_elderB (by (with_reducible repeat (first | apply Kd.R_alloc | apply Kd.R_drewN | apply Kd.R_drew)); exact HO155.out) gb160 (Nat.le_of_eq hg.symm)) hb); have n2_ := Aside0.mk (blk_below (g := gb147) (o := .cells #[.string (⟨#[]⟩ : ByteArray), .string (⟨#[]⟩ : ByteArray), .string (⟨#[]⟩ : ByteArray)] 26 (0, 0)) (by (with_reducible repeat (first | refine blk_drewN ?_ _ | refine blk_drew ?_ | refine blk_alloc ?_ _)); exact BK147.out) hb); have n3_ := Aside0.mk (below_step (by repeat (first | (with_reducible first | exact HB.out | apply below_alloc | apply pw_below_drewN | apply below_drew1 | refine below_set ?_ GE147.out) | exact HB.out)) hb); have n4_ := Aside0.mk (hbox); have n5_ := Aside0.mk ((by rw [hg]; exact (below_size (by repeat (first | (with_reducible first | exact HB.out | apply below_alloc | apply pw_below_drewN | apply below_drew1 | refine below_set ?_ GE147.out) | exact HB.out))) : w.heap.size ≤ gb160)); have n6_ := Aside0.mk ((by rw [hg]; exact (below_size (by repeat (first | (with_reducible first | exact HB.out | apply below_alloc | apply pw_below_drewN | apply below_drew1 | refine below_set ?_ GE147.out) | exact HB.out))) : w.heap.size ≤ gb160)); have n7_ := Aside0.mk ((by rw [hg]; exact Nat.ne_of_lt (blk_lt (g := gb147) (o := .cells #[.string (⟨#[]⟩ : ByteArray), .string (⟨#[]⟩ : ByteArray), .string (⟨#[]⟩ : ByteArray)] 26 (0, 0)) (by (with_reducible repeat (first | refine blk_drewN ?_ _ | refine blk_drew ?_ | refine blk_alloc ?_ _)); exact BK147.out)) : gb147 ≠ gb160)); have n8_ := Aside0.mk ((by rw [hg]; exact Nat.ne_of_gt (blk_lt (g := gb147) (o := .cells #[.string (⟨#[]⟩ : ByteArray), .string (⟨#[]⟩ : ByteArray), .string (⟨#[]⟩ : ByteArray)] 26 (0, 0)) (by (with_reducible repeat (first | refine blk_drewN ?_ _ | refine blk_drew ?_ | refine blk_alloc ?_ _)); exact BK147.out)) : gb160 ≠ gb147)); clear HO_6; clear HO155; clear BK147; clear HB; have HO_6 := n0_; have HO155 := n1_; have BK147 := n2_; have HB := n3_; have BK160 := n4_; have GW160 := n5_; have GE160 := n6_; have NB147_160 := n7_; have NB160_147 := n8_; clear n0_ n1_ n2_ n3_ n4_ n5_ n6_ n7_ n8_; clear hb hbox hg; have hnb19 := NB160_147.out; have hnc19 := NB147_160.out; have hcz20_0 : w18.cell? ⟨gb160, 0, none⟩ = some (.string (⟨#[]⟩ : ByteArray)) := (blk_cell BK160.out 0).trans rfl; have hcz20_1 : w18.cell? ⟨gb160, 1, none⟩ = some (.string (⟨#[]⟩ : ByteArray)) := (blk_cell BK160.out 1).trans rfl; have hcz20_2 : w18.cell? ⟨gb160, 2, none⟩ = some (.string (⟨#[]⟩ : ByteArray)) := (blk_cell BK160.out 2).trans rfl; have hfz20_0 := blk_frozen BK160.out 0; have hfz20_1 := blk_frozen BK160.out 1; have hfz20_2 := blk_frozen BK160.out 2; have hcz21_0 : w18.cell? ⟨gb147, 0, none⟩ = some (.string (⟨#[]⟩ : ByteArray)) := (blk_cell BK147.out 0).trans rfl; have hcz21_1 : w18.cell? ⟨gb147, 1, none⟩ = some (.string (⟨#[]⟩ : ByteArray)) := (blk_cell BK147.out 1).trans rfl; have hcz21_2 : w18.cell? ⟨gb147, 2, none⟩ = some (.string (⟨#[]⟩ : ByteArray)) := (blk_cell BK147.out 2).trans rfl; have hfz21_0 := blk_frozen BK147.out 0; have hfz21_1 := blk_frozen BK147.out 1; have hfz21_2 := blk_frozen BK147.out 2))
        refine bodyPost_ret (results_ct rfl _ _ gb147 26 #[.string t156, .string t157, .string t158] (0, 0) _ rfl (by (with_reducible repeat (first | refine blk_drewN ?_ _ | refine blk_drew ?_ | refine blk_alloc ?_ _)); refine blk_put (cs := #[.string t156, .string t157, .string (⟨#[]⟩ : ByteArray)]) ?_ 2 _ rfl; (with_reducible repeat (first | refine blk_drewN ?_ _ | refine blk_drew ?_ | refine blk_alloc ?_ _)); refine blk_put (cs := #[.string t156, .string (⟨#[]⟩ : ByteArray), .string (⟨#[]⟩ : ByteArray)]) ?_ 1 _ rfl; (with_reducible repeat (first | refine blk_drewN ?_ _ | refine blk_drew ?_ | refine blk_alloc ?_ _)); refine blk_put (cs := #[.string (⟨#[]⟩ : ByteArray), .string (⟨#[]⟩ : ByteArray), .string (⟨#[]⟩ : ByteArray)]) ?_ 0 _ rfl; (with_reducible repeat (first | refine blk_drewN ?_ _ | refine blk_drew ?_ | refine blk_alloc ?_ _)); refine blk_far ?_ NB147_160.out _; (with_reducible repeat (first | refine blk_drewN ?_ _ | refine blk_drew ?_ | refine blk_alloc ?_ _)); refine blk_far ?_ NB147_160.out _; (with_reducible repeat (first | refine blk_drewN ?_ _ | refine blk_drew ?_ | refine blk_alloc ?_ _)); refine blk_far ?_ NB147_160.out _; (with_reducible repeat (first | refine blk_drewN ?_ _ | refine blk_drew ?_ | refine blk_alloc ?_ _)); exact BK147.out) Try.underlying26 rfl (by kernel_rfl)) rfl ?_
        exact ⟨by first | rfl | (simp [errW_none, errW_some] <;> rfl) | (simp [*, errW_none, errW_some] <;> rfl), by repeat (first | (with_reducible first | exact HB.out | apply below_alloc | apply pw_below_drewN | apply below_drew1 | refine below_set ?_ GE147.out | refine below_set ?_ GE160.out) | exact HB.out)⟩

/-! ### spec_KindHas: function 24 -/
def spec_KindHas.l0 : Nat → ByteArray → ByteArray → List (S26) → Bool → Bool → Int → Option (Bool × Bool)
  | 0, _, _, _, _, _, _ => none
  | k + 1, x0, x1, x2, x8, x9, x10 => if x10 < (x2.length : Int) then (if x8 = true then (if x9 = true then (spec_KindHas.l0 k x0 x1 x2 true true (wrap64 (x10 + 1))) else (if 0 ≤ x10 then (if ((rd_T26 x2 x10).f0).toList = x0.toList then (spec_KindHas.l0 k x0 x1 x2 true (((rd_T26 x2 x10).f1).toList == x1.toList) (wrap64 (x10 + 1))) else (spec_KindHas.l0 k x0 x1 x2 true false (wrap64 (x10 + 1)))) else (none))) else (if 0 ≤ x10 then (if x9 = true then (spec_KindHas.l0 k x0 x1 x2 (((rd_T26 x2 x10).f0).toList == x0.toList) true (wrap64 (x10 + 1))) else (if ((rd_T26 x2 x10).f0).toList = x0.toList then (spec_KindHas.l0 k x0 x1 x2 (((rd_T26 x2 x10).f0).toList == x0.toList) (((rd_T26 x2 x10).f1).toList == x1.toList) (wrap64 (x10 + 1))) else (spec_KindHas.l0 k x0 x1 x2 (((rd_T26 x2 x10).f0).toList == x0.toList) false (wrap64 (x10 + 1))))) else (none))) else (some (x8, x9))
def spec_KindHas.f (k : Nat) (a0 : ByteArray) (a1 : ByteArray) (l2 : List (S26)) : Option (Bool × Bool) := spec_KindHas.l0 k a0 a1 l2 false false 0
theorem spec_KindHas.mono_l : ∀ k, (∀ y0 y1 y2 y3 y4 y5, LeO (spec_KindHas.l0 k y0 y1 y2 y3 y4 y5) (spec_KindHas.l0 (k + 1) y0 y1 y2 y3 y4 y5))
  | 0 => fun _ _ _ _ _ _ r h => by simp [spec_KindHas.l0] at h
  | k + 1 => by
    have ih0 := spec_KindHas.mono_l k
    · intro y0 y1 y2 y3 y4 y5
      unfold spec_KindHas.l0
      repeat' first
      | (with_reducible exact ih0 _ _ _ _ _ _)
      | (with_reducible exact LeO.refl _)
      | (with_reducible exact LeO.none _)
      | (with_reducible refine LeO.ite ?_ ?_)
      | (with_reducible refine LeO.bind ?_ (fun _ => ?_))
      | exact ih0 _ _ _ _ _ _
      | exact LeO.none _
      | refine LeO.ite ?_ ?_
      | refine LeO.bind ?_ (fun _ => ?_)
theorem spec_KindHas.mono : ∀ a0 a1 a2 k, LeO (spec_KindHas.f k a0 a1 a2) (spec_KindHas.f (k + 1) a0 a1 a2) := by
  intro a0 a1 a2 k
  have ih0 := spec_KindHas.mono_l k
  unfold spec_KindHas.f
  repeat' first
      | (with_reducible exact ih0 _ _ _ _ _ _)
      | (with_reducible exact LeO.refl _)
      | (with_reducible exact LeO.none _)
      | (with_reducible refine LeO.ite ?_ ?_)
      | (with_reducible refine LeO.bind ?_ (fun _ => ?_))
      | exact ih0 _ _ _ _ _ _
      | exact LeO.none _
      | refine LeO.ite ?_ ?_
      | refine LeO.bind ?_ (fun _ => ?_)
set_option maxHeartbeats 8000000 in
set_option maxRecDepth 100000 in
theorem spec_KindHas.calls (k : Nat) (a0 : ByteArray) (a1 : ByteArray) (A2 : Option Addr) (c2 : Nat) (l2 : List (S26)) (r1 : Bool) (r2 : Bool) (w : World) (hr2 : Kd.C k26 w A2 l2.length l2) (hc2 : l2.length ≤ c2) (h : spec_KindHas.f k a0 a1 l2 = some (r1, r2)) :
    Calls Try.prog 24 #[.string a0, .string a1, .slice A2 l2.length c2] w fun e w' => e = .returned (.tuple #[.bool r1, .bool r2]) ∧ Drawn0 w w' := by
  have HR2 := Aside0.mk hr2
  have HC2 := Aside0.mk hc2
  clear hr2 hc2
  have H : (spec_KindHas.l0 k a0 a1 l2 false false 0) = some (r1, r2) := h
  clear h
  have H' := Aside0.mk H
  clear H
  go_enter Try.func24, Try.ntmps24
  go_wp2
  go_loopg [8, 9, 10] k (fun kq v8 v9 v10 w' => ∃ (x8_1 : Bool) (x9_1 : Bool) (x10_1 : Int), v8 = .bool x8_1 ∧ v9 = .bool x9_1 ∧ v10 = .int .i64 x10_1 ∧ Aside0 (spec_KindHas.l0 kq a0 a1 l2 x8_1 x9_1 x10_1 = some (r1, r2)) ∧ Aside0 (kq ≤ k) ∧ Drawn0 w w')
  case atStart => exact ⟨(false), (false), (0), (by first | rfl | (simp; done) | (simp [*]; done)), (by first | rfl | (simp; done) | (simp [*]; done)), (by first | rfl | (simp; done) | (simp [*]; done)), H', ⟨Nat.le_refl _⟩, by repeat (first | exact Drawn0.refl _ | apply Drawn0.step)⟩
  case round =>
    clear H'
    try clear c2
    try clear p2
    obtain ⟨x8_1, x9_1, x10_1, rfl, rfl, rfl, HA, HK1, ⟨m1, rfl⟩⟩ := hrel
    cases gk with
    | zero => exact absurd HA.out (by simp [spec_KindHas.l0])
    | succ k1 =>
      have H := HA.out
      clear HA
      simp only [spec_KindHas.l0] at H
      by_cases c4 : x10_1 < (l2.length : Int)
      · rw [if_pos c4] at H
        have c4b0 : decide (x10_1 < (l2.length : Int)) = true := decide_eq_true c4
        clear c4
        by_cases c5 : x8_1 = true
        · subst c5
          have H1 : (if x9_1 = true then (spec_KindHas.l0 k1 a0 a1 l2 true true (wrap64 (x10_1 + 1))) else (if 0 ≤ x10_1 then (if ((rd_T26 l2 x10_1).f0).toList = a0.toList then (spec_KindHas.l0 k1 a0 a1 l2 true (((rd_T26 l2 x10_1).f1).toList == a1.toList) (wrap64 (x10_1 + 1))) else (spec_KindHas.l0 k1 a0 a1 l2 true false (wrap64 (x10_1 + 1)))) else (none))) = some (r1, r2) := by rw [if_pos rfl] at H; exact H
          clear H
          have H := H1
          clear H1
          by_cases c6 : x9_1 = true
          · subst c6
            have H1 : (spec_KindHas.l0 k1 a0 a1 l2 true true (wrap64 (x10_1 + 1))) = some (r1, r2) := by rw [if_pos rfl] at H; exact H
            clear H
            have H := H1
            clear H1
            have H' := Aside0.mk H
            clear H
            go_wp2
            go_roundg k1
            case measure => have := HK1.out; omega
            case rel => exact ⟨(true), (true), (wrap64 (x10_1 + 1)), (by first | rfl | (simp; done) | (simp [*]; done)), (by first | rfl | (simp; done) | (simp [*]; done)), (by first | rfl | (simp; done) | (simp [*]; done)), H', ⟨by have := HK1.out; omega⟩, by repeat (first | exact Drawn0.refl _ | apply Drawn0.step)⟩
          · replace c6 := Bool.eq_false_iff.mpr c6
            subst c6
            have H1 : (if 0 ≤ x10_1 then (if ((rd_T26 l2 x10_1).f0).toList = a0.toList then (spec_KindHas.l0 k1 a0 a1 l2 true (((rd_T26 l2 x10_1).f1).toList == a1.toList) (wrap64 (x10_1 + 1))) else (spec_KindHas.l0 k1 a0 a1 l2 true false (wrap64 (x10_1 + 1)))) else (none)) = some (r1, r2) := by rw [if_neg (show ¬ (false = true) by decide)] at H; exact H
            clear H
            have H := H1
            clear H1
            by_cases c7 : 0 ≤ x10_1
            · rw [if_pos c7] at H
              have c7b0 : decide (0 ≤ x10_1) = true := decide_eq_true c7
              clear c7
              by_cases c8 : ((rd_T26 l2 x10_1).f0).toList = a0.toList
              · rw [if_pos c8] at H
                have c8b0 : (((rd_T26 l2 x10_1).f0).toList == a0.toList) = true := beq_iff_eq.mpr c8
                have c8b1 : (((rd_T26 l2 x10_1).f0).toList != a0.toList) = false := bne_eq_false_iff_eq.mpr c8
                clear c8
                have H' := Aside0.mk H
                clear H
                have p161 : 0 ≤ (x10_1 : Int) := of_decide_eq_true (by first | (with_reducible assumption) | assumption)
                have q161 : x10_1 < (l2.length : Int) := of_decide_eq_true (by first | (with_reducible assumption) | assumption)
                obtain ⟨ad161, e161, hx161_0, hx161_1, hx161_2⟩ := at_T26 HR2.out x10_1 p161 q161
                cases e161
                replace p161 := eq_true p161
                replace q161 := eq_true q161
                have p162 : 0 ≤ (x10_1 : Int) := of_decide_eq_true (by first | (with_reducible assumption) | assumption)
                have q162 : x10_1 < (l2.length : Int) := of_decide_eq_true (by first | (with_reducible assumption) | assumption)
                obtain ⟨ad162, e162, hx162_0, hx162_1, hx162_2⟩ := at_T26 HR2.out x10_1 p162 q162
                obtain rfl : ad161 = ad162 := (by injection e162)
                replace p162 := eq_true p162
                replace q162 := eq_true q162
                go_wp2
                go_roundg k1
                case measure => have := HK1.out; omega
                case rel => exact ⟨(true), ((((rd_T26 l2 x10_1).f1).toList == a1.toList)), (wrap64 (x10_1 + 1)), (by first | rfl | (simp; done) | (simp [*]; done)), (by first | rfl | (simp; done) | (simp [*]; done)), (by first | rfl | (simp; done) | (simp [*]; done)), H', ⟨by have := HK1.out; omega⟩, by repeat (first | exact Drawn0.refl _ | apply Drawn0.step)⟩
              · rw [if_neg c8] at H
                have c8b0 : (((rd_T26 l2 x10_1).f0).toList == a0.toList) = false := beq_eq_false_iff_ne.mpr c8
                have c8b1 : (((rd_T26 l2 x10_1).f0).toList != a0.toList) = true := bne_iff_ne.mpr c8
                have H' := Aside0.mk H
                clear H
                have p161 : 0 ≤ (x10_1 : Int) := of_decide_eq_true (by first | (with_reducible assumption) | assumption)
                have q161 : x10_1 < (l2.length : Int) := of_decide_eq_true (by first | (with_reducible assumption) | assumption)
                obtain ⟨ad161, e161, hx161_0, hx161_1, hx161_2⟩ := at_T26 HR2.out x10_1 p161 q161
                cases e161
                replace p161 := eq_true p161
                replace q161 := eq_true q161
                go_wp2
                go_roundg k1
                case measure => have := HK1.out; omega
                case rel => exact ⟨(true), (false), (wrap64 (x10_1 + 1)), (by first | rfl | (simp; done) | (simp [*]; done)), (by first | rfl | (simp; done) | (simp [*]; done)), (by first | rfl | (simp; done) | (simp [*]; done)), H', ⟨by have := HK1.out; omega⟩, by repeat (first | exact Drawn0.refl _ | apply Drawn0.step)⟩
            · rw [if_neg c7] at H
              exact absurd H (by simp)
        · replace c5 := Bool.eq_false_iff.mpr c5
          subst c5
          have H1 : (if 0 ≤ x10_1 then (if x9_1 = true then (spec_KindHas.l0 k1 a0 a1 l2 (((rd_T26 l2 x10_1).f0).toList == a0.toList) true (wrap64 (x10_1 + 1))) else (if ((rd_T26 l2 x10_1).f0).toList = a0.toList then (spec_KindHas.l0 k1 a0 a1 l2 (((rd_T26 l2 x10_1).f0).toList == a0.toList) (((rd_T26 l2 x10_1).f1).toList == a1.toList) (wrap64 (x10_1 + 1))) else (spec_KindHas.l0 k1 a0 a1 l2 (((rd_T26 l2 x10_1).f0).toList == a0.toList) false (wrap64 (x10_1 + 1))))) else (none)) = some (r1, r2) := by rw [if_neg (show ¬ (false = true) by decide)] at H; exact H
          clear H
          have H := H1
          clear H1
          by_cases c9 : 0 ≤ x10_1
          · rw [if_pos c9] at H
            have c9b0 : decide (0 ≤ x10_1) = true := decide_eq_true c9
            clear c9
            by_cases c10 : x9_1 = true
            · subst c10
              have H1 : (spec_KindHas.l0 k1 a0 a1 l2 (((rd_T26 l2 x10_1).f0).toList == a0.toList) true (wrap64 (x10_1 + 1))) = some (r1, r2) := by rw [if_pos rfl] at H; exact H
              clear H
              have H := H1
              clear H1
              have H' := Aside0.mk H
              clear H
              have p163 : 0 ≤ (x10_1 : Int) := of_decide_eq_true (by first | (with_reducible assumption) | assumption)
              have q163 : x10_1 < (l2.length : Int) := of_decide_eq_true (by first | (with_reducible assumption) | assumption)
              obtain ⟨ad163, e163, hx163_0, hx163_1, hx163_2⟩ := at_T26 HR2.out x10_1 p163 q163
              cases e163
              replace p163 := eq_true p163
              replace q163 := eq_true q163
              go_wp2
              go_roundg k1
              case measure => have := HK1.out; omega
              case rel => exact ⟨((((rd_T26 l2 x10_1).f0).toList == a0.toList)), (true), (wrap64 (x10_1 + 1)), (by first | rfl | (simp; done) | (simp [*]; done)), (by first | rfl | (simp; done) | (simp [*]; done)), (by first | rfl | (simp; done) | (simp [*]; done)), H', ⟨by have := HK1.out; omega⟩, by repeat (first | exact Drawn0.refl _ | apply Drawn0.step)⟩
            · replace c10 := Bool.eq_false_iff.mpr c10
              subst c10
              have H1 : (if ((rd_T26 l2 x10_1).f0).toList = a0.toList then (spec_KindHas.l0 k1 a0 a1 l2 (((rd_T26 l2 x10_1).f0).toList == a0.toList) (((rd_T26 l2 x10_1).f1).toList == a1.toList) (wrap64 (x10_1 + 1))) else (spec_KindHas.l0 k1 a0 a1 l2 (((rd_T26 l2 x10_1).f0).toList == a0.toList) false (wrap64 (x10_1 + 1)))) = some (r1, r2) := by rw [if_neg (show ¬ (false = true) by decide)] at H; exact H
              clear H
              have H := H1
              clear H1
              by_cases c11 : ((rd_T26 l2 x10_1).f0).toList = a0.toList
              · rw [if_pos c11] at H
                have c11b0 : (((rd_T26 l2 x10_1).f0).toList == a0.toList) = true := beq_iff_eq.mpr c11
                have c11b1 : (((rd_T26 l2 x10_1).f0).toList != a0.toList) = false := bne_eq_false_iff_eq.mpr c11
                clear c11
                have H' := Aside0.mk H
                clear H
                have p163 : 0 ≤ (x10_1 : Int) := of_decide_eq_true (by first | (with_reducible assumption) | assumption)
                have q163 : x10_1 < (l2.length : Int) := of_decide_eq_true (by first | (with_reducible assumption) | assumption)
                obtain ⟨ad163, e163, hx163_0, hx163_1, hx163_2⟩ := at_T26 HR2.out x10_1 p163 q163
                cases e163
                replace p163 := eq_true p163
                replace q163 := eq_true q163
                have p164 : 0 ≤ (x10_1 : Int) := of_decide_eq_true (by first | (with_reducible assumption) | assumption)
                have q164 : x10_1 < (l2.length : Int) := of_decide_eq_true (by first | (with_reducible assumption) | assumption)
                obtain ⟨ad164, e164, hx164_0, hx164_1, hx164_2⟩ := at_T26 HR2.out x10_1 p164 q164
                obtain rfl : ad163 = ad164 := (by injection e164)
                replace p164 := eq_true p164
                replace q164 := eq_true q164
                have p165 : 0 ≤ (x10_1 : Int) := of_decide_eq_true (by first | (with_reducible assumption) | assumption)
                have q165 : x10_1 < (l2.length : Int) := of_decide_eq_true (by first | (with_reducible assumption) | assumption)
                obtain ⟨ad165, e165, hx165_0, hx165_1, hx165_2⟩ := at_T26 HR2.out x10_1 p165 q165
                obtain rfl : ad163 = ad165 := (by injection e165)
                replace p165 := eq_true p165
                replace q165 := eq_true q165
                go_wp2
                go_roundg k1
                case measure => have := HK1.out; omega
                case rel => exact ⟨((((rd_T26 l2 x10_1).f0).toList == a0.toList)), ((((rd_T26 l2 x10_1).f1).toList == a1.toList)), (wrap64 (x10_1 + 1)), (by first | rfl | (simp; done) | (simp [*]; done)), (by first | rfl | (simp; done) | (simp [*]; done)), (by first | rfl | (simp; done) | (simp [*]; done)), H', ⟨by have := HK1.out; omega⟩, by repeat (first | exact Drawn0.refl _ | apply Drawn0.step)⟩
              · rw [if_neg c11] at H
                have c11b0 : (((rd_T26 l2 x10_1).f0).toList == a0.toList) = false := beq_eq_false_iff_ne.mpr c11
                have c11b1 : (((rd_T26 l2 x10_1).f0).toList != a0.toList) = true := bne_iff_ne.mpr c11
                have H' := Aside0.mk H
                clear H
                have p163 : 0 ≤ (x10_1 : Int) := of_decide_eq_true (by first | (with_reducible assumption) | assumption)
                have q163 : x10_1 < (l2.length : Int) := of_decide_eq_true (by first | (with_reducible assumption) | assumption)
                obtain ⟨ad163, e163, hx163_0, hx163_1, hx163_2⟩ := at_T26 HR2.out x10_1 p163 q163
                cases e163
                replace p163 := eq_true p163
                replace q163 := eq_true q163
                have p164 : 0 ≤ (x10_1 : Int) := of_decide_eq_true (by first | (with_reducible assumption) | assumption)
                have q164 : x10_1 < (l2.length : Int) := of_decide_eq_true (by first | (with_reducible assumption) | assumption)
                obtain ⟨ad164, e164, hx164_0, hx164_1, hx164_2⟩ := at_T26 HR2.out x10_1 p164 q164
                obtain rfl : ad163 = ad164 := (by injection e164)
                replace p164 := eq_true p164
                replace q164 := eq_true q164
                go_wp2
                go_roundg k1
                case measure => have := HK1.out; omega
                case rel => exact ⟨((((rd_T26 l2 x10_1).f0).toList == a0.toList)), (false), (wrap64 (x10_1 + 1)), (by first | rfl | (simp; done) | (simp [*]; done)), (by first | rfl | (simp; done) | (simp [*]; done)), (by first | rfl | (simp; done) | (simp [*]; done)), H', ⟨by have := HK1.out; omega⟩, by repeat (first | exact Drawn0.refl _ | apply Drawn0.step)⟩
          · rw [if_neg c9] at H
            exact absurd H (by simp)
      · rw [if_neg c4] at H
        have c4b0 : decide (x10_1 < (l2.length : Int)) = false := decide_eq_false c4
        clear c4
        simp only [Option.some.injEq, Prod.mk.injEq] at H
        obtain ⟨rfl, rfl⟩ := H
        go_wp2
        go_ret2
        exact ⟨by first | rfl | (simp; done) | (simp [*]; done), by repeat (first | exact Drawn0.refl _ | apply Drawn0.step)⟩

end Go.Proofs.Ytehgokciafpnbaa.XFnKindForAny
