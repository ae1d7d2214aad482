/- A text of this session: the functions of the law FnFieldExact, by a program that calls the kit's print and lays this session's own contracts of single functions beside. -/
import Derived.Test.YtccdnmachpepcaaDoorXFnFieldExactx0
import Derived.Test.YtccdnmachpepcaaDoorXFnFieldExactx1
import Derived.Test.YtccdnmachpepcaaDoorXFnFieldExactx2
import Derived.Test.YtccdnmachpepcaaDoorXFnFieldExactx3
namespace Go.Proofs.YtccdnmachpepcaaDoor.XFnFieldExact
open Go.RowKit Go.Proofs.YtccdnmachpepcaaDoorW.PrintWords Go.Proofs.YtccdnmachpepcaaDoorW.PrintLast Go.Proofs.YtccdnmachpepcaaDoorW.PrintMore
attribute [local go_sem] max2_int min2_int max_two min_two max_three min_three max_four min_four   -- for this text's walks alone
set_option linter.unusedVariables false
set_option linter.unusedSimpArgs false

/-! ### spec_FieldTerms: function 7 -/
mutual
def spec_FieldTerms.l0 : Nat → List (S50) → List ByteArray → Int → Option ((List (S50)) × Bool)
  | 0, _, _, _ => none
  | k + 1, x4, x5, x6 => if x6 < (x5.length : Int) then (if 0 ≤ x6 then (if (rdOf ByteArray.empty x5 x6).toList = ([] : List UInt8) then (spec_FieldTerms.l0 k x4 x5 (wrap64 (x6 + 1))) else ((spec_FieldCut.f k (rdOf ByteArray.empty x5 x6)).bind fun bt178 => ((spec_Unescape.f k bt178.2.2.1).bind fun bt182 => (if bt178.2.2.2 = true then (spec_FieldTerms.j1 k x4 x5 x6 bt178.1 bt178.2.1 bt182.1 (!bt182.2)) else (spec_FieldTerms.j1 k x4 x5 x6 bt178.1 bt178.2.1 bt182.1 true))))) else (none)) else (some (x4, true))
def spec_FieldTerms.j1 : Nat → List (S50) → List ByteArray → Int → ByteArray → ByteArray → ByteArray → Bool → Option ((List (S50)) × Bool)
  | 0, _, _, _, _, _, _, _ => none
  | k + 1, x4, x5, x6, x7, x8, x11, x47 => if x47 = true then (some (([] : List (S50)), false)) else (if x8.toList = ([61, 61] : List UInt8) then (if x7.toList = ([] : List UInt8) then (if x11.toList = ([] : List UInt8) then (spec_FieldTerms.l0 k x4 x5 (wrap64 (x6 + 1))) else (if x4.length < 2932031007402 then (spec_FieldTerms.l0 k (x4 ++ [(⟨x7, (⟨#[61]⟩ : ByteArray), x11⟩ : S50)]) x5 (wrap64 (x6 + 1))) else (none))) else (if x4.length < 2932031007402 then (spec_FieldTerms.l0 k (x4 ++ [(⟨x7, (⟨#[61]⟩ : ByteArray), x11⟩ : S50)]) x5 (wrap64 (x6 + 1))) else (none))) else (if x7.toList = ([] : List UInt8) then (if x11.toList = ([] : List UInt8) then (spec_FieldTerms.l0 k x4 x5 (wrap64 (x6 + 1))) else (if x4.length < 2932031007402 then (spec_FieldTerms.l0 k (x4 ++ [(⟨x7, x8, x11⟩ : S50)]) x5 (wrap64 (x6 + 1))) else (none))) else (if x4.length < 2932031007402 then (spec_FieldTerms.l0 k (x4 ++ [(⟨x7, x8, x11⟩ : S50)]) x5 (wrap64 (x6 + 1))) else (none))))
end
def spec_FieldTerms.f (k : Nat) (a0 : ByteArray) : Option ((List (S50)) × Bool) := (spec_FieldPieces.f k a0).bind fun t170 => ((spec_sorted.f k t170).bind fun t173 => (spec_FieldTerms.l0 k ([] : List (S50)) t173 0))
theorem spec_FieldTerms.mono_l : ∀ k, (∀ y0 y1 y2, LeO (spec_FieldTerms.l0 k y0 y1 y2) (spec_FieldTerms.l0 (k + 1) y0 y1 y2)) ∧ (∀ y0 y1 y2 y3 y4 y5 y6, LeO (spec_FieldTerms.j1 k y0 y1 y2 y3 y4 y5 y6) (spec_FieldTerms.j1 (k + 1) y0 y1 y2 y3 y4 y5 y6))
  | 0 => ⟨fun _ _ _ r h => by simp [spec_FieldTerms.l0] at h, fun _ _ _ _ _ _ _ r h => by simp [spec_FieldTerms.j1] at h⟩
  | k + 1 => by
    obtain ⟨ih0, ih1⟩ := spec_FieldTerms.mono_l k
    refine ⟨?_, ?_⟩
    · intro y0 y1 y2
      unfold spec_FieldTerms.l0
      repeat' first
      | (with_reducible exact ih0 _ _ _)
      | (with_reducible exact ih1 _ _ _ _ _ _ _)
      | (with_reducible exact spec_FieldCut.mono _ _)
      | (with_reducible exact spec_FieldPieces.mono _ _)
      | (with_reducible exact spec_Unescape.mono _ _)
      | (with_reducible exact spec_sorted.mono _ _)
      | (with_reducible exact LeO.refl _)
      | (with_reducible exact LeO.none _)
      | (with_reducible refine LeO.ite ?_ ?_)
      | (with_reducible refine LeO.bind ?_ (fun _ => ?_))
      | exact ih0 _ _ _
      | exact ih1 _ _ _ _ _ _ _
      | exact spec_FieldCut.mono _ _
      | exact spec_FieldPieces.mono _ _
      | exact spec_Unescape.mono _ _
      | exact spec_sorted.mono _ _
      | exact LeO.none _
      | refine LeO.ite ?_ ?_
      | refine LeO.bind ?_ (fun _ => ?_)
    · intro y0 y1 y2 y3 y4 y5 y6
      unfold spec_FieldTerms.j1
      repeat' first
      | (with_reducible exact ih0 _ _ _)
      | (with_reducible exact ih1 _ _ _ _ _ _ _)
      | (with_reducible exact spec_FieldCut.mono _ _)
      | (with_reducible exact spec_FieldPieces.mono _ _)
      | (with_reducible exact spec_Unescape.mono _ _)
      | (with_reducible exact spec_sorted.mono _ _)
      | (with_reducible exact LeO.refl _)
      | (with_reducible exact LeO.none _)
      | (with_reducible refine LeO.ite ?_ ?_)
      | (with_reducible refine LeO.bind ?_ (fun _ => ?_))
      | exact ih0 _ _ _
      | exact ih1 _ _ _ _ _ _ _
      | exact spec_FieldCut.mono _ _
      | exact spec_FieldPieces.mono _ _
      | exact spec_Unescape.mono _ _
      | exact spec_sorted.mono _ _
      | exact LeO.none _
      | refine LeO.ite ?_ ?_
      | refine LeO.bind ?_ (fun _ => ?_)
theorem spec_FieldTerms.mono : ∀ a0 k, LeO (spec_FieldTerms.f k a0) (spec_FieldTerms.f (k + 1) a0) := by
  intro a0 k
  obtain ⟨ih0, ih1⟩ := spec_FieldTerms.mono_l k
  unfold spec_FieldTerms.f
  repeat' first
      | (with_reducible exact ih0 _ _ _)
      | (with_reducible exact ih1 _ _ _ _ _ _ _)
      | (with_reducible exact spec_FieldCut.mono _ _)
      | (with_reducible exact spec_FieldPieces.mono _ _)
      | (with_reducible exact spec_Unescape.mono _ _)
      | (with_reducible exact spec_sorted.mono _ _)
      | (with_reducible exact LeO.refl _)
      | (with_reducible exact LeO.none _)
      | (with_reducible refine LeO.ite ?_ ?_)
      | (with_reducible refine LeO.bind ?_ (fun _ => ?_))
      | exact ih0 _ _ _
      | exact ih1 _ _ _ _ _ _ _
      | exact spec_FieldCut.mono _ _
      | exact spec_FieldPieces.mono _ _
      | exact spec_Unescape.mono _ _
      | exact spec_sorted.mono _ _
      | exact LeO.none _
      | refine LeO.ite ?_ ?_
      | refine LeO.bind ?_ (fun _ => ?_)
set_option maxHeartbeats 8000000 in
set_option maxRecDepth 100000 in
theorem spec_FieldTerms.calls (k : Nat) (a0 : ByteArray) (r1 : List (S50)) (r2 : Bool) (w : World) (h : spec_FieldTerms.f k a0 = some (r1, r2)) :
    Calls Tryd.prog 7 #[.string a0] w fun e w' => ∃ v0_ : Value, e = .returned (.tuple #[v0_, .bool r2]) ∧ Kd.R k50 50 w' w.heap.size (fun _ => True) v0_ r1 ∧ Below w.heap.size w w' := by
  have hu50 := Tryd.underlying50
  have HB := Aside0.mk (Below.refl w.heap.size w)
  have H : ((spec_FieldPieces.f k a0).bind fun t170 => ((spec_sorted.f k t170).bind fun t173 => (spec_FieldTerms.l0 k ([] : List (S50)) t173 0))) = some (r1, r2) := h
  clear h
  replace H := Option.bind_eq_some_iff.mp H
  obtain ⟨t170, A20, H⟩ := H
  replace H : ((spec_sorted.f k t170).bind fun t173 => (spec_FieldTerms.l0 k ([] : List (S50)) t173 0)) = some (r1, r2) := H
  have A2 := Aside0.mk A20
  clear A20
  replace H := Option.bind_eq_some_iff.mp H
  obtain ⟨t173, A30, H⟩ := H
  replace H : (spec_FieldTerms.l0 k ([] : List (S50)) t173 0) = some (r1, r2) := H
  have A3 := Aside0.mk A30
  clear A30
  have H' := Aside0.mk H
  clear H
  go_enter Tryd.func7, Tryd.ntmps7
  go_wp2_with (first | ((with_reducible refine gate_callee (f := 16) rfl ?_); refine goesL_ (some 14) rfl rfl Tryd.func16 (by kernel_rfl) rfl #[.string a0] rfl (by (try simp only [List.map_toArray, List.map_cons, List.map_nil]); first | done | rfl | (simp only [List.length_drop, List.length_take]; rfl)) ?_; (with_reducible refine (spec_FieldPieces.calls k a0 t170 _ A2.out).mono ?_); rintro e w4 ⟨v171, rfl, ho0, hb⟩; refine ⟨_, rfl, ?_⟩; have n0_ := Aside0.mk (Kd.R_lower ho0 (below_size (by repeat (first | (with_reducible first | exact HB.out | apply below_alloc | apply pw_below_drewN | apply below_drew1) | exact HB.out)))); have n1_ := Aside0.mk (below_step (by repeat (first | (with_reducible first | exact HB.out | apply below_alloc | apply pw_below_drewN | apply below_drew1) | exact HB.out)) hb); clear HB; have HO172 := n0_; have HB := n1_; clear n0_ n1_; (try clear hb); (try clear hb2); (try clear hk); (try clear hi); (try clear ho0); obtain ⟨Ao5, co5, eo5⟩ := Kd.R_slice HO172.out; subst eo5) | ((with_reducible refine gate_callee (f := 15) rfl ?_); refine goesL_ (some 15) rfl rfl Tryd.func15 (by kernel_rfl) rfl #[.slice Ao5 t170.length co5] rfl (by (try simp only [List.map_toArray, List.map_cons, List.map_nil]); first | done | rfl | (simp only [List.length_drop, List.length_take]; rfl)) ?_; (with_reducible refine (spec_sorted.calls k _ _ t170 t173 _ ?side1 ?side2 A3.out).mono ?_); (case side1 => repeat (first | exact (Kd.R_reads' HO172.out).2.2 | (with_reducible refine Kd.C_alloc ?_ _) | (with_reducible refine Kd.C_drewN ?_ _) | (with_reducible refine Kd.C_drew ?_))); (case side2 => exact (Kd.R_reads' HO172.out).2.1); rintro e w6 ⟨v174, rfl, ho0, hb⟩; refine ⟨_, rfl, ?_⟩; have n0_ := Aside0.mk (Kd.R_elder' (by (with_reducible repeat (first | apply Kd.R_alloc | apply Kd.R_drewN | apply Kd.R_drew)); exact HO172.out) (Kd.R_base ho0) hb); have n1_ := Aside0.mk (Kd.R_lower (Kd.R_new' ho0 (Kd.R_lt (by (with_reducible repeat (first | apply Kd.R_alloc | apply Kd.R_drewN | apply Kd.R_drew)); exact HO172.out))) (below_size (by repeat (first | (with_reducible first | exact HB.out | apply below_alloc | apply pw_below_drewN | apply below_drew1) | exact HB.out)))); have n2_ := Aside0.mk (below_step (by repeat (first | (with_reducible first | exact HB.out | apply below_alloc | apply pw_below_drewN | apply below_drew1) | exact HB.out)) hb); clear HO172; clear HB; have HO172 := n0_; have HO175 := n1_; have HB := n2_; clear n0_ n1_ n2_; (try clear hb); (try clear hb2); (try clear hk); (try clear hi); (try clear ho0)))
  go_loopg [4, 6] k (fun kq v4 v6 w' => ∃ (x4_1 : List (S50)) (x6_1 : Int), v6 = .int .i64 x6_1 ∧ Aside0 (spec_FieldTerms.l0 kq x4_1 t173 x6_1 = some (r1, r2)) ∧ Aside0 (kq ≤ k) ∧ Aside0 (Kd.R k50 50 w' w.heap.size (fun _ => True) v4 x4_1) ∧ Aside0 (Kd.R Kd.string 9 w' w.heap.size (fun _ => True) v174 t173) ∧ Aside0 (Below w.heap.size w w'))
  case atStart => exact ⟨(([] : List (S50))), (0), (by first | rfl | (simp; done) | (simp [*]; done)), H', ⟨Nat.le_refl _⟩, ⟨by first | exact Kd.R_nil _ _ _ _ _ | exact Kd.N_nil _ _ _ _ _ | exact Kd.V_nil _ _ _ _ _ | exact Kd.Q_nil _ _ _ _ _ | exact Kd.S_nil _ _ _ _ _⟩, ⟨by (with_reducible repeat (first | apply Kd.R_alloc | apply Kd.R_drewN | apply Kd.R_drew)); exact Kd.R_mono HO175.out (fun _ hk => trivial)⟩, ⟨by repeat (first | (with_reducible first | exact HB.out | apply below_alloc | apply pw_below_drewN | apply below_drew1) | exact HB.out)⟩⟩
  case round =>
    clear H'
    try clear c1
    try clear p2
    obtain ⟨x4_1, x6_1, rfl, HA, HK1, HO_4, HO_5, HB⟩ := hrel
    cases gk with
    | zero => exact absurd HA.out (by simp [spec_FieldTerms.l0])
    | succ k1 =>
      have H := HA.out
      clear HA
      simp only [spec_FieldTerms.l0] at H
      by_cases c7 : x6_1 < (t173.length : Int)
      · rw [if_pos c7] at H
        have c7b0 : decide (x6_1 < (t173.length : Int)) = true := decide_eq_true c7
        clear c7
        by_cases c8 : 0 ≤ x6_1
        · rw [if_pos c8] at H
          have c8b0 : decide (0 ≤ x6_1) = true := decide_eq_true c8
          clear c8
          by_cases c9 : (rdOf ByteArray.empty t173 x6_1).toList = ([] : List UInt8)
          · rw [if_pos c9] at H
            have c9b0 : ((rdOf ByteArray.empty t173 x6_1).toList == ([] : List UInt8)) = true := beq_iff_eq.mpr c9
            have c9b1 : ((rdOf ByteArray.empty t173 x6_1).toList != ([] : List UInt8)) = false := bne_eq_false_iff_eq.mpr c9
            clear c9
            have H' := Aside0.mk H
            clear H
            obtain ⟨Ao10, co10, eo10⟩ := Kd.R_slice HO_5.out
            subst eo10
            have p176 : 0 ≤ (x6_1 : Int) := of_decide_eq_true (by first | (with_reducible assumption) | assumption)
            have q176 : x6_1 < (t173.length : Int) := of_decide_eq_true (by first | (with_reducible assumption) | assumption)
            obtain ⟨ad176, e176, hx176_0⟩ := Kd.at_string (Kd.R_reads' HO_5.out).2.2 x6_1 p176 q176
            cases e176
            replace p176 := eq_true p176
            replace q176 := eq_true q176
            go_wp2
            go_roundg k1
            case measure => have := HK1.out; omega
            case rel => exact ⟨(x4_1), (wrap64 (x6_1 + 1)), (by first | rfl | (simp; done) | (simp [*]; done)), H', ⟨by have := HK1.out; omega⟩, ⟨by (with_reducible repeat (first | apply Kd.R_alloc | apply Kd.R_drewN | apply Kd.R_drew)); exact HO_4.out⟩, ⟨by (with_reducible repeat (first | apply Kd.R_alloc | apply Kd.R_drewN | apply Kd.R_drew)); exact HO_5.out⟩, ⟨by repeat (first | (with_reducible first | exact HB.out | apply below_alloc | apply pw_below_drewN | apply below_drew1) | exact HB.out)⟩⟩
          · rw [if_neg c9] at H
            have c9b0 : ((rdOf ByteArray.empty t173 x6_1).toList == ([] : List UInt8)) = false := beq_eq_false_iff_ne.mpr c9
            have c9b1 : ((rdOf ByteArray.empty t173 x6_1).toList != ([] : List UInt8)) = true := bne_iff_ne.mpr c9
            replace H := Option.bind_eq_some_iff.mp H
            obtain ⟨⟨t178, t179, t180, t181⟩, A110, H⟩ := H
            replace H : ((spec_Unescape.f k1 t180).bind fun bt182 => (if t181 = true then (spec_FieldTerms.j1 k1 x4_1 t173 x6_1 t178 t179 bt182.1 (!bt182.2)) else (spec_FieldTerms.j1 k1 x4_1 t173 x6_1 t178 t179 bt182.1 true))) = some (r1, r2) := H
            have A11 := Aside0.mk A110
            clear A110
            replace H := Option.bind_eq_some_iff.mp H
            obtain ⟨⟨t182, t183⟩, A120, H⟩ := H
            replace H : (if t181 = true then (spec_FieldTerms.j1 k1 x4_1 t173 x6_1 t178 t179 t182 (!t183)) else (spec_FieldTerms.j1 k1 x4_1 t173 x6_1 t178 t179 t182 true)) = some (r1, r2) := H
            have A12 := Aside0.mk A120
            clear A120
            have HC13 := Aside0.mk H
            clear H
            obtain ⟨Ao14, co14, eo14⟩ := Kd.R_slice HO_5.out
            subst eo14
            have p176 : 0 ≤ (x6_1 : Int) := of_decide_eq_true (by first | (with_reducible assumption) | assumption)
            have q176 : x6_1 < (t173.length : Int) := of_decide_eq_true (by first | (with_reducible assumption) | assumption)
            obtain ⟨ad176, e176, hx176_0⟩ := Kd.at_string (Kd.R_reads' HO_5.out).2.2 x6_1 p176 q176
            cases e176
            replace p176 := eq_true p176
            replace q176 := eq_true q176
            have p177 : 0 ≤ (x6_1 : Int) := of_decide_eq_true (by first | (with_reducible assumption) | assumption)
            have q177 : x6_1 < (t173.length : Int) := of_decide_eq_true (by first | (with_reducible assumption) | assumption)
            obtain ⟨ad177, e177, hx177_0⟩ := Kd.at_string (Kd.R_reads' HO_5.out).2.2 x6_1 p177 q177
            obtain rfl : ad176 = ad177 := (by injection e177)
            replace p177 := eq_true p177
            replace q177 := eq_true q177
            go_upto_region 9 with (first | ((with_reducible refine gate_callee (f := 17) rfl ?_); refine goesL_ (some 32) rfl rfl Tryd.func17 (by kernel_rfl) rfl #[.string (rdOf ByteArray.empty t173 x6_1)] rfl (by (try simp only [List.map_toArray, List.map_cons, List.map_nil]); first | done | rfl | (simp only [List.length_drop, List.length_take]; rfl)) ?_; (with_reducible refine (spec_FieldCut.calls k1 (rdOf ByteArray.empty t173 x6_1) t178 t179 t180 t181 _ A11.out).mono ?_); rintro e w' ⟨rfl, ⟨nd, rfl⟩⟩; refine ⟨_, rfl, ?_⟩) | ((with_reducible refine gate_callee (f := 18) rfl ?_); refine goesL_ (some 39) rfl rfl Tryd.func18 (by kernel_rfl) rfl #[.string t180] rfl (by (try simp only [List.map_toArray, List.map_cons, List.map_nil]); first | done | rfl | (simp only [List.length_drop, List.length_take]; rfl)) ?_; (with_reducible refine (spec_Unescape.calls k1 t180 t182 t183 _ A12.out).mono ?_); rintro e w15 ⟨rfl, hb⟩; refine ⟨_, rfl, ?_⟩; have n0_ := Aside0.mk (Kd.R_below (by (with_reducible repeat (first | apply Kd.R_alloc | apply Kd.R_drewN | apply Kd.R_drew)); exact HO_4.out) hb); have n1_ := Aside0.mk (Kd.R_below (by (with_reducible repeat (first | apply Kd.R_alloc | apply Kd.R_drewN | apply Kd.R_drew)); exact HO_5.out) hb); have n2_ := Aside0.mk (below_step (by repeat (first | (with_reducible first | exact HB.out | apply below_alloc | apply pw_below_drewN | apply below_drew1) | exact HB.out)) hb); clear HO_4; clear HO_5; clear HB; have HO_4 := n0_; have HO_5 := n1_; have HB := n2_; clear n0_ n1_ n2_; (try clear hb); (try clear hb2); (try clear hk); (try clear hi)))
            (try simp only [Act.put, List.setIfInBounds_toArray, List.set_cons_zero, List.set_cons_succ])
            go_cut [47] (fun v47 wc => ∃ (kq : Nat) (x47_12 : Bool), v47 = .bool x47_12 ∧ Aside0 (spec_FieldTerms.j1 kq x4_1 t173 x6_1 t178 t179 t182 x47_12 = some (r1, r2)) ∧ Aside0 (kq ≤ k1) ∧ Aside0 (Kd.R k50 50 wc w.heap.size (fun _ => True) u4 x4_1) ∧ Aside0 (Kd.R Kd.string 9 wc w.heap.size (fun _ => True) (.slice (some ad176) t173.length co14) t173) ∧ Aside0 (Below w.heap.size w wc))
            case first =>
              have H := HC13.out
              clear HC13
              by_cases c16 : t181 = true
              · subst c16
                have H1 : (spec_FieldTerms.j1 k1 x4_1 t173 x6_1 t178 t179 t182 (!t183)) = some (r1, r2) := by rw [if_pos rfl] at H; exact H
                clear H
                have H := H1
                clear H1
                have H' := Aside0.mk H
                clear H
                go_wp2
                go_meet
                case rel => exact ⟨_, (!t183), (by first | rfl | (simp; done) | (simp [*]; done)), H', ⟨by have := HK1.out; first | omega | exact Nat.le_refl _⟩, ⟨by (with_reducible repeat (first | apply Kd.R_alloc | apply Kd.R_drewN | apply Kd.R_drew)); exact HO_4.out⟩, ⟨by (with_reducible repeat (first | apply Kd.R_alloc | apply Kd.R_drewN | apply Kd.R_drew)); exact HO_5.out⟩, ⟨by repeat (first | (with_reducible first | exact HB.out | apply below_alloc | apply pw_below_drewN | apply below_drew1) | exact HB.out)⟩⟩
              · replace c16 := Bool.eq_false_iff.mpr c16
                subst c16
                have H1 : (spec_FieldTerms.j1 k1 x4_1 t173 x6_1 t178 t179 t182 true) = some (r1, r2) := by rw [if_neg (show ¬ (false = true) by decide)] at H; exact H
                clear H
                have H := H1
                clear H1
                have H' := Aside0.mk H
                clear H
                go_wp2
                go_meet
                case rel => exact ⟨_, (true), (by first | rfl | (simp; done) | (simp [*]; done)), H', ⟨by have := HK1.out; first | omega | exact Nat.le_refl _⟩, ⟨by (with_reducible repeat (first | apply Kd.R_alloc | apply Kd.R_drewN | apply Kd.R_drew)); exact HO_4.out⟩, ⟨by (with_reducible repeat (first | apply Kd.R_alloc | apply Kd.R_drewN | apply Kd.R_drew)); exact HO_5.out⟩, ⟨by repeat (first | (with_reducible first | exact HB.out | apply below_alloc | apply pw_below_drewN | apply below_drew1) | exact HB.out)⟩⟩
            case rest =>
              clear HC13
              try clear c1
              try clear p1
              try clear q1
              try clear hx1
              try clear p2
              try clear p6
              try clear c7
              try clear c7b0
              try clear c8
              try clear c8b0
              try clear c9
              try clear c9b0
              try clear c9b1
              try clear c15
              try clear c16
              try clear hx176_0
              try clear hx177_0
              try clear p176
              try clear p177
              try clear p2
              try clear q176
              try clear q177
              obtain ⟨kq, x47_12, rfl, HA, HJ12, HO_4, HO_5, HB⟩ := hcut
              cases kq with
              | zero => exact absurd HA.out (by simp [spec_FieldTerms.j1])
              | succ kj12 =>
                have H := HA.out
                clear HA
                simp only [spec_FieldTerms.j1] at H
                by_cases c17 : x47_12 = true
                · subst c17
                  have H1 : (some (([] : List (S50)), false)) = some (r1, r2) := by rw [if_pos rfl] at H; exact H
                  clear H
                  have H := H1
                  clear H1
                  simp only [Option.some.injEq, Prod.mk.injEq] at H
                  obtain ⟨rfl, rfl⟩ := H
                  go_wp2
                  go_ret2
                  exact ⟨_, by first | rfl | (simp [errW_none, errW_some] <;> rfl) | (simp [*, errW_none, errW_some] <;> rfl), by first | exact Kd.R_nil _ _ _ _ _ | exact Kd.N_nil _ _ _ _ _ | exact Kd.V_nil _ _ _ _ _ | exact Kd.Q_nil _ _ _ _ _ | exact Kd.S_nil _ _ _ _ _, by repeat (first | (with_reducible first | exact HB.out | apply below_alloc | apply pw_below_drewN | apply below_drew1) | exact HB.out)⟩
                · replace c17 := Bool.eq_false_iff.mpr c17
                  subst c17
                  have H1 : (if t179.toList = ([61, 61] : List UInt8) then (if t178.toList = ([] : List UInt8) then (if t182.toList = ([] : List UInt8) then (spec_FieldTerms.l0 kj12 x4_1 t173 (wrap64 (x6_1 + 1))) else (if x4_1.length < 2932031007402 then (spec_FieldTerms.l0 kj12 (x4_1 ++ [(⟨t178, (⟨#[61]⟩ : ByteArray), t182⟩ : S50)]) t173 (wrap64 (x6_1 + 1))) else (none))) else (if x4_1.length < 2932031007402 then (spec_FieldTerms.l0 kj12 (x4_1 ++ [(⟨t178, (⟨#[61]⟩ : ByteArray), t182⟩ : S50)]) t173 (wrap64 (x6_1 + 1))) else (none))) else (if t178.toList = ([] : List UInt8) then (if t182.toList = ([] : List UInt8) then (spec_FieldTerms.l0 kj12 x4_1 t173 (wrap64 (x6_1 + 1))) else (if x4_1.length < 2932031007402 then (spec_FieldTerms.l0 kj12 (x4_1 ++ [(⟨t178, t179, t182⟩ : S50)]) t173 (wrap64 (x6_1 + 1))) else (none))) else (if x4_1.length < 2932031007402 then (spec_FieldTerms.l0 kj12 (x4_1 ++ [(⟨t178, t179, t182⟩ : S50)]) t173 (wrap64 (x6_1 + 1))) else (none)))) = some (r1, r2) := by rw [if_neg (show ¬ (false = true) by decide)] at H; exact H
                  clear H
                  have H := H1
                  clear H1
                  by_cases c18 : t179.toList = ([61, 61] : List UInt8)
                  · rw [if_pos c18] at H
                    have c18b0 : (t179.toList == ([61, 61] : List UInt8)) = true := beq_iff_eq.mpr c18
                    have c18b1 : (t179.toList != ([61, 61] : List UInt8)) = false := bne_eq_false_iff_eq.mpr c18
                    clear c18
                    by_cases c19 : t178.toList = ([] : List UInt8)
                    · rw [if_pos c19] at H
                      have c19b0 : (t178.toList == ([] : List UInt8)) = true := beq_iff_eq.mpr c19
                      have c19b1 : (t178.toList != ([] : List UInt8)) = false := bne_eq_false_iff_eq.mpr c19
                      clear c19
                      by_cases c20 : t182.toList = ([] : List UInt8)
                      · rw [if_pos c20] at H
                        have c20b0 : (t182.toList == ([] : List UInt8)) = true := beq_iff_eq.mpr c20
                        have c20b1 : (t182.toList != ([] : List UInt8)) = false := bne_eq_false_iff_eq.mpr c20
                        clear c20
                        have H' := Aside0.mk H
                        clear H
                        go_wp2
                        go_roundg kj12
                        case measure => have := HK1.out; have := HJ12.out; omega
                        case rel => exact ⟨(x4_1), (wrap64 (x6_1 + 1)), (by first | rfl | (simp; done) | (simp [*]; done)), H', ⟨by have := HK1.out; have := HJ12.out; omega⟩, ⟨by (with_reducible repeat (first | apply Kd.R_alloc | apply Kd.R_drewN | apply Kd.R_drew)); exact HO_4.out⟩, ⟨by (with_reducible repeat (first | apply Kd.R_alloc | apply Kd.R_drewN | apply Kd.R_drew)); exact HO_5.out⟩, ⟨by repeat (first | (with_reducible first | exact HB.out | apply below_alloc | apply pw_below_drewN | apply below_drew1) | exact HB.out)⟩⟩
                      · rw [if_neg c20] at H
                        have c20b0 : (t182.toList == ([] : List UInt8)) = false := beq_eq_false_iff_ne.mpr c20
                        have c20b1 : (t182.toList != ([] : List UInt8)) = true := bne_iff_ne.mpr c20
                        by_cases c21 : x4_1.length < 2932031007402
                        · rw [if_pos c21] at H
                          have LMc21 := Aside0.mk c21
                          clear c21
                          obtain ⟨y184, hy184⟩ : ∃ y_ : List (S50), y_ = (x4_1 ++ [(⟨t178, (⟨#[61]⟩ : ByteArray), t182⟩ : S50)]) := ⟨_, rfl⟩
                          replace H : (spec_FieldTerms.l0 kj12 y184 t173 (wrap64 (x6_1 + 1))) = some (r1, r2) := by first | (rw [hy184]; with_reducible exact H) | (have H2_ := (Option.bind_some _ _).symm.trans H; rw [hy184]; with_reducible exact H2_) | (have H2_ := (Option.bind_some _ _).symm.trans H; with_reducible exact H2_) | with_reducible exact H | (rw [hy184]; exact H) | exact H
                          have Ny184 := Aside0.mk hy184
                          clear hy184
                          have H' := Aside0.mk H
                          clear H
                          go_wp2_with (first | ((with_reducible refine gate_builtin (b := .append) (xs := #[.tmp 56, .tmp 61]) rfl ?_); at_builtin; refine Kd.R_append k50 (w0 := w) w.heap.size rfl (.tmp 56) (.tmp 61) 25 50 (.agg #[(.string ⟨#[]⟩), (.string ⟨#[]⟩), (.string ⟨#[]⟩)]) 48 rfl Tryd.underlying25 info50 rfl (by decide) (by omega) u4 x4_1 (⟨t178, (⟨#[61]⟩ : ByteArray), t182⟩ : S50) [.string t178, .string (⟨#[61]⟩ : ByteArray), .string t182] (fun _ => True) (fun _ => False) rfl rfl ?aP (fun _ hk => hk.elim) ?aF ?aO ?aB ?aS ?aL ?_; (case aP => exact k50_mkM _ _ _ (⟨t178, (⟨#[61]⟩ : ByteArray), t182⟩ : S50)); (case aB => exact (by repeat (first | (with_reducible first | exact HB.out | apply below_alloc | apply pw_below_drewN | apply below_drew1) | exact HB.out))); (case aF => exact (fun _ _ => trivial)); (case aO => exact (by (with_reducible repeat (first | apply Kd.R_alloc | apply Kd.R_drewN | apply Kd.R_drew)); exact HO_4.out)); (case aS => exact (below_size (by repeat (first | (with_reducible first | exact HB.out | apply below_alloc | apply pw_below_drewN | apply below_drew1) | exact HB.out)))); (case aL => have := LMc21.out; omega); intro v185 w22 ho hb hg hat; rw [← Ny184.out] at ho; have n0_ := Aside0.mk (Kd.R_over' (by (with_reducible repeat (first | apply Kd.R_alloc | apply Kd.R_drewN | apply Kd.R_drew)); exact HO_5.out) (Kd.R_typed (by (with_reducible repeat (first | apply Kd.R_alloc | apply Kd.R_drewN | apply Kd.R_drew)); exact HO_4.out)) (by decide) hg); have n1_ := Aside0.mk (hb); have n2_ := Aside0.mk (ho); clear HO_5; clear HB; clear HO_4; have HO_5 := n0_; have HB := n1_; have HO186 := n2_; clear n0_ n1_ n2_; clear ho hb hg hat))
                          go_roundg kj12
                          case measure => have := HK1.out; have := HJ12.out; omega
                          case rel => exact ⟨(y184), (wrap64 (x6_1 + 1)), (by first | rfl | (simp; done) | (simp [*]; done)), H', ⟨by have := HK1.out; have := HJ12.out; omega⟩, ⟨by (with_reducible repeat (first | apply Kd.R_alloc | apply Kd.R_drewN | apply Kd.R_drew)); exact HO186.out⟩, ⟨by (with_reducible repeat (first | apply Kd.R_alloc | apply Kd.R_drewN | apply Kd.R_drew)); exact HO_5.out⟩, ⟨by repeat (first | (with_reducible first | exact HB.out | apply below_alloc | apply pw_below_drewN | apply below_drew1) | exact HB.out)⟩⟩
                        · rw [if_neg c21] at H
                          exact absurd H (by simp)
                    · rw [if_neg c19] at H
                      have c19b0 : (t178.toList == ([] : List UInt8)) = false := beq_eq_false_iff_ne.mpr c19
                      have c19b1 : (t178.toList != ([] : List UInt8)) = true := bne_iff_ne.mpr c19
                      by_cases c23 : x4_1.length < 2932031007402
                      · rw [if_pos c23] at H
                        have LMc23 := Aside0.mk c23
                        clear c23
                        obtain ⟨y187, hy187⟩ : ∃ y_ : List (S50), y_ = (x4_1 ++ [(⟨t178, (⟨#[61]⟩ : ByteArray), t182⟩ : S50)]) := ⟨_, rfl⟩
                        replace H : (spec_FieldTerms.l0 kj12 y187 t173 (wrap64 (x6_1 + 1))) = some (r1, r2) := by first | (rw [hy187]; with_reducible exact H) | (have H2_ := (Option.bind_some _ _).symm.trans H; rw [hy187]; with_reducible exact H2_) | (have H2_ := (Option.bind_some _ _).symm.trans H; with_reducible exact H2_) | with_reducible exact H | (rw [hy187]; exact H) | exact H
                        have Ny187 := Aside0.mk hy187
                        clear hy187
                        have H' := Aside0.mk H
                        clear H
                        go_wp2_with (first | ((with_reducible refine gate_builtin (b := .append) (xs := #[.tmp 56, .tmp 61]) rfl ?_); at_builtin; refine Kd.R_append k50 (w0 := w) w.heap.size rfl (.tmp 56) (.tmp 61) 25 50 (.agg #[(.string ⟨#[]⟩), (.string ⟨#[]⟩), (.string ⟨#[]⟩)]) 48 rfl Tryd.underlying25 info50 rfl (by decide) (by omega) u4 x4_1 (⟨t178, (⟨#[61]⟩ : ByteArray), t182⟩ : S50) [.string t178, .string (⟨#[61]⟩ : ByteArray), .string t182] (fun _ => True) (fun _ => False) rfl rfl ?aP (fun _ hk => hk.elim) ?aF ?aO ?aB ?aS ?aL ?_; (case aP => exact k50_mkM _ _ _ (⟨t178, (⟨#[61]⟩ : ByteArray), t182⟩ : S50)); (case aB => exact (by repeat (first | (with_reducible first | exact HB.out | apply below_alloc | apply pw_below_drewN | apply below_drew1) | exact HB.out))); (case aF => exact (fun _ _ => trivial)); (case aO => exact (by (with_reducible repeat (first | apply Kd.R_alloc | apply Kd.R_drewN | apply Kd.R_drew)); exact HO_4.out)); (case aS => exact (below_size (by repeat (first | (with_reducible first | exact HB.out | apply below_alloc | apply pw_below_drewN | apply below_drew1) | exact HB.out)))); (case aL => have := LMc23.out; omega); intro v188 w24 ho hb hg hat; rw [← Ny187.out] at ho; have n0_ := Aside0.mk (Kd.R_over' (by (with_reducible repeat (first | apply Kd.R_alloc | apply Kd.R_drewN | apply Kd.R_drew)); exact HO_5.out) (Kd.R_typed (by (with_reducible repeat (first | apply Kd.R_alloc | apply Kd.R_drewN | apply Kd.R_drew)); exact HO_4.out)) (by decide) hg); have n1_ := Aside0.mk (hb); have n2_ := Aside0.mk (ho); clear HO_5; clear HB; clear HO_4; have HO_5 := n0_; have HB := n1_; have HO189 := n2_; clear n0_ n1_ n2_; clear ho hb hg hat))
                        go_roundg kj12
                        case measure => have := HK1.out; have := HJ12.out; omega
                        case rel => exact ⟨(y187), (wrap64 (x6_1 + 1)), (by first | rfl | (simp; done) | (simp [*]; done)), H', ⟨by have := HK1.out; have := HJ12.out; omega⟩, ⟨by (with_reducible repeat (first | apply Kd.R_alloc | apply Kd.R_drewN | apply Kd.R_drew)); exact HO189.out⟩, ⟨by (with_reducible repeat (first | apply Kd.R_alloc | apply Kd.R_drewN | apply Kd.R_drew)); exact HO_5.out⟩, ⟨by repeat (first | (with_reducible first | exact HB.out | apply below_alloc | apply pw_below_drewN | apply below_drew1) | exact HB.out)⟩⟩
                      · rw [if_neg c23] at H
                        exact absurd H (by simp)
                  · rw [if_neg c18] at H
                    have c18b0 : (t179.toList == ([61, 61] : List UInt8)) = false := beq_eq_false_iff_ne.mpr c18
                    have c18b1 : (t179.toList != ([61, 61] : List UInt8)) = true := bne_iff_ne.mpr c18
                    by_cases c25 : t178.toList = ([] : List UInt8)
                    · rw [if_pos c25] at H
                      have c25b0 : (t178.toList == ([] : List UInt8)) = true := beq_iff_eq.mpr c25
                      have c25b1 : (t178.toList != ([] : List UInt8)) = false := bne_eq_false_iff_eq.mpr c25
                      clear c25
                      by_cases c26 : t182.toList = ([] : List UInt8)
                      · rw [if_pos c26] at H
                        have c26b0 : (t182.toList == ([] : List UInt8)) = true := beq_iff_eq.mpr c26
                        have c26b1 : (t182.toList != ([] : List UInt8)) = false := bne_eq_false_iff_eq.mpr c26
                        clear c26
                        have H' := Aside0.mk H
                        clear H
                        go_wp2
                        go_roundg kj12
                        case measure => have := HK1.out; have := HJ12.out; omega
                        case rel => exact ⟨(x4_1), (wrap64 (x6_1 + 1)), (by first | rfl | (simp; done) | (simp [*]; done)), H', ⟨by have := HK1.out; have := HJ12.out; omega⟩, ⟨by (with_reducible repeat (first | apply Kd.R_alloc | apply Kd.R_drewN | apply Kd.R_drew)); exact HO_4.out⟩, ⟨by (with_reducible repeat (first | apply Kd.R_alloc | apply Kd.R_drewN | apply Kd.R_drew)); exact HO_5.out⟩, ⟨by repeat (first | (with_reducible first | exact HB.out | apply below_alloc | apply pw_below_drewN | apply below_drew1) | exact HB.out)⟩⟩
                      · rw [if_neg c26] at H
                        have c26b0 : (t182.toList == ([] : List UInt8)) = false := beq_eq_false_iff_ne.mpr c26
                        have c26b1 : (t182.toList != ([] : List UInt8)) = true := bne_iff_ne.mpr c26
                        by_cases c27 : x4_1.length < 2932031007402
                        · rw [if_pos c27] at H
                          have LMc27 := Aside0.mk c27
                          clear c27
                          obtain ⟨y190, hy190⟩ : ∃ y_ : List (S50), y_ = (x4_1 ++ [(⟨t178, t179, t182⟩ : S50)]) := ⟨_, rfl⟩
                          replace H : (spec_FieldTerms.l0 kj12 y190 t173 (wrap64 (x6_1 + 1))) = some (r1, r2) := by first | (rw [hy190]; with_reducible exact H) | (have H2_ := (Option.bind_some _ _).symm.trans H; rw [hy190]; with_reducible exact H2_) | (have H2_ := (Option.bind_some _ _).symm.trans H; with_reducible exact H2_) | with_reducible exact H | (rw [hy190]; exact H) | exact H
                          have Ny190 := Aside0.mk hy190
                          clear hy190
                          have H' := Aside0.mk H
                          clear H
                          go_wp2_with (first | ((with_reducible refine gate_builtin (b := .append) (xs := #[.tmp 56, .tmp 61]) rfl ?_); at_builtin; refine Kd.R_append k50 (w0 := w) w.heap.size rfl (.tmp 56) (.tmp 61) 25 50 (.agg #[(.string ⟨#[]⟩), (.string ⟨#[]⟩), (.string ⟨#[]⟩)]) 48 rfl Tryd.underlying25 info50 rfl (by decide) (by omega) u4 x4_1 (⟨t178, t179, t182⟩ : S50) [.string t178, .string t179, .string t182] (fun _ => True) (fun _ => False) rfl rfl ?aP (fun _ hk => hk.elim) ?aF ?aO ?aB ?aS ?aL ?_; (case aP => exact k50_mkM _ _ _ (⟨t178, t179, t182⟩ : S50)); (case aB => exact (by repeat (first | (with_reducible first | exact HB.out | apply below_alloc | apply pw_below_drewN | apply below_drew1) | exact HB.out))); (case aF => exact (fun _ _ => trivial)); (case aO => exact (by (with_reducible repeat (first | apply Kd.R_alloc | apply Kd.R_drewN | apply Kd.R_drew)); exact HO_4.out)); (case aS => exact (below_size (by repeat (first | (with_reducible first | exact HB.out | apply below_alloc | apply pw_below_drewN | apply below_drew1) | exact HB.out)))); (case aL => have := LMc27.out; omega); intro v191 w28 ho hb hg hat; rw [← Ny190.out] at ho; have n0_ := Aside0.mk (Kd.R_over' (by (with_reducible repeat (first | apply Kd.R_alloc | apply Kd.R_drewN | apply Kd.R_drew)); exact HO_5.out) (Kd.R_typed (by (with_reducible repeat (first | apply Kd.R_alloc | apply Kd.R_drewN | apply Kd.R_drew)); exact HO_4.out)) (by decide) hg); have n1_ := Aside0.mk (hb); have n2_ := Aside0.mk (ho); clear HO_5; clear HB; clear HO_4; have HO_5 := n0_; have HB := n1_; have HO192 := n2_; clear n0_ n1_ n2_; clear ho hb hg hat))
                          go_roundg kj12
                          case measure => have := HK1.out; have := HJ12.out; omega
                          case rel => exact ⟨(y190), (wrap64 (x6_1 + 1)), (by first | rfl | (simp; done) | (simp [*]; done)), H', ⟨by have := HK1.out; have := HJ12.out; omega⟩, ⟨by (with_reducible repeat (first | apply Kd.R_alloc | apply Kd.R_drewN | apply Kd.R_drew)); exact HO192.out⟩, ⟨by (with_reducible repeat (first | apply Kd.R_alloc | apply Kd.R_drewN | apply Kd.R_drew)); exact HO_5.out⟩, ⟨by repeat (first | (with_reducible first | exact HB.out | apply below_alloc | apply pw_below_drewN | apply below_drew1) | exact HB.out)⟩⟩
                        · rw [if_neg c27] at H
                          exact absurd H (by simp)
                    · rw [if_neg c25] at H
                      have c25b0 : (t178.toList == ([] : List UInt8)) = false := beq_eq_false_iff_ne.mpr c25
                      have c25b1 : (t178.toList != ([] : List UInt8)) = true := bne_iff_ne.mpr c25
                      by_cases c29 : x4_1.length < 2932031007402
                      · rw [if_pos c29] at H
                        have LMc29 := Aside0.mk c29
                        clear c29
                        obtain ⟨y193, hy193⟩ : ∃ y_ : List (S50), y_ = (x4_1 ++ [(⟨t178, t179, t182⟩ : S50)]) := ⟨_, rfl⟩
                        replace H : (spec_FieldTerms.l0 kj12 y193 t173 (wrap64 (x6_1 + 1))) = some (r1, r2) := by first | (rw [hy193]; with_reducible exact H) | (have H2_ := (Option.bind_some _ _).symm.trans H; rw [hy193]; with_reducible exact H2_) | (have H2_ := (Option.bind_some _ _).symm.trans H; with_reducible exact H2_) | with_reducible exact H | (rw [hy193]; exact H) | exact H
                        have Ny193 := Aside0.mk hy193
                        clear hy193
                        have H' := Aside0.mk H
                        clear H
                        go_wp2_with (first | ((with_reducible refine gate_builtin (b := .append) (xs := #[.tmp 56, .tmp 61]) rfl ?_); at_builtin; refine Kd.R_append k50 (w0 := w) w.heap.size rfl (.tmp 56) (.tmp 61) 25 50 (.agg #[(.string ⟨#[]⟩), (.string ⟨#[]⟩), (.string ⟨#[]⟩)]) 48 rfl Tryd.underlying25 info50 rfl (by decide) (by omega) u4 x4_1 (⟨t178, t179, t182⟩ : S50) [.string t178, .string t179, .string t182] (fun _ => True) (fun _ => False) rfl rfl ?aP (fun _ hk => hk.elim) ?aF ?aO ?aB ?aS ?aL ?_; (case aP => exact k50_mkM _ _ _ (⟨t178, t179, t182⟩ : S50)); (case aB => exact (by repeat (first | (with_reducible first | exact HB.out | apply below_alloc | apply pw_below_drewN | apply below_drew1) | exact HB.out))); (case aF => exact (fun _ _ => trivial)); (case aO => exact (by (with_reducible repeat (first | apply Kd.R_alloc | apply Kd.R_drewN | apply Kd.R_drew)); exact HO_4.out)); (case aS => exact (below_size (by repeat (first | (with_reducible first | exact HB.out | apply below_alloc | apply pw_below_drewN | apply below_drew1) | exact HB.out)))); (case aL => have := LMc29.out; omega); intro v194 w30 ho hb hg hat; rw [← Ny193.out] at ho; have n0_ := Aside0.mk (Kd.R_over' (by (with_reducible repeat (first | apply Kd.R_alloc | apply Kd.R_drewN | apply Kd.R_drew)); exact HO_5.out) (Kd.R_typed (by (with_reducible repeat (first | apply Kd.R_alloc | apply Kd.R_drewN | apply Kd.R_drew)); exact HO_4.out)) (by decide) hg); have n1_ := Aside0.mk (hb); have n2_ := Aside0.mk (ho); clear HO_5; clear HB; clear HO_4; have HO_5 := n0_; have HB := n1_; have HO195 := n2_; clear n0_ n1_ n2_; clear ho hb hg hat))
                        go_roundg kj12
                        case measure => have := HK1.out; have := HJ12.out; omega
                        case rel => exact ⟨(y193), (wrap64 (x6_1 + 1)), (by first | rfl | (simp; done) | (simp [*]; done)), H', ⟨by have := HK1.out; have := HJ12.out; omega⟩, ⟨by (with_reducible repeat (first | apply Kd.R_alloc | apply Kd.R_drewN | apply Kd.R_drew)); exact HO195.out⟩, ⟨by (with_reducible repeat (first | apply Kd.R_alloc | apply Kd.R_drewN | apply Kd.R_drew)); exact HO_5.out⟩, ⟨by repeat (first | (with_reducible first | exact HB.out | apply below_alloc | apply pw_below_drewN | apply below_drew1) | exact HB.out)⟩⟩
                      · rw [if_neg c29] at H
                        exact absurd H (by simp)
        · rw [if_neg c8] at H
          exact absurd H (by simp)
      · rw [if_neg c7] at H
        have c7b0 : decide (x6_1 < (t173.length : Int)) = false := decide_eq_false c7
        clear c7
        simp only [Option.some.injEq, Prod.mk.injEq] at H
        obtain ⟨rfl, rfl⟩ := H
        obtain ⟨Ao31, co31, eo31⟩ := Kd.R_slice HO_5.out
        subst eo31
        go_wp2
        go_ret2
        exact ⟨_, by first | rfl | (simp [errW_none, errW_some] <;> rfl) | (simp [*, errW_none, errW_some] <;> rfl), by (with_reducible repeat (first | apply Kd.R_alloc | apply Kd.R_drewN | apply Kd.R_drew)); exact HO_4.out, by repeat (first | (with_reducible first | exact HB.out | apply below_alloc | apply pw_below_drewN | apply below_drew1) | exact HB.out)⟩

-- NOT PRINTED: function 25 (fields_splitTerms)

-- NOT PRINTED: function 45 (bits_Len32)

-- NOT PRINTED: function 46 (bits_Len64)

-- NOT PRINTED: function 37 (bits_Len)

-- NOT PRINTED: function 47 (sort_insertionSort)

-- NOT PRINTED: function 59 (sort_siftDown)

-- NOT PRINTED: function 48 (sort_heapSort)

-- NOT PRINTED: function 60 (sort_nextPowerOfTwo)

-- NOT PRINTED: function 61 (sort_xorshift_Next)

-- NOT PRINTED: function 49 (sort_breakPatterns)

-- NOT PRINTED: function 65 (sort_order2)

-- NOT PRINTED: function 63 (sort_median)

-- NOT PRINTED: function 62 (sort_medianAdjacent)

-- NOT PRINTED: function 50 (sort_choosePivot)

-- NOT PRINTED: function 51 (sort_reverseRange)

-- NOT PRINTED: function 52 (sort_partialInsertionSort)

-- NOT PRINTED: function 53 (sort_partitionEqual)

-- NOT PRINTED: function 54 (sort_partition)

-- NOT PRINTED: function 38 (sort_pdqsort)

-- NOT PRINTED: function 31 (sort_Sort)

-- NOT PRINTED: function 26 (sort_StringSlice_Sort)

-- NOT PRINTED: function 39 (stringslite_HasPrefix)

-- NOT PRINTED: function 32 (strings_HasPrefix)

-- NOT PRINTED: function 27 (fields_splitTerm)

-- NOT PRINTED: function 28 (errors_New)

-- NOT PRINTED: function 40 (fields_zzIndexAny)

-- NOT PRINTED: function 33 (fields_zzContainsAny)

-- NOT PRINTED: function 34 (bytes_NewBuffer)

-- NOT PRINTED: function 42 (bytes_Buffer_tryGrowByReslice)

-- NOT PRINTED: function 55 (bytes_Buffer_Len)

-- NOT PRINTED: function 56 (bytes_Buffer_Reset)

-- NOT PRINTED: function 57 (bytes_growSlice)

-- NOT PRINTED: function 43 (bytes_Buffer_grow)

-- NOT PRINTED: function 41 (bytes_Buffer_WriteByte)

-- NOT PRINTED: function 58 (utf8_appendRuneNonASCII)

-- NOT PRINTED: function 44 (utf8_AppendRune)

-- NOT PRINTED: function 35 (bytes_Buffer_WriteRune)

-- NOT PRINTED: function 36 (bytes_Buffer_String)

-- NOT PRINTED: function 29 (fields_UnescapeValue)

-- NOT PRINTED: function 30 (fields_andTerm_Transform)

-- NOT PRINTED: function 23 (fields_parseSelector)

-- NOT PRINTED: function 19 (fields_ParseSelector)

/-! ### impl_FieldExact: function 8 -/
def impl_FieldExact.f (_ : Nat) (a0 a1 : ByteArray) : Option (ByteArray × Bool × Bool) := if a0.size ≤ 1099511627776 ∧ FuM.pt a0 = true then some (FsX.exR (FsQ.termsOf a0) a1) else none
theorem impl_FieldExact.mono : ∀ a0 a1 k, LeO (impl_FieldExact.f k a0 a1) (impl_FieldExact.f (k + 1) a0 a1) := fun _ _ _ => LeO.refl _
theorem impl_FieldExact.calls (k : Nat) (a0 a1 : ByteArray) (r1 : ByteArray) (r2 r3 : Bool) (w : World) (h : impl_FieldExact.f k a0 a1 = some (r1, r2, r3)) :
    Calls Tryd.prog 8 #[.string a0, .string a1] w fun e w' => e = .returned (.tuple #[.string r1, .bool r2, .bool r3]) ∧ Below w.heap.size w w' := by
  unfold impl_FieldExact.f at h
  split at h
  · rename_i hb
    have h2 := Option.some.inj h
    have hc := FsX.exact_calls a0 a1 hb.1 hb.2 w
    rw [h2] at hc
    exact hc
  · cases h

/-! ### spec_FieldExact: function 9 -/
def spec_FieldExact.l0 : Nat → List (S50) → ByteArray → Int → Option (ByteArray × Bool)
  | 0, _, _, _ => none
  | k + 1, x0, x1, x6 => if x6 < (x0.length : Int) then (if 0 ≤ x6 then (if ((rd_T50 x0 x6).f0).toList = x1.toList then (if ((rd_T50 x0 x6).f1).toList = ([61] : List UInt8) then (some ((rd_T50 x0 x6).f2, true)) else (spec_FieldExact.l0 k x0 x1 (wrap64 (x6 + 1)))) else (spec_FieldExact.l0 k x0 x1 (wrap64 (x6 + 1)))) else (none)) else (some ((⟨#[]⟩ : ByteArray), false))
def spec_FieldExact.f (k : Nat) (l0 : List (S50)) (a1 : ByteArray) : Option (ByteArray × Bool) := spec_FieldExact.l0 k l0 a1 0
theorem spec_FieldExact.mono_l : ∀ k, (∀ y0 y1 y2, LeO (spec_FieldExact.l0 k y0 y1 y2) (spec_FieldExact.l0 (k + 1) y0 y1 y2))
  | 0 => fun _ _ _ r h => by simp [spec_FieldExact.l0] at h
  | k + 1 => by
    have ih0 := spec_FieldExact.mono_l k
    · intro y0 y1 y2
      unfold spec_FieldExact.l0
      repeat' first
      | (with_reducible exact ih0 _ _ _)
      | (with_reducible exact LeO.refl _)
      | (with_reducible exact LeO.none _)
      | (with_reducible refine LeO.ite ?_ ?_)
      | (with_reducible refine LeO.bind ?_ (fun _ => ?_))
      | exact ih0 _ _ _
      | exact LeO.none _
      | refine LeO.ite ?_ ?_
      | refine LeO.bind ?_ (fun _ => ?_)
theorem spec_FieldExact.mono : ∀ a0 a1 k, LeO (spec_FieldExact.f k a0 a1) (spec_FieldExact.f (k + 1) a0 a1) := by
  intro a0 a1 k
  have ih0 := spec_FieldExact.mono_l k
  unfold spec_FieldExact.f
  repeat' first
      | (with_reducible exact ih0 _ _ _)
      | (with_reducible exact LeO.refl _)
      | (with_reducible exact LeO.none _)
      | (with_reducible refine LeO.ite ?_ ?_)
      | (with_reducible refine LeO.bind ?_ (fun _ => ?_))
      | exact ih0 _ _ _
      | exact LeO.none _
      | refine LeO.ite ?_ ?_
      | refine LeO.bind ?_ (fun _ => ?_)
set_option maxHeartbeats 8000000 in
set_option maxRecDepth 100000 in
theorem spec_FieldExact.calls (k : Nat) (A0 : Option Addr) (c0 : Nat) (l0 : List (S50)) (a1 : ByteArray) (r1 : ByteArray) (r2 : Bool) (w : World) (hr0 : Kd.C k50 w A0 l0.length l0) (hc0 : l0.length ≤ c0) (h : spec_FieldExact.f k l0 a1 = some (r1, r2)) :
    Calls Tryd.prog 9 #[.slice A0 l0.length c0, .string a1] w fun e w' => e = .returned (.tuple #[.string r1, .bool r2]) ∧ Drawn0 w w' := by
  have HR0 := Aside0.mk hr0
  have HC0 := Aside0.mk hc0
  clear hr0 hc0
  have H : (spec_FieldExact.l0 k l0 a1 0) = some (r1, r2) := h
  clear h
  have H' := Aside0.mk H
  clear H
  go_enter Tryd.func9, Tryd.ntmps9
  go_wp2
  go_loopg [6] k (fun kq v6 w' => ∃ (x6_1 : Int), v6 = .int .i64 x6_1 ∧ Aside0 (spec_FieldExact.l0 kq l0 a1 x6_1 = some (r1, r2)) ∧ Aside0 (kq ≤ k) ∧ Drawn0 w w')
  case atStart => exact ⟨(0), (by first | rfl | (simp; done) | (simp [*]; done)), H', ⟨Nat.le_refl _⟩, by repeat (first | exact Drawn0.refl _ | apply Drawn0.step)⟩
  case round =>
    clear H'
    try clear p2
    obtain ⟨x6_1, rfl, HA, HK1, ⟨m1, rfl⟩⟩ := hrel
    cases gk with
    | zero => exact absurd HA.out (by simp [spec_FieldExact.l0])
    | succ k1 =>
      have H := HA.out
      clear HA
      simp only [spec_FieldExact.l0] at H
      by_cases c3 : x6_1 < (l0.length : Int)
      · rw [if_pos c3] at H
        have c3b0 : decide (x6_1 < (l0.length : Int)) = true := decide_eq_true c3
        clear c3
        by_cases c4 : 0 ≤ x6_1
        · rw [if_pos c4] at H
          have c4b0 : decide (0 ≤ x6_1) = true := decide_eq_true c4
          clear c4
          by_cases c5 : ((rd_T50 l0 x6_1).f0).toList = a1.toList
          · rw [if_pos c5] at H
            have c5b0 : (((rd_T50 l0 x6_1).f0).toList == a1.toList) = true := beq_iff_eq.mpr c5
            have c5b1 : (((rd_T50 l0 x6_1).f0).toList != a1.toList) = false := bne_eq_false_iff_eq.mpr c5
            clear c5
            by_cases c6 : ((rd_T50 l0 x6_1).f1).toList = ([61] : List UInt8)
            · rw [if_pos c6] at H
              have c6b0 : (((rd_T50 l0 x6_1).f1).toList == ([61] : List UInt8)) = true := beq_iff_eq.mpr c6
              have c6b1 : (((rd_T50 l0 x6_1).f1).toList != ([61] : List UInt8)) = false := bne_eq_false_iff_eq.mpr c6
              clear c6
              simp only [Option.some.injEq, Prod.mk.injEq] at H
              obtain ⟨rfl, rfl⟩ := H
              have p196 : 0 ≤ (x6_1 : Int) := of_decide_eq_true (by first | (with_reducible assumption) | assumption)
              have q196 : x6_1 < (l0.length : Int) := of_decide_eq_true (by first | (with_reducible assumption) | assumption)
              obtain ⟨ad196, e196, hx196_0, hx196_1, hx196_2⟩ := at_T50 HR0.out x6_1 p196 q196
              cases e196
              replace p196 := eq_true p196
              replace q196 := eq_true q196
              have p197 : 0 ≤ (x6_1 : Int) := of_decide_eq_true (by first | (with_reducible assumption) | assumption)
              have q197 : x6_1 < (l0.length : Int) := of_decide_eq_true (by first | (with_reducible assumption) | assumption)
              obtain ⟨ad197, e197, hx197_0, hx197_1, hx197_2⟩ := at_T50 HR0.out x6_1 p197 q197
              obtain rfl : ad196 = ad197 := (by injection e197)
              replace p197 := eq_true p197
              replace q197 := eq_true q197
              have p198 : 0 ≤ (x6_1 : Int) := of_decide_eq_true (by first | (with_reducible assumption) | assumption)
              have q198 : x6_1 < (l0.length : Int) := of_decide_eq_true (by first | (with_reducible assumption) | assumption)
              obtain ⟨ad198, e198, hx198_0, hx198_1, hx198_2⟩ := at_T50 HR0.out x6_1 p198 q198
              obtain rfl : ad196 = ad198 := (by injection e198)
              replace p198 := eq_true p198
              replace q198 := eq_true q198
              go_wp2
              go_ret2
              exact ⟨by first | rfl | (simp; done) | (simp [*]; done), by repeat (first | exact Drawn0.refl _ | apply Drawn0.step)⟩
            · rw [if_neg c6] at H
              have c6b0 : (((rd_T50 l0 x6_1).f1).toList == ([61] : List UInt8)) = false := beq_eq_false_iff_ne.mpr c6
              have c6b1 : (((rd_T50 l0 x6_1).f1).toList != ([61] : List UInt8)) = true := bne_iff_ne.mpr c6
              have H' := Aside0.mk H
              clear H
              have p196 : 0 ≤ (x6_1 : Int) := of_decide_eq_true (by first | (with_reducible assumption) | assumption)
              have q196 : x6_1 < (l0.length : Int) := of_decide_eq_true (by first | (with_reducible assumption) | assumption)
              obtain ⟨ad196, e196, hx196_0, hx196_1, hx196_2⟩ := at_T50 HR0.out x6_1 p196 q196
              cases e196
              replace p196 := eq_true p196
              replace q196 := eq_true q196
              have p197 : 0 ≤ (x6_1 : Int) := of_decide_eq_true (by first | (with_reducible assumption) | assumption)
              have q197 : x6_1 < (l0.length : Int) := of_decide_eq_true (by first | (with_reducible assumption) | assumption)
              obtain ⟨ad197, e197, hx197_0, hx197_1, hx197_2⟩ := at_T50 HR0.out x6_1 p197 q197
              obtain rfl : ad196 = ad197 := (by injection e197)
              replace p197 := eq_true p197
              replace q197 := eq_true q197
              go_wp2
              go_roundg k1
              case measure => have := HK1.out; omega
              case rel => exact ⟨(wrap64 (x6_1 + 1)), (by first | rfl | (simp; done) | (simp [*]; done)), H', ⟨by have := HK1.out; omega⟩, by repeat (first | exact Drawn0.refl _ | apply Drawn0.step)⟩
          · rw [if_neg c5] at H
            have c5b0 : (((rd_T50 l0 x6_1).f0).toList == a1.toList) = false := beq_eq_false_iff_ne.mpr c5
            have c5b1 : (((rd_T50 l0 x6_1).f0).toList != a1.toList) = true := bne_iff_ne.mpr c5
            have H' := Aside0.mk H
            clear H
            have p196 : 0 ≤ (x6_1 : Int) := of_decide_eq_true (by first | (with_reducible assumption) | assumption)
            have q196 : x6_1 < (l0.length : Int) := of_decide_eq_true (by first | (with_reducible assumption) | assumption)
            obtain ⟨ad196, e196, hx196_0, hx196_1, hx196_2⟩ := at_T50 HR0.out x6_1 p196 q196
            cases e196
            replace p196 := eq_true p196
            replace q196 := eq_true q196
            go_wp2
            go_roundg k1
            case measure => have := HK1.out; omega
            case rel => exact ⟨(wrap64 (x6_1 + 1)), (by first | rfl | (simp; done) | (simp [*]; done)), H', ⟨by have := HK1.out; omega⟩, by repeat (first | exact Drawn0.refl _ | apply Drawn0.step)⟩
        · rw [if_neg c4] at H
          exact absurd H (by simp)
      · rw [if_neg c3] at H
        have c3b0 : decide (x6_1 < (l0.length : Int)) = false := decide_eq_false c3
        clear c3
        simp only [Option.some.injEq, Prod.mk.injEq] at H
        obtain ⟨rfl, rfl⟩ := H
        go_wp2
        go_ret2
        exact ⟨by first | rfl | (simp; done) | (simp [*]; done), by repeat (first | exact Drawn0.refl _ | apply Drawn0.step)⟩

-- NOT PRINTED: function 20 (impl_fieldSet)

/-! ### impl_FieldMatch: function 10 -/
def toPr (x : S40) : FsL.Pr := ⟨x.f0, x.f1⟩
theorem toPr_C {w : World} {A : Option Addr} {n : Nat} {l : List S40} (h : Kd.C k40 w A n l) : Kd.C FsL.kp w A n (l.map toPr) := by
  obtain ⟨h1, h2, h3⟩ := h
  refine ⟨by rw [List.length_map]; exact h1, h2, fun hn => ?_⟩
  obtain ⟨ad, e, hc⟩ := h3 hn
  refine ⟨ad, e, fun j p hp => ?_⟩
  rw [List.getElem?_map] at hp
  cases hq : l[j]? with
  | none => rw [hq] at hp; cases hp
  | some q =>
    rw [hq] at hp
    obtain rfl := Option.some.inj hp
    exact hc j q hq
def impl_FieldMatch.f (_ : Nat) (a0 : ByteArray) (l1 : List S40) : Option (Bool × Bool × Bool) := if a0.size ≤ 1099511627776 ∧ FuM.pt a0 = true ∧ l1.length ≤ 4294967296 ∧ (∀ p ∈ l1, p.f0.size ≤ maxLen ∧ p.f1.size ≤ maxLen) then some (FsX.mtR (FsQ.termsOf a0) (FsL.fn (l1.map toPr))) else none
theorem impl_FieldMatch.mono : ∀ a0 a1 k, LeO (impl_FieldMatch.f k a0 a1) (impl_FieldMatch.f (k + 1) a0 a1) := fun _ _ _ => LeO.refl _
theorem impl_FieldMatch.calls (k : Nat) (a0 : ByteArray) (A1 : Option Addr) (c1 : Nat) (l1 : List S40) (r1 r2 r3 : Bool) (w : World) (hr1 : Kd.C k40 w A1 l1.length l1) (hc1 : l1.length ≤ c1) (h : impl_FieldMatch.f k a0 l1 = some (r1, r2, r3)) :
    Calls Tryd.prog 10 #[.string a0, .slice A1 l1.length c1] w fun e w' => e = .returned (.tuple #[.bool r1, .bool r2, .bool r3]) ∧ Below w.heap.size w w' := by
  unfold impl_FieldMatch.f at h
  split at h
  · rename_i hb
    have h2 := Option.some.inj h
    have hlen : (l1.map toPr).length = l1.length := List.length_map _
    have hc := FsX.match_calls a0 hb.1 hb.2.1 A1 (l1.map toPr) c1 (by rw [hlen]; exact hb.2.2.1) (fun p hp => by
      obtain ⟨q, hq, rfl⟩ := List.mem_map.1 hp
      exact hb.2.2.2 q hq) w (by rw [hlen]; exact toPr_C hr1)
    rw [h2, hlen] at hc
    exact hc
  · cases h

/-! ### spec_Find: function 11 -/
def spec_Find.l0 : Nat → List (S40) → ByteArray → Int → Option (ByteArray × Bool)
  | 0, _, _, _ => none
  | k + 1, x0, x1, x6 => if x6 ≥ 0 then (if 0 ≤ x6 then (if x6 < (x0.length : Int) then (if ((rd_T40 x0 x6).f0).toList = x1.toList then (some ((rd_T40 x0 x6).f1, true)) else (spec_Find.l0 k x0 x1 (wrap64 (x6 - 1)))) else (none)) else (none)) else (some ((⟨#[]⟩ : ByteArray), false))
def spec_Find.f (k : Nat) (l0 : List (S40)) (a1 : ByteArray) : Option (ByteArray × Bool) := spec_Find.l0 k l0 a1 (wrap64 ((l0.length : Int) - 1))
theorem spec_Find.mono_l : ∀ k, (∀ y0 y1 y2, LeO (spec_Find.l0 k y0 y1 y2) (spec_Find.l0 (k + 1) y0 y1 y2))
  | 0 => fun _ _ _ r h => by simp [spec_Find.l0] at h
  | k + 1 => by
    have ih0 := spec_Find.mono_l k
    · intro y0 y1 y2
      unfold spec_Find.l0
      repeat' first
      | (with_reducible exact ih0 _ _ _)
      | (with_reducible exact LeO.refl _)
      | (with_reducible exact LeO.none _)
      | (with_reducible refine LeO.ite ?_ ?_)
      | (with_reducible refine LeO.bind ?_ (fun _ => ?_))
      | exact ih0 _ _ _
      | exact LeO.none _
      | refine LeO.ite ?_ ?_
      | refine LeO.bind ?_ (fun _ => ?_)
theorem spec_Find.mono : ∀ a0 a1 k, LeO (spec_Find.f k a0 a1) (spec_Find.f (k + 1) a0 a1) := by
  intro a0 a1 k
  have ih0 := spec_Find.mono_l k
  unfold spec_Find.f
  repeat' first
      | (with_reducible exact ih0 _ _ _)
      | (with_reducible exact LeO.refl _)
      | (with_reducible exact LeO.none _)
      | (with_reducible refine LeO.ite ?_ ?_)
      | (with_reducible refine LeO.bind ?_ (fun _ => ?_))
      | exact ih0 _ _ _
      | exact LeO.none _
      | refine LeO.ite ?_ ?_
      | refine LeO.bind ?_ (fun _ => ?_)
set_option maxHeartbeats 8000000 in
set_option maxRecDepth 100000 in
theorem spec_Find.calls (k : Nat) (A0 : Option Addr) (c0 : Nat) (l0 : List (S40)) (a1 : ByteArray) (r1 : ByteArray) (r2 : Bool) (w : World) (hr0 : Kd.C k40 w A0 l0.length l0) (hc0 : l0.length ≤ c0) (h : spec_Find.f k l0 a1 = some (r1, r2)) :
    Calls Tryd.prog 11 #[.slice A0 l0.length c0, .string a1] w fun e w' => e = .returned (.tuple #[.string r1, .bool r2]) ∧ Drawn0 w w' := by
  have HR0 := Aside0.mk hr0
  have HC0 := Aside0.mk hc0
  clear hr0 hc0
  have H : (spec_Find.l0 k l0 a1 (wrap64 ((l0.length : Int) - 1))) = some (r1, r2) := h
  clear h
  have H' := Aside0.mk H
  clear H
  go_enter Tryd.func11, Tryd.ntmps11
  go_wp2
  go_loopg [6] k (fun kq v6 w' => ∃ (x6_1 : Int), v6 = .int .i64 x6_1 ∧ Aside0 (spec_Find.l0 kq l0 a1 x6_1 = some (r1, r2)) ∧ Aside0 (kq ≤ k) ∧ Drawn0 w w')
  case atStart => exact ⟨(wrap64 ((l0.length : Int) - 1)), (by first | rfl | (simp; done) | (simp [*]; done)), H', ⟨Nat.le_refl _⟩, by repeat (first | exact Drawn0.refl _ | apply Drawn0.step)⟩
  case round =>
    clear H'
    try clear c1
    try clear p2
    obtain ⟨x6_1, rfl, HA, HK1, ⟨m1, rfl⟩⟩ := hrel
    cases gk with
    | zero => exact absurd HA.out (by simp [spec_Find.l0])
    | succ k1 =>
      have H := HA.out
      clear HA
      simp only [spec_Find.l0] at H
      by_cases c3 : x6_1 ≥ 0
      · rw [if_pos c3] at H
        have c3b0 : decide (0 ≤ x6_1) = true := decide_eq_true c3
        clear c3
        by_cases c4 : 0 ≤ x6_1
        · rw [if_pos c4] at H
          have c4b0 : decide (0 ≤ x6_1) = true := decide_eq_true c4
          clear c4
          by_cases c5 : x6_1 < (l0.length : Int)
          · rw [if_pos c5] at H
            have c5b0 : decide (x6_1 < (l0.length : Int)) = true := decide_eq_true c5
            clear c5
            by_cases c6 : ((rd_T40 l0 x6_1).f0).toList = a1.toList
            · rw [if_pos c6] at H
              have c6b0 : (((rd_T40 l0 x6_1).f0).toList == a1.toList) = true := beq_iff_eq.mpr c6
              have c6b1 : (((rd_T40 l0 x6_1).f0).toList != a1.toList) = false := bne_eq_false_iff_eq.mpr c6
              clear c6
              simp only [Option.some.injEq, Prod.mk.injEq] at H
              obtain ⟨rfl, rfl⟩ := H
              have p199 : 0 ≤ (x6_1 : Int) := of_decide_eq_true (by first | (with_reducible assumption) | assumption)
              have q199 : x6_1 < (l0.length : Int) := of_decide_eq_true (by first | (with_reducible assumption) | assumption)
              obtain ⟨ad199, e199, hx199_0, hx199_1⟩ := at_T40 HR0.out x6_1 p199 q199
              cases e199
              replace p199 := eq_true p199
              replace q199 := eq_true q199
              have p200 : 0 ≤ (x6_1 : Int) := of_decide_eq_true (by first | (with_reducible assumption) | assumption)
              have q200 : x6_1 < (l0.length : Int) := of_decide_eq_true (by first | (with_reducible assumption) | assumption)
              obtain ⟨ad200, e200, hx200_0, hx200_1⟩ := at_T40 HR0.out x6_1 p200 q200
              obtain rfl : ad199 = ad200 := (by injection e200)
              replace p200 := eq_true p200
              replace q200 := eq_true q200
              go_wp2
              go_ret2
              exact ⟨by first | rfl | (simp; done) | (simp [*]; done), by repeat (first | exact Drawn0.refl _ | apply Drawn0.step)⟩
            · rw [if_neg c6] at H
              have c6b0 : (((rd_T40 l0 x6_1).f0).toList == a1.toList) = false := beq_eq_false_iff_ne.mpr c6
              have c6b1 : (((rd_T40 l0 x6_1).f0).toList != a1.toList) = true := bne_iff_ne.mpr c6
              have H' := Aside0.mk H
              clear H
              have p199 : 0 ≤ (x6_1 : Int) := of_decide_eq_true (by first | (with_reducible assumption) | assumption)
              have q199 : x6_1 < (l0.length : Int) := of_decide_eq_true (by first | (with_reducible assumption) | assumption)
              obtain ⟨ad199, e199, hx199_0, hx199_1⟩ := at_T40 HR0.out x6_1 p199 q199
              cases e199
              replace p199 := eq_true p199
              replace q199 := eq_true q199
              go_wp2
              go_roundg k1
              case measure => have := HK1.out; omega
              case rel => exact ⟨(wrap64 (x6_1 - 1)), (by first | rfl | (simp; done) | (simp [*]; done)), H', ⟨by have := HK1.out; omega⟩, by repeat (first | exact Drawn0.refl _ | apply Drawn0.step)⟩
          · rw [if_neg c5] at H
            exact absurd H (by simp)
        · rw [if_neg c4] at H
          exact absurd H (by simp)
      · rw [if_neg c3] at H
        have c3b0 : decide (0 ≤ x6_1) = false := decide_eq_false c3
        clear c3
        simp only [Option.some.injEq, Prod.mk.injEq] at H
        obtain ⟨rfl, rfl⟩ := H
        go_wp2
        go_ret2
        exact ⟨by first | rfl | (simp; done) | (simp [*]; done), by repeat (first | exact Drawn0.refl _ | apply Drawn0.step)⟩

end Go.Proofs.YtccdnmachpepcaaDoor.XFnFieldExact
