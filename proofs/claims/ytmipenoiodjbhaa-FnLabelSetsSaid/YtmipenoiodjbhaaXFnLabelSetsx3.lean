/- A text of this session: the functions of the law FnLabelSets, by a program that calls the kit's print and lays this session's own contracts of single functions beside. -/
import Derived.Test.YtmipenoiodjbhaaXFnLabelSetsx0
import Derived.Test.YtmipenoiodjbhaaXFnLabelSetsx1
import Derived.Test.YtmipenoiodjbhaaXFnLabelSetsx2
namespace Go.Proofs.Ytmipenoiodjbhaa.XFnLabelSets
open Go.RowKit Go.Proofs.YtmipenoiodjbhaaW.PrintWords Go.Proofs.YtmipenoiodjbhaaW.PrintLast Go.Proofs.YtmipenoiodjbhaaW.PrintMore
attribute [local go_sem] max2_int min2_int max_two min_two max_three min_three max_four min_four   -- for this text's walks alone
set_option linter.unusedVariables false
set_option linter.unusedSimpArgs false

attribute [local go_sem high] eqA44
/-! ### spec_Pairs: function 21 -/
mutual
def spec_Pairs.l0 : Nat → List (S44) → List ByteArray → Int → Option ((List (S44)))
  | 0, _, _, _ => none
  | k + 1, x0, x3, x4 => if x4 < (x0.length : Int) then (if 0 ≤ x4 then (if x3.length < 8796093022208 then (spec_Pairs.l0 k x0 (x3 ++ [(rd_T44 x0 x4).f0]) (wrap64 (x4 + 1))) else (none)) else (none)) else ((spec_Keys_string.f k x3).bind fun t158 => (spec_Pairs.l1 k x0 t158 ([] : List (S44)) 0))
def spec_Pairs.l1 : Nat → List (S44) → List ByteArray → List (S44) → Int → Option ((List (S44)))
  | 0, _, _, _, _ => none
  | k + 1, x0, x3, x5, x6 => if x6 < (x3.length : Int) then (if 0 ≤ x6 then ((spec_Find.f k x0 (rdOf ByteArray.empty x3 x6)).bind fun bt162 => (if x5.length < 4398046511104 then (spec_Pairs.l1 k x0 x3 (x5 ++ [(⟨rdOf ByteArray.empty x3 x6, bt162.1⟩ : S44)]) (wrap64 (x6 + 1))) else (none))) else (none)) else (some x5)
end
def spec_Pairs.f (k : Nat) (l0 : List (S44)) : Option ((List (S44))) := spec_Pairs.l0 k l0 ([] : List ByteArray) 0
theorem spec_Pairs.mono_l : ∀ k, (∀ y0 y1 y2, LeO (spec_Pairs.l0 k y0 y1 y2) (spec_Pairs.l0 (k + 1) y0 y1 y2)) ∧ (∀ y0 y1 y2 y3, LeO (spec_Pairs.l1 k y0 y1 y2 y3) (spec_Pairs.l1 (k + 1) y0 y1 y2 y3))
  | 0 => ⟨fun _ _ _ r h => by simp [spec_Pairs.l0] at h, fun _ _ _ _ r h => by simp [spec_Pairs.l1] at h⟩
  | k + 1 => by
    obtain ⟨ih0, ih1⟩ := spec_Pairs.mono_l k
    refine ⟨?_, ?_⟩
    · intro y0 y1 y2
      unfold spec_Pairs.l0
      repeat' first
      | (with_reducible exact ih0 _ _ _)
      | (with_reducible exact ih1 _ _ _ _)
      | (with_reducible exact spec_Find.mono _ _ _)
      | (with_reducible exact spec_Keys_string.mono _ _)
      | (with_reducible exact LeO.refl _)
      | (with_reducible exact LeO.none _)
      | (with_reducible refine LeO.ite ?_ ?_)
      | (with_reducible refine LeO.bind ?_ (fun _ => ?_))
      | exact ih0 _ _ _
      | exact ih1 _ _ _ _
      | exact spec_Find.mono _ _ _
      | exact spec_Keys_string.mono _ _
      | exact LeO.none _
      | refine LeO.ite ?_ ?_
      | refine LeO.bind ?_ (fun _ => ?_)
    · intro y0 y1 y2 y3
      unfold spec_Pairs.l1
      repeat' first
      | (with_reducible exact ih0 _ _ _)
      | (with_reducible exact ih1 _ _ _ _)
      | (with_reducible exact spec_Find.mono _ _ _)
      | (with_reducible exact spec_Keys_string.mono _ _)
      | (with_reducible exact LeO.refl _)
      | (with_reducible exact LeO.none _)
      | (with_reducible refine LeO.ite ?_ ?_)
      | (with_reducible refine LeO.bind ?_ (fun _ => ?_))
      | exact ih0 _ _ _
      | exact ih1 _ _ _ _
      | exact spec_Find.mono _ _ _
      | exact spec_Keys_string.mono _ _
      | exact LeO.none _
      | refine LeO.ite ?_ ?_
      | refine LeO.bind ?_ (fun _ => ?_)
theorem spec_Pairs.mono : ∀ a0 k, LeO (spec_Pairs.f k a0) (spec_Pairs.f (k + 1) a0) := by
  intro a0 k
  obtain ⟨ih0, ih1⟩ := spec_Pairs.mono_l k
  unfold spec_Pairs.f
  repeat' first
      | (with_reducible exact ih0 _ _ _)
      | (with_reducible exact ih1 _ _ _ _)
      | (with_reducible exact spec_Find.mono _ _ _)
      | (with_reducible exact spec_Keys_string.mono _ _)
      | (with_reducible exact LeO.refl _)
      | (with_reducible exact LeO.none _)
      | (with_reducible refine LeO.ite ?_ ?_)
      | (with_reducible refine LeO.bind ?_ (fun _ => ?_))
      | exact ih0 _ _ _
      | exact ih1 _ _ _ _
      | exact spec_Find.mono _ _ _
      | exact spec_Keys_string.mono _ _
      | exact LeO.none _
      | refine LeO.ite ?_ ?_
      | refine LeO.bind ?_ (fun _ => ?_)
set_option maxHeartbeats 8000000 in
set_option maxRecDepth 100000 in
theorem spec_Pairs.calls (k : Nat) (A0 : Option Addr) (c0 : Nat) (l0 : List (S44)) (r : List (S44)) (w : World) (hr0 : Kd.C k44 w A0 l0.length l0) (hc0 : l0.length ≤ c0) (h : spec_Pairs.f k l0 = some r) :
    Calls Try.prog 21 #[.slice A0 l0.length c0] w fun e w' => ∃ v0_ : Value, e = .returned (v0_) ∧ Kd.R k44 44 w' w.heap.size (fun _ => True) v0_ r ∧ Below w.heap.size w w' := by
  have hu44 := Try.underlying44
  have HR0 := Aside0.mk hr0
  have HC0 := Aside0.mk hc0
  clear hr0 hc0
  have HB := Aside0.mk (Below.refl w.heap.size w)
  have H : (spec_Pairs.l0 k l0 ([] : List ByteArray) 0) = some r := h
  clear h
  have H' := Aside0.mk H
  clear H
  go_enter Try.func21, Try.ntmps21
  go_wp2
  go_loopg [3, 4] k (fun kq v3 v4 w' => ∃ (x3_1 : List ByteArray) (x4_1 : Int), v4 = .int .i64 x4_1 ∧ Aside0 (spec_Pairs.l0 kq l0 x3_1 x4_1 = some r) ∧ Aside0 (kq ≤ k) ∧ Aside0 (Kd.R Kd.string 9 w' w.heap.size (fun _ => True) v3 x3_1) ∧ Aside0 (Below w.heap.size w w'))
  case atStart => exact ⟨(([] : List ByteArray)), (0), (by first | rfl | (simp; done) | (simp [*]; done)), H', ⟨Nat.le_refl _⟩, ⟨by first | exact Kd.R_nil _ _ _ _ _ | exact Kd.N_nil _ _ _ _ _ | exact Kd.V_nil _ _ _ _ _ | exact Kd.Q_nil _ _ _ _ _ | exact Kd.S_nil _ _ _ _ _⟩, ⟨by repeat (first | (with_reducible first | exact HB.out | apply below_alloc | apply pw_below_drewN | apply below_drew1) | exact HB.out)⟩⟩
  case round =>
    clear H'
    obtain ⟨x3_1, x4_1, rfl, HA, HK1, HO_3, HB⟩ := hrel
    cases gk with
    | zero => exact absurd HA.out (by simp [spec_Pairs.l0])
    | succ k1 =>
      have H := HA.out
      clear HA
      simp only [spec_Pairs.l0] at H
      by_cases c2 : x4_1 < (l0.length : Int)
      · rw [if_pos c2] at H
        have c2b0 : decide (x4_1 < (l0.length : Int)) = true := decide_eq_true c2
        clear c2
        by_cases c3 : 0 ≤ x4_1
        · rw [if_pos c3] at H
          have c3b0 : decide (0 ≤ x4_1) = true := decide_eq_true c3
          clear c3
          by_cases c4 : x3_1.length < 8796093022208
          · rw [if_pos c4] at H
            have LMc4 := Aside0.mk c4
            clear c4
            obtain ⟨y155, hy155⟩ : ∃ y_ : List ByteArray, y_ = (x3_1 ++ [(rd_T44 l0 x4_1).f0]) := ⟨_, rfl⟩
            replace H : (spec_Pairs.l0 k1 l0 y155 (wrap64 (x4_1 + 1))) = some r := by first | (rw [hy155]; with_reducible exact H) | (have H2_ := (Option.bind_some _ _).symm.trans H; rw [hy155]; with_reducible exact H2_) | (have H2_ := (Option.bind_some _ _).symm.trans H; with_reducible exact H2_) | with_reducible exact H | (rw [hy155]; exact H) | exact H
            have Ny155 := Aside0.mk hy155
            clear hy155
            have H' := Aside0.mk H
            clear H
            have p154 : 0 ≤ (x4_1 : Int) := of_decide_eq_true (by first | (with_reducible assumption) | assumption)
            have q154 : x4_1 < (l0.length : Int) := of_decide_eq_true (by first | (with_reducible assumption) | assumption)
            obtain ⟨ad154, e154, hx154_0, hx154_1⟩ := at_T44 HR0.out x4_1 p154 q154
            cases e154
            replace hx154_0 := (HB.out.cell (World.block_lt_of_cell? w _ hx154_0)).trans hx154_0
            replace hx154_1 := (HB.out.cell (World.block_lt_of_cell? w _ hx154_1)).trans hx154_1
            replace p154 := eq_true p154
            replace q154 := eq_true q154
            go_wp2_with (first | ((with_reducible refine gate_builtin (b := .append) (xs := #[.tmp 15, .tmp 21]) rfl ?_); at_builtin; refine Kd.R_append Kd.string (w0 := w) w.heap.size rfl (.tmp 15) (.tmp 21) 27 9 (.string ⟨#[]⟩) 16 rfl Try.underlying27 info9 rfl (by decide) (by omega) u3 x3_1 ((rd_T44 l0 x4_1).f0) [.string ((rd_T44 l0 x4_1).f0)] (fun _ => True) (fun _ => False) rfl rfl ?aP (fun _ hk => hk.elim) ?aF ?aO ?aB ?aS ?aL ?_; (case aP => exact rfl); (case aB => exact (by repeat (first | (with_reducible first | exact HB.out | apply below_alloc | apply pw_below_drewN | apply below_drew1) | exact HB.out))); (case aF => exact (fun _ _ => trivial)); (case aO => exact (by (with_reducible repeat (first | apply Kd.R_alloc | apply Kd.R_drewN | apply Kd.R_drew)); exact HO_3.out)); (case aS => exact (below_size (by repeat (first | (with_reducible first | exact HB.out | apply below_alloc | apply pw_below_drewN | apply below_drew1) | exact HB.out)))); (case aL => have := LMc4.out; omega); intro v156 w5 ho hb hg hat; rw [← Ny155.out] at ho; have n0_ := Aside0.mk (hb); have n1_ := Aside0.mk (ho); clear HB; clear HO_3; have HB := n0_; have HO157 := n1_; clear n0_ n1_; clear ho hb hg hat))
            go_roundg k1
            case measure => have := HK1.out; omega
            case rel => exact ⟨(y155), (wrap64 (x4_1 + 1)), (by first | rfl | (simp; done) | (simp [*]; done)), H', ⟨by have := HK1.out; omega⟩, ⟨by (with_reducible repeat (first | apply Kd.R_alloc | apply Kd.R_drewN | apply Kd.R_drew)); exact HO157.out⟩, ⟨by repeat (first | (with_reducible first | exact HB.out | apply below_alloc | apply pw_below_drewN | apply below_drew1) | exact HB.out)⟩⟩
          · rw [if_neg c4] at H
            exact absurd H (by simp)
        · rw [if_neg c3] at H
          exact absurd H (by simp)
      · rw [if_neg c2] at H
        have c2b0 : decide (x4_1 < (l0.length : Int)) = false := decide_eq_false c2
        clear c2
        replace H := Option.bind_eq_some_iff.mp H
        obtain ⟨t158, A60, H⟩ := H
        replace H : (spec_Pairs.l1 k1 l0 t158 ([] : List (S44)) 0) = some r := H
        have A6 := Aside0.mk A60
        clear A60
        have H' := Aside0.mk H
        clear H
        obtain ⟨Ao7, co7, eo7⟩ := Kd.R_slice HO_3.out
        subst eo7
        go_wp2_with (first | ((with_reducible refine gate_callee (f := 18) rfl ?_); refine goesL_ (some 24) rfl rfl Try.func18 (by kernel_rfl) rfl #[.slice Ao7 x3_1.length co7] rfl (by (try simp only [List.map_toArray, List.map_cons, List.map_nil]); first | done | rfl | (simp only [List.length_drop, List.length_take]; rfl)) ?_; (with_reducible refine (spec_Keys_string.calls k1 _ _ x3_1 t158 _ ?side1 ?side2 A6.out).mono ?_); (case side1 => repeat (first | exact (Kd.R_reads' HO_3.out).2.2 | (with_reducible refine Kd.C_alloc ?_ _) | (with_reducible refine Kd.C_drewN ?_ _) | (with_reducible refine Kd.C_drew ?_))); (case side2 => exact (Kd.R_reads' HO_3.out).2.1); rintro e w8 ⟨v159, rfl, ho0, hb⟩; refine ⟨_, rfl, ?_⟩; have n0_ := Aside0.mk (Kd.R_elder' (by (with_reducible repeat (first | apply Kd.R_alloc | apply Kd.R_drewN | apply Kd.R_drew)); exact HO_3.out) (Kd.R_base ho0) hb); have n1_ := Aside0.mk (Kd.R_lower (Kd.R_new' ho0 (Kd.R_lt (by (with_reducible repeat (first | apply Kd.R_alloc | apply Kd.R_drewN | apply Kd.R_drew)); exact HO_3.out))) (below_size (by repeat (first | (with_reducible first | exact HB.out | apply below_alloc | apply pw_below_drewN | apply below_drew1) | exact HB.out)))); have n2_ := Aside0.mk (below_step (by repeat (first | (with_reducible first | exact HB.out | apply below_alloc | apply pw_below_drewN | apply below_drew1) | exact HB.out)) hb); clear HO_3; clear HB; have HO_3 := n0_; have HO160 := n1_; have HB := n2_; clear n0_ n1_ n2_; (try clear hb); (try clear hb2); (try clear hk); (try clear hi); (try clear ho0)))
        go_loopg [5, 6] k1 (fun kq v5 v6 w' => ∃ (x5_2 : List (S44)) (x6_2 : Int), v6 = .int .i64 x6_2 ∧ Aside0 (spec_Pairs.l1 kq l0 t158 x5_2 x6_2 = some r) ∧ Aside0 (kq ≤ k1) ∧ Aside0 (Kd.R Kd.string 9 w' w.heap.size (fun _ => True) v159 t158) ∧ Aside0 (Kd.R k44 44 w' w.heap.size (fun _ => True) v5 x5_2) ∧ Aside0 (Below w.heap.size w w'))
        case atStart => exact ⟨(([] : List (S44))), (0), (by first | rfl | (simp; done) | (simp [*]; done)), H', ⟨Nat.le_refl _⟩, ⟨by (with_reducible repeat (first | apply Kd.R_alloc | apply Kd.R_drewN | apply Kd.R_drew)); exact Kd.R_mono HO160.out (fun _ hk => trivial)⟩, ⟨by first | exact Kd.R_nil _ _ _ _ _ | exact Kd.N_nil _ _ _ _ _ | exact Kd.V_nil _ _ _ _ _ | exact Kd.Q_nil _ _ _ _ _ | exact Kd.S_nil _ _ _ _ _⟩, ⟨by repeat (first | (with_reducible first | exact HB.out | apply below_alloc | apply pw_below_drewN | apply below_drew1) | exact HB.out)⟩⟩
        case round =>
          clear H'
          try clear c1
          try clear p1
          try clear q1
          try clear hx1
          try clear c2
          try clear c2b0
          try clear p2
          try clear c3
          try clear c3b0
          try clear c4
          try clear p6
          try clear hx154_0
          try clear hx154_1
          try clear p154
          try clear q154
          obtain ⟨x5_2, x6_2, rfl, HA, HK2, HO_3, HO_5, HB⟩ := hrel
          cases gk with
          | zero => exact absurd HA.out (by simp [spec_Pairs.l1])
          | succ k2 =>
            have H := HA.out
            clear HA
            simp only [spec_Pairs.l1] at H
            by_cases c9 : x6_2 < (t158.length : Int)
            · rw [if_pos c9] at H
              have c9b0 : decide (x6_2 < (t158.length : Int)) = true := decide_eq_true c9
              clear c9
              by_cases c10 : 0 ≤ x6_2
              · rw [if_pos c10] at H
                have c10b0 : decide (0 ≤ x6_2) = true := decide_eq_true c10
                clear c10
                replace H := Option.bind_eq_some_iff.mp H
                obtain ⟨⟨t162, t163⟩, A110, H⟩ := H
                replace H : (if x5_2.length < 4398046511104 then (spec_Pairs.l1 k2 l0 t158 (x5_2 ++ [(⟨rdOf ByteArray.empty t158 x6_2, t162⟩ : S44)]) (wrap64 (x6_2 + 1))) else (none)) = some r := H
                have A11 := Aside0.mk A110
                clear A110
                by_cases c12 : x5_2.length < 4398046511104
                · rw [if_pos c12] at H
                  have LMc12 := Aside0.mk c12
                  clear c12
                  obtain ⟨y165, hy165⟩ : ∃ y_ : List (S44), y_ = (x5_2 ++ [(⟨rdOf ByteArray.empty t158 x6_2, t162⟩ : S44)]) := ⟨_, rfl⟩
                  replace H : (spec_Pairs.l1 k2 l0 t158 y165 (wrap64 (x6_2 + 1))) = some r := by first | (rw [hy165]; with_reducible exact H) | (have H2_ := (Option.bind_some _ _).symm.trans H; rw [hy165]; with_reducible exact H2_) | (have H2_ := (Option.bind_some _ _).symm.trans H; with_reducible exact H2_) | with_reducible exact H | (rw [hy165]; exact H) | exact H
                  have Ny165 := Aside0.mk hy165
                  clear hy165
                  have H' := Aside0.mk H
                  clear H
                  obtain ⟨Ao13, co13, eo13⟩ := Kd.R_slice HO_3.out
                  subst eo13
                  have p161 : 0 ≤ (x6_2 : Int) := of_decide_eq_true (by first | (with_reducible assumption) | assumption)
                  have q161 : x6_2 < (t158.length : Int) := of_decide_eq_true (by first | (with_reducible assumption) | assumption)
                  obtain ⟨ad161, e161, hx161_0⟩ := Kd.at_string (Kd.R_reads' HO_3.out).2.2 x6_2 p161 q161
                  cases e161
                  replace p161 := eq_true p161
                  replace q161 := eq_true q161
                  go_wp2_with (first | ((with_reducible refine gate_callee (f := 22) rfl ?_); refine goesL_ (some 37) rfl rfl Try.func22 (by kernel_rfl) rfl #[.slice A0 l0.length c0, .string (rdOf ByteArray.empty t158 x6_2)] rfl (by (try simp only [List.map_toArray, List.map_cons, List.map_nil]); first | done | rfl | (simp only [List.length_drop, List.length_take]; rfl)) ?_; (with_reducible refine (spec_Find.calls k2 _ _ l0 (rdOf ByteArray.empty t158 x6_2) t162 t163 _ ?side1 ?side2 A11.out).mono ?_); (case side1 => repeat (first | exact (Kd.C_below HR0.out HB.out) | (with_reducible refine Kd.C_alloc ?_ _) | (with_reducible refine Kd.C_drewN ?_ _) | (with_reducible refine Kd.C_drew ?_))); (case side2 => exact HC0.out); rintro e w' ⟨rfl, ⟨nd, rfl⟩⟩; refine ⟨_, rfl, ?_⟩; have p164 : 0 ≤ (x6_2 : Int) := of_decide_eq_true (by first | (with_reducible assumption) | assumption); have q164 : x6_2 < (t158.length : Int) := of_decide_eq_true (by first | (with_reducible assumption) | assumption); obtain ⟨ad164, e164, hx164_0⟩ := Kd.at_string (Kd.R_reads' HO_3.out).2.2 x6_2 p164 q164; obtain rfl : ad161 = ad164 := (by injection e164); replace p164 := eq_true p164; replace q164 := eq_true q164) | ((with_reducible refine gate_builtin (b := .append) (xs := #[.tmp 40, .tmp 47]) rfl ?_); at_builtin; refine Kd.R_append k44 (w0 := w) w.heap.size rfl (.tmp 40) (.tmp 47) 38 44 (.agg #[(.string ⟨#[]⟩), (.string ⟨#[]⟩)]) 32 rfl Try.underlying38 info44 rfl (by decide) (by omega) u5 x5_2 (⟨rdOf ByteArray.empty t158 x6_2, t162⟩ : S44) [.string (rdOf ByteArray.empty t158 x6_2), .string t162] (fun _ => True) (fun _ => False) rfl rfl ?aP (fun _ hk => hk.elim) ?aF ?aO ?aB ?aS ?aL ?_; (case aP => exact k44_mkM _ _ _ (⟨rdOf ByteArray.empty t158 x6_2, t162⟩ : S44)); (case aB => exact (by repeat (first | (with_reducible first | exact HB.out | apply below_alloc | apply pw_below_drewN | apply below_drew1) | exact HB.out))); (case aF => exact (fun _ _ => trivial)); (case aO => exact (by (with_reducible repeat (first | apply Kd.R_alloc | apply Kd.R_drewN | apply Kd.R_drew)); exact HO_5.out)); (case aS => exact (below_size (by repeat (first | (with_reducible first | exact HB.out | apply below_alloc | apply pw_below_drewN | apply below_drew1) | exact HB.out)))); (case aL => have := LMc12.out; omega); intro v166 w14 ho hb hg hat; rw [← Ny165.out] at ho; have n0_ := Aside0.mk (Kd.R_over' (by (with_reducible repeat (first | apply Kd.R_alloc | apply Kd.R_drewN | apply Kd.R_drew)); exact HO_3.out) (Kd.R_typed (by (with_reducible repeat (first | apply Kd.R_alloc | apply Kd.R_drewN | apply Kd.R_drew)); exact HO_5.out)) (by decide) hg); have n1_ := Aside0.mk (hb); have n2_ := Aside0.mk (ho); clear HO_3; clear HB; clear HO_5; have HO_3 := n0_; have HB := n1_; have HO167 := n2_; clear n0_ n1_ n2_; clear ho hb hg hat))
                  go_roundg k2
                  case measure => have := HK1.out; have := HK2.out; omega
                  case rel => exact ⟨(y165), (wrap64 (x6_2 + 1)), (by first | rfl | (simp; done) | (simp [*]; done)), H', ⟨by have := HK1.out; have := HK2.out; omega⟩, ⟨by (with_reducible repeat (first | apply Kd.R_alloc | apply Kd.R_drewN | apply Kd.R_drew)); exact HO_3.out⟩, ⟨by (with_reducible repeat (first | apply Kd.R_alloc | apply Kd.R_drewN | apply Kd.R_drew)); exact HO167.out⟩, ⟨by repeat (first | (with_reducible first | exact HB.out | apply below_alloc | apply pw_below_drewN | apply below_drew1) | exact HB.out)⟩⟩
                · rw [if_neg c12] at H
                  exact absurd H (by simp)
              · rw [if_neg c10] at H
                exact absurd H (by simp)
            · rw [if_neg c9] at H
              have c9b0 : decide (x6_2 < (t158.length : Int)) = false := decide_eq_false c9
              clear c9
              obtain rfl := Option.some.inj H
              obtain ⟨Ao15, co15, eo15⟩ := Kd.R_slice HO_3.out
              subst eo15
              go_wp2
              go_ret
              exact ⟨_, by first | rfl | (simp [errW_none, errW_some] <;> rfl) | (simp [*, errW_none, errW_some] <;> rfl), by (with_reducible repeat (first | apply Kd.R_alloc | apply Kd.R_drewN | apply Kd.R_drew)); exact HO_5.out, by repeat (first | (with_reducible first | exact HB.out | apply below_alloc | apply pw_below_drewN | apply below_drew1) | exact HB.out)⟩

-- NOT PRINTED: function 117 (bits_Len32)

-- NOT PRINTED: function 118 (bits_Len64)

-- NOT PRINTED: function 104 (bits_Len)

-- NOT PRINTED: function 137 (cmp_isNaN_string)

-- NOT PRINTED: function 125 (cmp_Less_string)

-- NOT PRINTED: function 119 (slices_insertionSortOrdered_string)

-- NOT PRINTED: function 134 (slices_siftDownOrdered_string)

-- NOT PRINTED: function 120 (slices_heapSortOrdered_string)

-- NOT PRINTED: function 129 (slices_nextPowerOfTwo)

-- NOT PRINTED: function 130 (slices_xorshift_Next)

-- NOT PRINTED: function 121 (slices_breakPatternsOrdered_string)

-- NOT PRINTED: function 139 (slices_order2Ordered_string)

-- NOT PRINTED: function 136 (slices_medianOrdered_string)

-- NOT PRINTED: function 135 (slices_medianAdjacentOrdered_string)

-- NOT PRINTED: function 122 (slices_choosePivotOrdered_string)

-- NOT PRINTED: function 123 (slices_reverseRangeOrdered_string)

-- NOT PRINTED: function 124 (slices_partialInsertionSortOrdered_string)

-- NOT PRINTED: function 126 (slices_partitionEqualOrdered_string)

-- NOT PRINTED: function 127 (slices_partitionOrdered_string)

-- NOT PRINTED: function 105 (slices_pdqsortOrdered_string)

-- NOT PRINTED: function 97 (slices_Sort_string_string)

-- NOT PRINTED: function 87 (impl_keys_string)

-- NOT PRINTED: function 44 (impl_pairs)

-- NOT PRINTED: function 45 (labels_Merge)

-- NOT PRINTED: function 46 (impl_labelSet)

-- NOT PRINTED: function 23 (impl_LabelMerge)

-- NOT PRINTED: function 47 (labels_Equals)

-- NOT PRINTED: function 24 (impl_LabelEquals)

/-! ### spec_PairsSame: function 25 -/
def spec_PairsSame.l0 : Nat → List (S44) → List (S44) → Int → Option (Bool)
  | 0, _, _, _ => none
  | k + 1, x0, x1, x5 => if x5 < (x0.length : Int) then (if 0 ≤ x5 then (if x5 < (x1.length : Int) then (if (!((((rd_T44 x0 x5).f0).toList) == (((rd_T44 x1 x5).f0).toList)) || (!((((rd_T44 x0 x5).f1).toList) == (((rd_T44 x1 x5).f1).toList)))) = true then (some false) else (spec_PairsSame.l0 k x0 x1 (wrap64 (x5 + 1)))) else (none)) else (none)) else (some true)
def spec_PairsSame.f (k : Nat) (l0 : List (S44)) (l1 : List (S44)) : Option (Bool) := if (l0.length : Int) = (l1.length : Int) then (spec_PairsSame.l0 k l0 l1 0) else (some false)
theorem spec_PairsSame.mono_l : ∀ k, (∀ y0 y1 y2, LeO (spec_PairsSame.l0 k y0 y1 y2) (spec_PairsSame.l0 (k + 1) y0 y1 y2))
  | 0 => fun _ _ _ r h => by simp [spec_PairsSame.l0] at h
  | k + 1 => by
    have ih0 := spec_PairsSame.mono_l k
    · intro y0 y1 y2
      unfold spec_PairsSame.l0
      repeat' first
      | (with_reducible exact ih0 _ _ _)
      | (with_reducible exact LeO.refl _)
      | (with_reducible exact LeO.none _)
      | (with_reducible refine LeO.ite ?_ ?_)
      | (with_reducible refine LeO.bind ?_ (fun _ => ?_))
      | exact ih0 _ _ _
      | exact LeO.none _
      | refine LeO.ite ?_ ?_
      | refine LeO.bind ?_ (fun _ => ?_)
theorem spec_PairsSame.mono : ∀ a0 a1 k, LeO (spec_PairsSame.f k a0 a1) (spec_PairsSame.f (k + 1) a0 a1) := by
  intro a0 a1 k
  have ih0 := spec_PairsSame.mono_l k
  unfold spec_PairsSame.f
  repeat' first
      | (with_reducible exact ih0 _ _ _)
      | (with_reducible exact LeO.refl _)
      | (with_reducible exact LeO.none _)
      | (with_reducible refine LeO.ite ?_ ?_)
      | (with_reducible refine LeO.bind ?_ (fun _ => ?_))
      | exact ih0 _ _ _
      | exact LeO.none _
      | refine LeO.ite ?_ ?_
      | refine LeO.bind ?_ (fun _ => ?_)
set_option maxHeartbeats 8000000 in
set_option maxRecDepth 100000 in
theorem spec_PairsSame.calls (k : Nat) (A0 : Option Addr) (c0 : Nat) (l0 : List (S44)) (A1 : Option Addr) (c1 : Nat) (l1 : List (S44)) (r : Bool) (w : World) (hr0 : Kd.C k44 w A0 l0.length l0) (hc0 : l0.length ≤ c0) (hr1 : Kd.C k44 w A1 l1.length l1) (hc1 : l1.length ≤ c1) (h : spec_PairsSame.f k l0 l1 = some r) :
    Calls Try.prog 25 #[.slice A0 l0.length c0, .slice A1 l1.length c1] w fun e w' => e = .returned (.bool r) ∧ Drawn0 w w' := by
  have hu44 := Try.underlying44
  have HR0 := Aside0.mk hr0
  have HC0 := Aside0.mk hc0
  clear hr0 hc0
  have HR1 := Aside0.mk hr1
  have HC1 := Aside0.mk hc1
  clear hr1 hc1
  have H : (if (l0.length : Int) = (l1.length : Int) then (spec_PairsSame.l0 k l0 l1 0) else (some false)) = some r := h
  clear h
  by_cases c3 : (l0.length : Int) = (l1.length : Int)
  · rw [if_pos c3] at H
    have c3b0 : ((l0.length : Int) == (l1.length : Int)) = true := beq_iff_eq.mpr c3
    have c3b1 : ((l0.length : Int) != (l1.length : Int)) = false := bne_eq_false_iff_eq.mpr c3
    have c3b2 : (l0.length == l1.length) = true := by first | simpa using c3 | (simp at c3 ⊢; omega)
    clear c3
    have H' := Aside0.mk H
    clear H
    go_enter Try.func25, Try.ntmps25
    go_wp2
    repeat (go_quiet (fail); try go_wp2)
    go_loopg [5] k (fun kq v5 w' => ∃ (x5_1 : Int), v5 = .int .i64 x5_1 ∧ Aside0 (spec_PairsSame.l0 kq l0 l1 x5_1 = some r) ∧ Aside0 (kq ≤ k) ∧ Drawn0 w w')
    case atStart => exact ⟨(0), (by first | rfl | (simp; done) | (simp [*]; done)), H', ⟨Nat.le_refl _⟩, by repeat (first | exact Drawn0.refl _ | apply Drawn0.step)⟩
    case round =>
      clear H'
      try clear c1
      try clear c2
      try clear p2
      try clear c3
      try clear c3b0
      try clear c3b1
      try clear c3b2
      obtain ⟨x5_1, rfl, HA, HK1, ⟨m1, rfl⟩⟩ := hrel
      cases gk with
      | zero => exact absurd HA.out (by simp [spec_PairsSame.l0])
      | succ k1 =>
        have H := HA.out
        clear HA
        simp only [spec_PairsSame.l0] at H
        by_cases c4 : x5_1 < (l0.length : Int)
        · rw [if_pos c4] at H
          have c4b0 : decide (x5_1 < (l0.length : Int)) = true := decide_eq_true c4
          clear c4
          by_cases c5 : 0 ≤ x5_1
          · rw [if_pos c5] at H
            have c5b0 : decide (0 ≤ x5_1) = true := decide_eq_true c5
            clear c5
            by_cases c6 : x5_1 < (l1.length : Int)
            · rw [if_pos c6] at H
              have c6b0 : decide (x5_1 < (l1.length : Int)) = true := decide_eq_true c6
              clear c6
              by_cases c7 : (!((((rd_T44 l0 x5_1).f0).toList) == (((rd_T44 l1 x5_1).f0).toList)) || (!((((rd_T44 l0 x5_1).f1).toList) == (((rd_T44 l1 x5_1).f1).toList)))) = true
              · rw [if_pos c7] at H
                have c7b0 : (!((((rd_T44 l0 x5_1).f0).toList) == (((rd_T44 l1 x5_1).f0).toList)) || (!((((rd_T44 l0 x5_1).f1).toList) == (((rd_T44 l1 x5_1).f1).toList)))) = true := c7
                clear c7
                obtain rfl := Option.some.inj H
                have p168 : 0 ≤ (x5_1 : Int) := of_decide_eq_true (by first | (with_reducible assumption) | assumption)
                have q168 : x5_1 < (l0.length : Int) := of_decide_eq_true (by first | (with_reducible assumption) | assumption)
                obtain ⟨ad168, e168, hx168_0, hx168_1⟩ := at_T44 HR0.out x5_1 p168 q168
                cases e168
                replace p168 := eq_true p168
                replace q168 := eq_true q168
                have p169 : 0 ≤ (x5_1 : Int) := of_decide_eq_true (by first | (with_reducible assumption) | assumption)
                have q169 : x5_1 < (l1.length : Int) := of_decide_eq_true (by first | (with_reducible assumption) | assumption)
                obtain ⟨ad169, e169, hx169_0, hx169_1⟩ := at_T44 HR1.out x5_1 p169 q169
                cases e169
                replace p169 := eq_true p169
                replace q169 := eq_true q169
                go_wp2
                repeat (go_quiet (fail); try go_wp2)
                go_ret
                exact ⟨by first | rfl | (simp; done) | (simp [*]; done), by repeat (first | exact Drawn0.refl _ | apply Drawn0.step)⟩
              · rw [if_neg c7] at H
                have c7b0 : (!((((rd_T44 l0 x5_1).f0).toList) == (((rd_T44 l1 x5_1).f0).toList)) || (!((((rd_T44 l0 x5_1).f1).toList) == (((rd_T44 l1 x5_1).f1).toList)))) = false := by simpa using c7
                clear c7
                have H' := Aside0.mk H
                clear H
                have p168 : 0 ≤ (x5_1 : Int) := of_decide_eq_true (by first | (with_reducible assumption) | assumption)
                have q168 : x5_1 < (l0.length : Int) := of_decide_eq_true (by first | (with_reducible assumption) | assumption)
                obtain ⟨ad168, e168, hx168_0, hx168_1⟩ := at_T44 HR0.out x5_1 p168 q168
                cases e168
                replace p168 := eq_true p168
                replace q168 := eq_true q168
                have p169 : 0 ≤ (x5_1 : Int) := of_decide_eq_true (by first | (with_reducible assumption) | assumption)
                have q169 : x5_1 < (l1.length : Int) := of_decide_eq_true (by first | (with_reducible assumption) | assumption)
                obtain ⟨ad169, e169, hx169_0, hx169_1⟩ := at_T44 HR1.out x5_1 p169 q169
                cases e169
                replace p169 := eq_true p169
                replace q169 := eq_true q169
                go_wp2
                repeat (go_quiet (fail); try go_wp2)
                go_roundg k1
                case measure => have := HK1.out; omega
                case rel => exact ⟨(wrap64 (x5_1 + 1)), (by first | rfl | (simp; done) | (simp [*]; done)), H', ⟨by have := HK1.out; omega⟩, by repeat (first | exact Drawn0.refl _ | apply Drawn0.step)⟩
            · rw [if_neg c6] at H
              exact absurd H (by simp)
          · rw [if_neg c5] at H
            exact absurd H (by simp)
        · rw [if_neg c4] at H
          have c4b0 : decide (x5_1 < (l0.length : Int)) = false := decide_eq_false c4
          clear c4
          obtain rfl := Option.some.inj H
          go_wp2
          repeat (go_quiet (fail); try go_wp2)
          go_ret
          exact ⟨by first | rfl | (simp; done) | (simp [*]; done), by repeat (first | exact Drawn0.refl _ | apply Drawn0.step)⟩
  · rw [if_neg c3] at H
    have c3b0 : ((l0.length : Int) == (l1.length : Int)) = false := beq_eq_false_iff_ne.mpr c3
    have c3b1 : ((l0.length : Int) != (l1.length : Int)) = true := bne_iff_ne.mpr c3
    have c3b2 : (l0.length == l1.length) = false := by first | simpa using c3 | (simp at c3 ⊢; omega)
    obtain rfl := Option.some.inj H
    go_enter Try.func25, Try.ntmps25
    go_wp2
    repeat (go_quiet (fail); try go_wp2)
    go_ret
    exact ⟨by first | rfl | (simp; done) | (simp [*]; done), by repeat (first | exact Drawn0.refl _ | apply Drawn0.step)⟩

-- NOT PRINTED: function 48 (labels_Conflicts)

-- NOT PRINTED: function 26 (impl_LabelConflicts)

-- NOT PRINTED: function 6 (laws_FnLabelSets)

end Go.Proofs.Ytmipenoiodjbhaa.XFnLabelSets
