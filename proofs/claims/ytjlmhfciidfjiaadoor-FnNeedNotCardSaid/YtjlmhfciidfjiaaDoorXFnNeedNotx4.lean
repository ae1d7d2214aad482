/- A text of this session: the functions of the law FnNeedNot, by a program that calls the kit's print and lays this session's own contracts of single functions beside. -/
import Derived.Test.YtjlmhfciidfjiaaDoorXFnNeedNotx0
import Derived.Test.YtjlmhfciidfjiaaDoorXFnNeedNotx1
import Derived.Test.YtjlmhfciidfjiaaDoorXFnNeedNotx2
import Derived.Test.YtjlmhfciidfjiaaDoorXFnNeedNotx3
namespace Go.Proofs.YtjlmhfciidfjiaaDoor.XFnNeedNot
open Go.RowKit Go.Proofs.YtjlmhfciidfjiaaDoorW.PrintWords Go.Proofs.YtjlmhfciidfjiaaDoorW.PrintLast Go.Proofs.YtjlmhfciidfjiaaDoorW.PrintMore
attribute [local go_sem] max2_int min2_int max_two min_two max_three min_three max_four min_four   -- for this text's walks alone
set_option linter.unusedVariables false
set_option linter.unusedSimpArgs false

/-! ### spec_NeedMay: function 6 -/
mutual
def spec_NeedMay.j0 : Nat → Bool → ByteArray → ByteArray → List ByteArray → Option (Bool)
  | 0, _, _, _, _ => none
  | k + 1, x13, x130000, x130001, x130002 => if x13 = true then (some false) else (spec_NeedMay.l0 k 0 x130000 x130001 x130002)
def spec_NeedMay.l0 : Nat → Int → ByteArray → ByteArray → List ByteArray → Option (Bool)
  | 0, _, _, _, _ => none
  | k + 1, x3, x130000, x130001, x130002 => if x3 < (x130002.length : Int) then (if 0 ≤ x3 then ((spec_NameValue.f k (rdOf ByteArray.empty x130002 x3)).bind fun t133 => (if t133 = true then (spec_NeedMay.l0 k (wrap64 (x3 + 1)) x130000 x130001 x130002) else (some false))) else (none)) else ((spec_NeedCount.f k x130000 x130001 x130002).bind fun t134 => (some t134))
end
def spec_NeedMay.f (k : Nat) (a0_0 : ByteArray) (a0_1 : ByteArray) (l0_2 : List ByteArray) : Option (Bool) := (spec_NeedOp.f k a0_1).bind fun t130 => (if t130 = true then ((spec_NameKey.f k a0_0).bind fun t131 => (spec_NeedMay.j0 k (!t131) a0_0 a0_1 l0_2)) else (spec_NeedMay.j0 k true a0_0 a0_1 l0_2))
theorem spec_NeedMay.mono_l : ∀ k, (∀ y0 y1 y2 y3, LeO (spec_NeedMay.j0 k y0 y1 y2 y3) (spec_NeedMay.j0 (k + 1) y0 y1 y2 y3)) ∧ (∀ y0 y1 y2 y3, LeO (spec_NeedMay.l0 k y0 y1 y2 y3) (spec_NeedMay.l0 (k + 1) y0 y1 y2 y3))
  | 0 => ⟨fun _ _ _ _ r h => by simp [spec_NeedMay.j0] at h, fun _ _ _ _ r h => by simp [spec_NeedMay.l0] at h⟩
  | k + 1 => by
    obtain ⟨ih0, ih1⟩ := spec_NeedMay.mono_l k
    refine ⟨?_, ?_⟩
    · intro y0 y1 y2 y3
      unfold spec_NeedMay.j0
      repeat' first
      | (with_reducible exact ih0 _ _ _ _)
      | (with_reducible exact ih1 _ _ _ _)
      | (with_reducible exact spec_NameKey.mono _ _)
      | (with_reducible exact spec_NameValue.mono _ _)
      | (with_reducible exact spec_NeedCount.mono _ _ _ _)
      | (with_reducible exact spec_NeedOp.mono _ _)
      | (with_reducible exact LeO.refl _)
      | (with_reducible exact LeO.none _)
      | (with_reducible refine LeO.ite ?_ ?_)
      | (with_reducible refine LeO.bind ?_ (fun _ => ?_))
      | exact ih0 _ _ _ _
      | exact ih1 _ _ _ _
      | exact spec_NameKey.mono _ _
      | exact spec_NameValue.mono _ _
      | exact spec_NeedCount.mono _ _ _ _
      | exact spec_NeedOp.mono _ _
      | exact LeO.none _
      | refine LeO.ite ?_ ?_
      | refine LeO.bind ?_ (fun _ => ?_)
    · intro y0 y1 y2 y3
      unfold spec_NeedMay.l0
      repeat' first
      | (with_reducible exact ih0 _ _ _ _)
      | (with_reducible exact ih1 _ _ _ _)
      | (with_reducible exact spec_NameKey.mono _ _)
      | (with_reducible exact spec_NameValue.mono _ _)
      | (with_reducible exact spec_NeedCount.mono _ _ _ _)
      | (with_reducible exact spec_NeedOp.mono _ _)
      | (with_reducible exact LeO.refl _)
      | (with_reducible exact LeO.none _)
      | (with_reducible refine LeO.ite ?_ ?_)
      | (with_reducible refine LeO.bind ?_ (fun _ => ?_))
      | exact ih0 _ _ _ _
      | exact ih1 _ _ _ _
      | exact spec_NameKey.mono _ _
      | exact spec_NameValue.mono _ _
      | exact spec_NeedCount.mono _ _ _ _
      | exact spec_NeedOp.mono _ _
      | exact LeO.none _
      | refine LeO.ite ?_ ?_
      | refine LeO.bind ?_ (fun _ => ?_)
theorem spec_NeedMay.mono : ∀ a0 a1 a2 k, LeO (spec_NeedMay.f k a0 a1 a2) (spec_NeedMay.f (k + 1) a0 a1 a2) := by
  intro a0 a1 a2 k
  obtain ⟨ih0, ih1⟩ := spec_NeedMay.mono_l k
  unfold spec_NeedMay.f
  repeat' first
      | (with_reducible exact ih0 _ _ _ _)
      | (with_reducible exact ih1 _ _ _ _)
      | (with_reducible exact spec_NameKey.mono _ _)
      | (with_reducible exact spec_NameValue.mono _ _)
      | (with_reducible exact spec_NeedCount.mono _ _ _ _)
      | (with_reducible exact spec_NeedOp.mono _ _)
      | (with_reducible exact LeO.refl _)
      | (with_reducible exact LeO.none _)
      | (with_reducible refine LeO.ite ?_ ?_)
      | (with_reducible refine LeO.bind ?_ (fun _ => ?_))
      | exact ih0 _ _ _ _
      | exact ih1 _ _ _ _
      | exact spec_NameKey.mono _ _
      | exact spec_NameValue.mono _ _
      | exact spec_NeedCount.mono _ _ _ _
      | exact spec_NeedOp.mono _ _
      | exact LeO.none _
      | refine LeO.ite ?_ ?_
      | refine LeO.bind ?_ (fun _ => ?_)
set_option maxHeartbeats 8000000 in
set_option maxRecDepth 100000 in
theorem spec_NeedMay.calls (k : Nat) (a0_0 : ByteArray) (a0_1 : ByteArray) (A0_2 : Option Addr) (c0_2 : Nat) (l0_2 : List ByteArray) (r : Bool) (w : World) (hr0_2 : Kd.C Kd.string w A0_2 l0_2.length l0_2) (hc0_2 : l0_2.length ≤ c0_2) (h : spec_NeedMay.f k a0_0 a0_1 l0_2 = some r) :
    Calls Tryd.prog 6 #[.agg #[.string a0_0, .string a0_1, .slice A0_2 l0_2.length c0_2]] w fun e w' => e = .returned (.bool r) ∧ Below w.heap.size w w' := by
  have hu29 := Tryd.underlying29
  have HR0_2 := Aside0.mk hr0_2
  have HC0_2 := Aside0.mk hc0_2
  clear hr0_2 hc0_2
  have HB := Aside0.mk (Below.refl w.heap.size w)
  have H : ((spec_NeedOp.f k a0_1).bind fun t130 => (if t130 = true then ((spec_NameKey.f k a0_0).bind fun t131 => (spec_NeedMay.j0 k (!t131) a0_0 a0_1 l0_2)) else (spec_NeedMay.j0 k true a0_0 a0_1 l0_2))) = some r := h
  clear h
  have HC2 := Aside0.mk H
  clear H
  go_enter Tryd.func6, Tryd.ntmps6
  go_upto_region 1 with (first | ((with_reducible refine gate_dst (N := 1) rfl ?_); refine box_event ?hg (N := 1) ?hd (cs := #[.string a0_0, .string a0_1, .slice A0_2 l0_2.length c0_2]) (t := 29) ?hr ?_; (case hd => rfl); (case hg => rfl); (case hr => first | (go_simp; done) | (go_simp; rfl)); intro gb129 hg w3 hbox hb; have n0_ := Aside0.mk (below_step (by repeat (first | (with_reducible first | exact HB.out | apply below_alloc | apply pw_below_drewN | apply below_drew1) | exact HB.out)) hb); have n1_ := Aside0.mk (hbox); have n2_ := Aside0.mk ((by rw [hg]; exact (below_size (by repeat (first | (with_reducible first | exact HB.out | apply below_alloc | apply pw_below_drewN | apply below_drew1) | exact HB.out))) : w.heap.size ≤ gb129)); have n3_ := Aside0.mk ((by rw [hg]; exact (below_size (by repeat (first | (with_reducible first | exact HB.out | apply below_alloc | apply pw_below_drewN | apply below_drew1) | exact HB.out))) : w.heap.size ≤ gb129)); clear HB; have HB := n0_; have BK129 := n1_; have GW129 := n2_; have GE129 := n3_; clear n0_ n1_ n2_ n3_; clear hb hbox hg))
  (try simp only [Act.put, List.setIfInBounds_toArray, List.set_cons_zero, List.set_cons_succ])
  go_cut [13] (fun v13 wc => ∃ (kq : Nat) (x13_1 : Bool), v13 = .bool x13_1 ∧ Aside0 (spec_NeedMay.j0 kq x13_1 a0_0 a0_1 l0_2 = some r) ∧ Aside0 (kq ≤ k) ∧ Aside0 (wc.heap[gb129]? = some (.cells #[.string a0_0, .string a0_1, (.slice A0_2 l0_2.length c0_2)] 29 (0, 0))) ∧ Aside0 (Below w.heap.size w wc))
  case first =>
    have H := HC2.out
    clear HC2
    replace H := Option.bind_eq_some_iff.mp H
    obtain ⟨t130, A40, H⟩ := H
    replace H : (if t130 = true then ((spec_NameKey.f k a0_0).bind fun t131 => (spec_NeedMay.j0 k (!t131) a0_0 a0_1 l0_2)) else (spec_NeedMay.j0 k true a0_0 a0_1 l0_2)) = some r := H
    have A4 := Aside0.mk A40
    clear A40
    by_cases c5 : t130 = true
    · subst c5
      have H1 : ((spec_NameKey.f k a0_0).bind fun t131 => (spec_NeedMay.j0 k (!t131) a0_0 a0_1 l0_2)) = some r := by rw [if_pos rfl] at H; exact H
      clear H
      have H := H1
      clear H1
      replace H := Option.bind_eq_some_iff.mp H
      obtain ⟨t131, A60, H⟩ := H
      replace H : (spec_NeedMay.j0 k (!t131) a0_0 a0_1 l0_2) = some r := H
      have A6 := Aside0.mk A60
      clear A60
      have H' := Aside0.mk H
      clear H
      have hcz7_0 : w3.cell? ⟨gb129, 0, none⟩ = some (.string a0_0) := (blk_cell BK129.out 0).trans rfl
      have hcz7_1 : w3.cell? ⟨gb129, 1, none⟩ = some (.string a0_1) := (blk_cell BK129.out 1).trans rfl
      have hcz7_2 : w3.cell? ⟨gb129, 2, none⟩ = some (.slice A0_2 l0_2.length c0_2) := (blk_cell BK129.out 2).trans rfl
      have hfz7_0 := blk_frozen BK129.out 0
      have hfz7_1 := blk_frozen BK129.out 1
      have hfz7_2 := blk_frozen BK129.out 2
      go_wp2_with (first | ((with_reducible refine gate_callee (f := 9) rfl ?_); refine goesL_ (some 6) rfl rfl Tryd.func9 (by kernel_rfl) rfl #[.string a0_1] rfl (by (try simp only [List.map_toArray, List.map_cons, List.map_nil]); first | done | rfl | (simp only [List.length_drop, List.length_take]; rfl)) ?_; (with_reducible refine (spec_NeedOp.calls k a0_1 true _ A4.out).mono ?_); rintro e w8 ⟨rfl, hb⟩; refine ⟨_, rfl, ?_⟩; have n0_ := Aside0.mk (blk_below (g := gb129) (o := .cells #[.string a0_0, .string a0_1, .slice A0_2 l0_2.length c0_2] 29 (0, 0)) (by (with_reducible repeat (first | refine blk_drewN ?_ _ | refine blk_drew ?_ | refine blk_alloc ?_ _)); exact BK129.out) hb); have n1_ := Aside0.mk (below_step (by repeat (first | (with_reducible first | exact HB.out | apply below_alloc | apply pw_below_drewN | apply below_drew1 | refine below_set ?_ GE129.out) | exact HB.out)) hb); clear BK129; clear HB; have BK129 := n0_; have HB := n1_; clear n0_ n1_; (try clear hb); (try clear hb2); (try clear hk); (try clear hi); have hcz9_0 : w8.cell? ⟨gb129, 0, none⟩ = some (.string a0_0) := (blk_cell BK129.out 0).trans rfl; have hcz9_1 : w8.cell? ⟨gb129, 1, none⟩ = some (.string a0_1) := (blk_cell BK129.out 1).trans rfl; have hcz9_2 : w8.cell? ⟨gb129, 2, none⟩ = some (.slice A0_2 l0_2.length c0_2) := (blk_cell BK129.out 2).trans rfl; have hfz9_0 := blk_frozen BK129.out 0; have hfz9_1 := blk_frozen BK129.out 1; have hfz9_2 := blk_frozen BK129.out 2) | (go_at_call 10; (with_reducible refine (spec_NameKey.calls k a0_0 t131 _ A6.out).mono ?_); rintro e w10 ⟨rfl, hb⟩; have n0_ := Aside0.mk (blk_below (g := gb129) (o := .cells #[.string a0_0, .string a0_1, .slice A0_2 l0_2.length c0_2] 29 (0, 0)) (by (with_reducible repeat (first | refine blk_drewN ?_ _ | refine blk_drew ?_ | refine blk_alloc ?_ _)); exact BK129.out) hb); have n1_ := Aside0.mk (below_step (by repeat (first | (with_reducible first | exact HB.out | apply below_alloc | apply pw_below_drewN | apply below_drew1 | refine below_set ?_ GE129.out) | exact HB.out)) hb); clear BK129; clear HB; have BK129 := n0_; have HB := n1_; clear n0_ n1_; (try clear hb); (try clear hb2); (try clear hk); (try clear hi)))
      go_meet
      case rel => exact ⟨_, (!t131), (by first | rfl | (simp; done) | (simp [*]; done)), H', ⟨by first | omega | exact Nat.le_refl _⟩, ⟨by (with_reducible repeat (first | refine blk_drewN ?_ _ | refine blk_drew ?_ | refine blk_alloc ?_ _)); exact BK129.out⟩, ⟨by repeat (first | (with_reducible first | exact HB.out | apply below_alloc | apply pw_below_drewN | apply below_drew1 | refine below_set ?_ GE129.out) | exact HB.out)⟩⟩
    · replace c5 := Bool.eq_false_iff.mpr c5
      subst c5
      have H1 : (spec_NeedMay.j0 k true a0_0 a0_1 l0_2) = some r := by rw [if_neg (show ¬ (false = true) by decide)] at H; exact H
      clear H
      have H := H1
      clear H1
      have H' := Aside0.mk H
      clear H
      have hcz11_0 : w3.cell? ⟨gb129, 0, none⟩ = some (.string a0_0) := (blk_cell BK129.out 0).trans rfl
      have hcz11_1 : w3.cell? ⟨gb129, 1, none⟩ = some (.string a0_1) := (blk_cell BK129.out 1).trans rfl
      have hcz11_2 : w3.cell? ⟨gb129, 2, none⟩ = some (.slice A0_2 l0_2.length c0_2) := (blk_cell BK129.out 2).trans rfl
      have hfz11_0 := blk_frozen BK129.out 0
      have hfz11_1 := blk_frozen BK129.out 1
      have hfz11_2 := blk_frozen BK129.out 2
      go_wp2_with (first | ((with_reducible refine gate_callee (f := 9) rfl ?_); refine goesL_ (some 6) rfl rfl Tryd.func9 (by kernel_rfl) rfl #[.string a0_1] rfl (by (try simp only [List.map_toArray, List.map_cons, List.map_nil]); first | done | rfl | (simp only [List.length_drop, List.length_take]; rfl)) ?_; (with_reducible refine (spec_NeedOp.calls k a0_1 false _ A4.out).mono ?_); rintro e w12 ⟨rfl, hb⟩; refine ⟨_, rfl, ?_⟩; have n0_ := Aside0.mk (blk_below (g := gb129) (o := .cells #[.string a0_0, .string a0_1, .slice A0_2 l0_2.length c0_2] 29 (0, 0)) (by (with_reducible repeat (first | refine blk_drewN ?_ _ | refine blk_drew ?_ | refine blk_alloc ?_ _)); exact BK129.out) hb); have n1_ := Aside0.mk (below_step (by repeat (first | (with_reducible first | exact HB.out | apply below_alloc | apply pw_below_drewN | apply below_drew1 | refine below_set ?_ GE129.out) | exact HB.out)) hb); clear BK129; clear HB; have BK129 := n0_; have HB := n1_; clear n0_ n1_; (try clear hb); (try clear hb2); (try clear hk); (try clear hi)))
      go_meet
      case rel => exact ⟨_, (true), (by first | rfl | (simp; done) | (simp [*]; done)), H', ⟨by first | omega | exact Nat.le_refl _⟩, ⟨by (with_reducible repeat (first | refine blk_drewN ?_ _ | refine blk_drew ?_ | refine blk_alloc ?_ _)); exact BK129.out⟩, ⟨by repeat (first | (with_reducible first | exact HB.out | apply below_alloc | apply pw_below_drewN | apply below_drew1 | refine below_set ?_ GE129.out) | exact HB.out)⟩⟩
  case rest =>
    clear HC2
    try clear p2
    try clear c5
    try clear c6
    try clear c9
    try clear hcz11_0
    try clear hcz11_1
    try clear hcz11_2
    try clear hcz7_0
    try clear hcz7_1
    try clear hcz7_2
    try clear hcz9_0
    try clear hcz9_1
    try clear hcz9_2
    try clear hfz11_0
    try clear hfz11_1
    try clear hfz11_2
    try clear hfz7_0
    try clear hfz7_1
    try clear hfz7_2
    try clear hfz9_0
    try clear hfz9_1
    try clear hfz9_2
    obtain ⟨kq, x13_1, rfl, HA, HJ1, BK129, HB⟩ := hcut
    cases kq with
    | zero => exact absurd HA.out (by simp [spec_NeedMay.j0])
    | succ kj1 =>
      have H := HA.out
      clear HA
      simp only [spec_NeedMay.j0] at H
      by_cases c13 : x13_1 = true
      · subst c13
        have H1 : (some false) = some r := by rw [if_pos rfl] at H; exact H
        clear H
        have H := H1
        clear H1
        obtain rfl := Option.some.inj H
        go_wp2
        go_ret
        exact ⟨by first | rfl | (simp [errW_none, errW_some] <;> rfl) | (simp [*, errW_none, errW_some] <;> rfl), by repeat (first | (with_reducible first | exact HB.out | apply below_alloc | apply pw_below_drewN | apply below_drew1 | refine below_set ?_ GE129.out) | exact HB.out)⟩
      · replace c13 := Bool.eq_false_iff.mpr c13
        subst c13
        have H1 : (spec_NeedMay.l0 kj1 0 a0_0 a0_1 l0_2) = some r := by rw [if_neg (show ¬ (false = true) by decide)] at H; exact H
        clear H
        have H := H1
        clear H1
        have H' := Aside0.mk H
        clear H
        go_wp2
        go_loopg [3] kj1 (fun kq v3 w' => ∃ (x3_2 : Int), v3 = .int .i64 x3_2 ∧ Aside0 (spec_NeedMay.l0 kq x3_2 a0_0 a0_1 l0_2 = some r) ∧ Aside0 (kq ≤ kj1) ∧ Aside0 (w'.heap[gb129]? = some (.cells #[.string a0_0, .string a0_1, (.slice A0_2 l0_2.length c0_2)] 29 (0, 0))) ∧ Aside0 (Below w.heap.size w w'))
        case atStart => exact ⟨(0), (by first | rfl | (simp; done) | (simp [*]; done)), H', ⟨Nat.le_refl _⟩, ⟨by (with_reducible repeat (first | refine blk_drewN ?_ _ | refine blk_drew ?_ | refine blk_alloc ?_ _)); exact BK129.out⟩, ⟨by repeat (first | (with_reducible first | exact HB.out | apply below_alloc | apply pw_below_drewN | apply below_drew1 | refine below_set ?_ GE129.out) | exact HB.out)⟩⟩
        case round =>
          clear H'
          try clear c1
          try clear p2
          try clear c5
          try clear c6
          try clear c9
          try clear c13
          try clear hcz11_0
          try clear hcz11_1
          try clear hcz11_2
          try clear hcz7_0
          try clear hcz7_1
          try clear hcz7_2
          try clear hcz9_0
          try clear hcz9_1
          try clear hcz9_2
          try clear hfz11_0
          try clear hfz11_1
          try clear hfz11_2
          try clear hfz7_0
          try clear hfz7_1
          try clear hfz7_2
          try clear hfz9_0
          try clear hfz9_1
          try clear hfz9_2
          try clear p2
          obtain ⟨x3_2, rfl, HA, HK2, BK129, HB⟩ := hrel
          cases gk with
          | zero => exact absurd HA.out (by simp [spec_NeedMay.l0])
          | succ k2 =>
            have H := HA.out
            clear HA
            simp only [spec_NeedMay.l0] at H
            by_cases c14 : x3_2 < (l0_2.length : Int)
            · rw [if_pos c14] at H
              have c14b0 : decide (x3_2 < (l0_2.length : Int)) = true := decide_eq_true c14
              clear c14
              by_cases c15 : 0 ≤ x3_2
              · rw [if_pos c15] at H
                have c15b0 : decide (0 ≤ x3_2) = true := decide_eq_true c15
                clear c15
                replace H := Option.bind_eq_some_iff.mp H
                obtain ⟨t133, A160, H⟩ := H
                replace H : (if t133 = true then (spec_NeedMay.l0 k2 (wrap64 (x3_2 + 1)) a0_0 a0_1 l0_2) else (some false)) = some r := H
                have A16 := Aside0.mk A160
                clear A160
                by_cases c17 : t133 = true
                · subst c17
                  have H1 : (spec_NeedMay.l0 k2 (wrap64 (x3_2 + 1)) a0_0 a0_1 l0_2) = some r := by rw [if_pos rfl] at H; exact H
                  clear H
                  have H := H1
                  clear H1
                  have H' := Aside0.mk H
                  clear H
                  have hcz18_0 : wr.cell? ⟨gb129, 0, none⟩ = some (.string a0_0) := (blk_cell BK129.out 0).trans rfl
                  have hcz18_1 : wr.cell? ⟨gb129, 1, none⟩ = some (.string a0_1) := (blk_cell BK129.out 1).trans rfl
                  have hcz18_2 : wr.cell? ⟨gb129, 2, none⟩ = some (.slice A0_2 l0_2.length c0_2) := (blk_cell BK129.out 2).trans rfl
                  have hfz18_0 := blk_frozen BK129.out 0
                  have hfz18_1 := blk_frozen BK129.out 1
                  have hfz18_2 := blk_frozen BK129.out 2
                  have p132 : 0 ≤ (x3_2 : Int) := of_decide_eq_true (by first | (with_reducible assumption) | assumption)
                  have q132 : x3_2 < (l0_2.length : Int) := of_decide_eq_true (by first | (with_reducible assumption) | assumption)
                  obtain ⟨ad132, e132, hx132_0⟩ := Kd.at_string HR0_2.out x3_2 p132 q132
                  cases e132
                  replace hx132_0 := (HB.out.cell (World.block_lt_of_cell? w _ hx132_0)).trans hx132_0
                  replace p132 := eq_true p132
                  replace q132 := eq_true q132
                  go_wp2_with (first | ((with_reducible refine gate_callee (f := 11) rfl ?_); refine goesL_ (some 26) rfl rfl Tryd.func11 (by kernel_rfl) rfl #[.string (rdOf ByteArray.empty l0_2 x3_2)] rfl (by (try simp only [List.map_toArray, List.map_cons, List.map_nil]); first | done | rfl | (simp only [List.length_drop, List.length_take]; rfl)) ?_; (with_reducible refine (spec_NameValue.calls k2 (rdOf ByteArray.empty l0_2 x3_2) true _ A16.out).mono ?_); rintro e w19 ⟨rfl, hb⟩; refine ⟨_, rfl, ?_⟩; have n0_ := Aside0.mk (blk_below (g := gb129) (o := .cells #[.string a0_0, .string a0_1, .slice (some ad132) l0_2.length c0_2] 29 (0, 0)) (by (with_reducible repeat (first | refine blk_drewN ?_ _ | refine blk_drew ?_ | refine blk_alloc ?_ _)); exact BK129.out) hb); have n1_ := Aside0.mk (below_step (by repeat (first | (with_reducible first | exact HB.out | apply below_alloc | apply pw_below_drewN | apply below_drew1 | refine below_set ?_ GE129.out) | exact HB.out)) hb); clear BK129; clear HB; have BK129 := n0_; have HB := n1_; clear n0_ n1_; (try clear hb); (try clear hb2); (try clear hk); (try clear hi)))
                  go_roundg k2
                  case measure => have := HJ1.out; have := HK2.out; omega
                  case rel => exact ⟨(wrap64 (x3_2 + 1)), (by first | rfl | (simp; done) | (simp [*]; done)), H', ⟨by have := HJ1.out; have := HK2.out; omega⟩, ⟨by (with_reducible repeat (first | refine blk_drewN ?_ _ | refine blk_drew ?_ | refine blk_alloc ?_ _)); exact BK129.out⟩, ⟨by repeat (first | (with_reducible first | exact HB.out | apply below_alloc | apply pw_below_drewN | apply below_drew1 | refine below_set ?_ GE129.out) | exact HB.out)⟩⟩
                · replace c17 := Bool.eq_false_iff.mpr c17
                  subst c17
                  have H1 : (some false) = some r := by rw [if_neg (show ¬ (false = true) by decide)] at H; exact H
                  clear H
                  have H := H1
                  clear H1
                  obtain rfl := Option.some.inj H
                  have hcz20_0 : wr.cell? ⟨gb129, 0, none⟩ = some (.string a0_0) := (blk_cell BK129.out 0).trans rfl
                  have hcz20_1 : wr.cell? ⟨gb129, 1, none⟩ = some (.string a0_1) := (blk_cell BK129.out 1).trans rfl
                  have hcz20_2 : wr.cell? ⟨gb129, 2, none⟩ = some (.slice A0_2 l0_2.length c0_2) := (blk_cell BK129.out 2).trans rfl
                  have hfz20_0 := blk_frozen BK129.out 0
                  have hfz20_1 := blk_frozen BK129.out 1
                  have hfz20_2 := blk_frozen BK129.out 2
                  have p132 : 0 ≤ (x3_2 : Int) := of_decide_eq_true (by first | (with_reducible assumption) | assumption)
                  have q132 : x3_2 < (l0_2.length : Int) := of_decide_eq_true (by first | (with_reducible assumption) | assumption)
                  obtain ⟨ad132, e132, hx132_0⟩ := Kd.at_string HR0_2.out x3_2 p132 q132
                  cases e132
                  replace hx132_0 := (HB.out.cell (World.block_lt_of_cell? w _ hx132_0)).trans hx132_0
                  replace p132 := eq_true p132
                  replace q132 := eq_true q132
                  go_wp2_with (first | ((with_reducible refine gate_callee (f := 11) rfl ?_); refine goesL_ (some 26) rfl rfl Tryd.func11 (by kernel_rfl) rfl #[.string (rdOf ByteArray.empty l0_2 x3_2)] rfl (by (try simp only [List.map_toArray, List.map_cons, List.map_nil]); first | done | rfl | (simp only [List.length_drop, List.length_take]; rfl)) ?_; (with_reducible refine (spec_NameValue.calls k2 (rdOf ByteArray.empty l0_2 x3_2) false _ A16.out).mono ?_); rintro e w21 ⟨rfl, hb⟩; refine ⟨_, rfl, ?_⟩; have n0_ := Aside0.mk (blk_below (g := gb129) (o := .cells #[.string a0_0, .string a0_1, .slice (some ad132) l0_2.length c0_2] 29 (0, 0)) (by (with_reducible repeat (first | refine blk_drewN ?_ _ | refine blk_drew ?_ | refine blk_alloc ?_ _)); exact BK129.out) hb); have n1_ := Aside0.mk (below_step (by repeat (first | (with_reducible first | exact HB.out | apply below_alloc | apply pw_below_drewN | apply below_drew1 | refine below_set ?_ GE129.out) | exact HB.out)) hb); clear BK129; clear HB; have BK129 := n0_; have HB := n1_; clear n0_ n1_; (try clear hb); (try clear hb2); (try clear hk); (try clear hi)))
                  go_ret
                  exact ⟨by first | rfl | (simp [errW_none, errW_some] <;> rfl) | (simp [*, errW_none, errW_some] <;> rfl), by repeat (first | (with_reducible first | exact HB.out | apply below_alloc | apply pw_below_drewN | apply below_drew1 | refine below_set ?_ GE129.out) | exact HB.out)⟩
              · rw [if_neg c15] at H
                exact absurd H (by simp)
            · rw [if_neg c14] at H
              have c14b0 : decide (x3_2 < (l0_2.length : Int)) = false := decide_eq_false c14
              clear c14
              replace H := Option.bind_eq_some_iff.mp H
              obtain ⟨t134, A220, H⟩ := H
              replace H : (some t134) = some r := H
              have A22 := Aside0.mk A220
              clear A220
              obtain rfl := Option.some.inj H
              have hcz23_0 : wr.cell? ⟨gb129, 0, none⟩ = some (.string a0_0) := (blk_cell BK129.out 0).trans rfl
              have hcz23_1 : wr.cell? ⟨gb129, 1, none⟩ = some (.string a0_1) := (blk_cell BK129.out 1).trans rfl
              have hcz23_2 : wr.cell? ⟨gb129, 2, none⟩ = some (.slice A0_2 l0_2.length c0_2) := (blk_cell BK129.out 2).trans rfl
              have hfz23_0 := blk_frozen BK129.out 0
              have hfz23_1 := blk_frozen BK129.out 1
              have hfz23_2 := blk_frozen BK129.out 2
              go_wp2_with (first | ((with_reducible refine gate_callee (f := 12) rfl ?_); refine goesL_ (some 29) rfl rfl Tryd.func12 (by kernel_rfl) rfl #[.agg #[.string a0_0, .string a0_1, .slice A0_2 l0_2.length c0_2]] rfl (by (try simp only [List.map_toArray, List.map_cons, List.map_nil]); first | done | rfl | (simp only [List.length_drop, List.length_take]; rfl)) ?_; (with_reducible refine (spec_NeedCount.calls k2 a0_0 a0_1 _ _ l0_2 t134 _ ?side1 ?side2 A22.out).mono ?_); (case side1 => repeat (first | exact (Kd.C_below HR0_2.out HB.out) | (with_reducible refine Kd.C_alloc ?_ _) | (with_reducible refine Kd.C_drewN ?_ _) | (with_reducible refine Kd.C_drew ?_))); (case side2 => exact HC0_2.out); rintro e w24 ⟨rfl, hb⟩; refine ⟨_, rfl, ?_⟩; have n0_ := Aside0.mk (blk_below (g := gb129) (o := .cells #[.string a0_0, .string a0_1, .slice A0_2 l0_2.length c0_2] 29 (0, 0)) (by (with_reducible repeat (first | refine blk_drewN ?_ _ | refine blk_drew ?_ | refine blk_alloc ?_ _)); exact BK129.out) hb); have n1_ := Aside0.mk (below_step (by repeat (first | (with_reducible first | exact HB.out | apply below_alloc | apply pw_below_drewN | apply below_drew1 | refine below_set ?_ GE129.out) | exact HB.out)) hb); clear BK129; clear HB; have BK129 := n0_; have HB := n1_; clear n0_ n1_; (try clear hb); (try clear hb2); (try clear hk); (try clear hi)))
              go_ret
              exact ⟨by first | rfl | (simp [errW_none, errW_some] <;> rfl) | (simp [*, errW_none, errW_some] <;> rfl), by repeat (first | (with_reducible first | exact HB.out | apply below_alloc | apply pw_below_drewN | apply below_drew1 | refine below_set ?_ GE129.out) | exact HB.out)⟩

-- NOT PRINTED: function 41 (strconv_lower)

-- NOT PRINTED: function 42 (strconv_underscoreOK)

-- NOT PRINTED: function 36 (strconv_ParseUint)

-- NOT PRINTED: function 33 (strconv_ParseInt_33)

-- NOT PRINTED: function 43 (stringslite_Clone)

-- NOT PRINTED: function 37 (strconv_syntaxError)

-- NOT PRINTED: function 38 (strconv_rangeError)

-- NOT PRINTED: function 32 (errors_New)

-- NOT PRINTED: function 47 (strconv_small)

-- NOT PRINTED: function 51 (strconv_log10Pow2)

-- NOT PRINTED: function 52 (bits_Len64)

-- NOT PRINTED: function 53 (strconv_bool2_int)

-- NOT PRINTED: function 48 (strconv_numDigits)

-- NOT PRINTED: function 49 (strconv_formatBase10)

-- NOT PRINTED: function 54 (strconv_isPowerOfTwo)

-- NOT PRINTED: function 56 (bits_TrailingZeros32)

-- NOT PRINTED: function 57 (bits_TrailingZeros64)

-- NOT PRINTED: function 55 (bits_TrailingZeros)

-- NOT PRINTED: function 50 (strconv_formatBits)

-- NOT PRINTED: function 46 (strconv_FormatInt)

-- NOT PRINTED: function 45 (strconv_Itoa_45)

-- NOT PRINTED: function 44 (strconv_Itoa_44)

-- NOT PRINTED: function 39 (strconv_baseError)

-- NOT PRINTED: function 40 (strconv_bitSizeError)

-- NOT PRINTED: function 34 (strconv_toError)

-- NOT PRINTED: function 26 (strconv_ParseInt_26)

-- NOT PRINTED: function 23 (labels_NewRequirement)

/-! ### impl_texts: function 24 -/
def impl_texts.f (l0 : List ByteArray) : Option (List ByteArray) := (some (([] : List ByteArray) : List ByteArray)).bind fun y135 => (if y135.length + l0.length < 8796093022208 then (some (y135 ++ l0)) else (none))
set_option maxHeartbeats 8000000 in
set_option maxRecDepth 100000 in
theorem impl_texts.calls (A0 : Option Addr) (c0 : Nat) (l0 : List ByteArray) (r : List ByteArray) (w : World) (hr0 : Kd.C Kd.string w A0 l0.length l0) (hc0 : l0.length ≤ c0) (h : impl_texts.f l0 = some r) :
    Calls Tryd.prog 24 #[.slice A0 l0.length c0] w fun e w' => ∃ v0_ : Value, e = .returned (v0_) ∧ Kd.R Kd.string 9 w' w.heap.size (fun _ => True) v0_ r ∧ Below w.heap.size w w' := by
  have HR0 := Aside0.mk hr0
  have HC0 := Aside0.mk hc0
  clear hr0 hc0
  have HB := Aside0.mk (Below.refl w.heap.size w)
  have H : ((some (([] : List ByteArray) : List ByteArray)).bind fun y135 => (if y135.length + l0.length < 8796093022208 then (some (y135 ++ l0)) else (none))) = some r := h
  clear h
  obtain ⟨y135, hy135⟩ : ∃ y_ : List ByteArray, y_ = (([] : List ByteArray)) := ⟨_, rfl⟩
  replace H : (if y135.length + l0.length < 8796093022208 then (some (y135 ++ l0)) else (none)) = some r := by first | (rw [hy135]; with_reducible exact H) | (have H2_ := (Option.bind_some _ _).symm.trans H; rw [hy135]; with_reducible exact H2_) | (have H2_ := (Option.bind_some _ _).symm.trans H; with_reducible exact H2_) | with_reducible exact H | (rw [hy135]; exact H) | exact H
  have Ny135 := Aside0.mk hy135
  clear hy135
  by_cases c2 : y135.length + l0.length < 8796093022208
  · rw [if_pos c2] at H
    have LMc2 := Aside0.mk c2
    clear c2
    obtain ⟨y138, hy138⟩ : ∃ y_ : List ByteArray, y_ = (y135 ++ l0) := ⟨_, rfl⟩
    replace H : (some y138) = some r := by first | (rw [hy138]; with_reducible exact H) | (have H2_ := (Option.bind_some _ _).symm.trans H; rw [hy138]; with_reducible exact H2_) | (have H2_ := (Option.bind_some _ _).symm.trans H; with_reducible exact H2_) | with_reducible exact H | (rw [hy138]; exact H) | exact H
    have Ny138 := Aside0.mk hy138
    clear hy138
    obtain rfl := Option.some.inj H
    go_enter Tryd.func24, Tryd.ntmps24
    go_wp2_with (first | ((with_reducible refine gate_dst (N := 3) rfl ?_); refine Kd.R_lit Kd.string _ 9 ?hg (N := 3) ?hd (xs := ([] : List ByteArray)) (inner := []) (ok := fun _ => True) (okp := fun _ => True) ?hr ?hp (fun _ hk => hk) trivial (Below.refl _ _) (Nat.le_refl _) (by simp) ?_; (case hd => rfl); (case hg => rfl); (case hr => first | (go_simp; done) | (go_simp; rfl)); (case hp => exact (Reps.none _ _)); intro v136 w3 ho4 hb hg_ hnew_; clear hg_ hnew_; (first | rw [← Ny135.out] at ho4 | (simp only [Int.reduceToNat] at ho4; rw [← Ny135.out] at ho4)); have n0_ := Aside0.mk (Kd.R_lower ho4 (below_size (by repeat (first | (with_reducible first | exact HB.out | apply below_alloc | apply pw_below_drewN | apply below_drew1) | exact HB.out)))); have n1_ := Aside0.mk (below_step (by repeat (first | (with_reducible first | exact HB.out | apply below_alloc | apply pw_below_drewN | apply below_drew1) | exact HB.out)) hb); clear HB; have HO137 := n0_; have HB := n1_; clear n0_ n1_; clear hb ho4) | ((with_reducible refine gate_builtin (b := .append) (xs := #[.tmp 3, .tmp 4]) rfl ?_); at_builtin; refine Kd.R_append_rows Kd.string (w0 := w) w.heap.size rfl (.tmp 3) (.tmp 4) 22 9 (.string ⟨#[]⟩) 16 rfl Tryd.underlying22 info9 rfl (by decide) (by omega) v136 y135 l0 _ _ _ (fun _ => True) (fun _ => False) rfl rfl ?aO ?aR (fun _ _ h => h) (fun _ h => h.elim) ?aF ?aB ?aS ?aL ?_; (case aR => repeat (first | exact (Kd.C_below HR0.out HB.out) | (with_reducible refine Kd.C_alloc ?_ _) | (with_reducible refine Kd.C_drewN ?_ _) | (with_reducible refine Kd.C_drew ?_))); (case aB => exact (by repeat (first | (with_reducible first | exact HB.out | apply below_alloc | apply pw_below_drewN | apply below_drew1) | exact HB.out))); (case aF => exact (fun _ _ => trivial)); (case aO => exact (by (with_reducible repeat (first | apply Kd.R_alloc | apply Kd.R_drewN | apply Kd.R_drew)); exact HO137.out)); (case aS => exact (below_size (by repeat (first | (with_reducible first | exact HB.out | apply below_alloc | apply pw_below_drewN | apply below_drew1) | exact HB.out)))); (case aL => have := LMc2.out; omega); intro v139 w5 ho hb hg hat; rw [← Ny138.out] at ho; have n0_ := Aside0.mk (hb); have n1_ := Aside0.mk (ho); clear HB; clear HO137; have HB := n0_; have HO140 := n1_; clear n0_ n1_; clear ho hb hg hat))
    go_ret
    exact ⟨_, by first | rfl | (simp [errW_none, errW_some] <;> rfl) | (simp [*, errW_none, errW_some] <;> rfl), by (with_reducible repeat (first | apply Kd.R_alloc | apply Kd.R_drewN | apply Kd.R_drew)); exact HO140.out, by repeat (first | (with_reducible first | exact HB.out | apply below_alloc | apply pw_below_drewN | apply below_drew1) | exact HB.out)⟩
  · rw [if_neg c2] at H
    exact absurd H (by simp)

-- NOT PRINTED: function 13 (impl_made)

-- NOT PRINTED: function 25 (labels_Requirement_hasValue)

-- NOT PRINTED: function 14 (labels_Requirement_Matches)

-- NOT PRINTED: function 15 (impl_labelSet)

-- NOT PRINTED: function 7 (impl_NeedMatch)

-- NOT PRINTED: function 3 (laws_FnNeedNot)

end Go.Proofs.YtjlmhfciidfjiaaDoor.XFnNeedNot
