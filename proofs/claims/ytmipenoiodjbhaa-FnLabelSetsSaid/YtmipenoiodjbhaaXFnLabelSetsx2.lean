/- A text of this session: the functions of the law FnLabelSets, by a program that calls the kit's print and lays this session's own contracts of single functions beside. -/
import Derived.Test.YtmipenoiodjbhaaXFnLabelSetsx0
namespace Go.Proofs.Ytmipenoiodjbhaa.XFnLabelSets
open Go.RowKit Go.Proofs.YtmipenoiodjbhaaW.PrintWords Go.Proofs.YtmipenoiodjbhaaW.PrintLast Go.Proofs.YtmipenoiodjbhaaW.PrintMore
attribute [local go_sem] max2_int min2_int max_two min_two max_three min_three max_four min_four   -- for this text's walks alone
set_option linter.unusedVariables false
set_option linter.unusedSimpArgs false

/-! ### laws_zzFits3: function 43 -/
def laws_zzFits3.f (a0_0 : ByteArray) (a0_1 : ByteArray) : Option (Bool) := if (a0_0.size : Int) > 2147483647 then (some false) else (if (a0_1.size : Int) > 2147483647 then (some false) else (some true))
set_option maxHeartbeats 8000000 in
set_option maxRecDepth 100000 in
theorem laws_zzFits3.calls (a0_0 : ByteArray) (a0_1 : ByteArray) (r : Bool) (w : World) (h : laws_zzFits3.f a0_0 a0_1 = some r) :
    Calls Try.prog 43 #[.agg #[.string a0_0, .string a0_1]] w fun e w' => e = .returned (.bool r) ∧ Below w.heap.size w w' := by
  have hu44 := Try.underlying44
  have HB := Aside0.mk (Below.refl w.heap.size w)
  have H : (if (a0_0.size : Int) > 2147483647 then (some false) else (if (a0_1.size : Int) > 2147483647 then (some false) else (some true))) = some r := h
  clear h
  by_cases c2 : (a0_0.size : Int) > 2147483647
  · rw [if_pos c2] at H
    have c2b0 : decide (2147483647 < (a0_0.size : Int)) = true := decide_eq_true c2
    have c2b1 : decide (2147483647 < a0_0.size) = true := decide_eq_true (by omega)
    clear c2
    obtain rfl := Option.some.inj H
    go_enter Try.func43, Try.ntmps43
    go_wp2_with (first | ((with_reducible refine gate_dst (N := 1) rfl ?_); refine box_event ?hg (N := 1) ?hd (cs := #[.string a0_0, .string a0_1]) (t := 44) ?hr ?_; (case hd => rfl); (case hg => rfl); (case hr => first | (go_simp; done) | (go_simp; rfl)); intro gb101 hg w3 hbox hb; have n0_ := Aside0.mk (below_step (by repeat (first | (with_reducible first | exact HB.out | apply below_alloc | apply pw_below_drewN | apply below_drew1) | exact HB.out)) hb); have n1_ := Aside0.mk (hbox); have n2_ := Aside0.mk ((by rw [hg]; exact (below_size (by repeat (first | (with_reducible first | exact HB.out | apply below_alloc | apply pw_below_drewN | apply below_drew1) | exact HB.out))) : w.heap.size ≤ gb101)); have n3_ := Aside0.mk ((by rw [hg]; exact (below_size (by repeat (first | (with_reducible first | exact HB.out | apply below_alloc | apply pw_below_drewN | apply below_drew1) | exact HB.out))) : w.heap.size ≤ gb101)); clear HB; have HB := n0_; have BK101 := n1_; have GW101 := n2_; have GE101 := n3_; clear n0_ n1_ n2_ n3_; clear hb hbox hg; have hcz4_0 : w3.cell? ⟨gb101, 0, none⟩ = some (.string a0_0) := (blk_cell BK101.out 0).trans rfl; have hcz4_1 : w3.cell? ⟨gb101, 1, none⟩ = some (.string a0_1) := (blk_cell BK101.out 1).trans rfl; have hfz4_0 := blk_frozen BK101.out 0; have hfz4_1 := blk_frozen BK101.out 1))
    go_ret
    exact ⟨by first | rfl | (simp [errW_none, errW_some] <;> rfl) | (simp [*, errW_none, errW_some] <;> rfl), by repeat (first | (with_reducible first | exact HB.out | apply below_alloc | apply pw_below_drewN | apply below_drew1 | refine below_set ?_ GE101.out) | exact HB.out)⟩
  · rw [if_neg c2] at H
    have c2b0 : decide (2147483647 < (a0_0.size : Int)) = false := decide_eq_false c2
    have c2b1 : decide (2147483647 < a0_0.size) = false := decide_eq_false (by omega)
    clear c2
    by_cases c5 : (a0_1.size : Int) > 2147483647
    · rw [if_pos c5] at H
      have c5b0 : decide (2147483647 < (a0_1.size : Int)) = true := decide_eq_true c5
      have c5b1 : decide (2147483647 < a0_1.size) = true := decide_eq_true (by omega)
      clear c5
      obtain rfl := Option.some.inj H
      go_enter Try.func43, Try.ntmps43
      go_wp2_with (first | ((with_reducible refine gate_dst (N := 1) rfl ?_); refine box_event ?hg (N := 1) ?hd (cs := #[.string a0_0, .string a0_1]) (t := 44) ?hr ?_; (case hd => rfl); (case hg => rfl); (case hr => first | (go_simp; done) | (go_simp; rfl)); intro gb101 hg w6 hbox hb; have n0_ := Aside0.mk (below_step (by repeat (first | (with_reducible first | exact HB.out | apply below_alloc | apply pw_below_drewN | apply below_drew1) | exact HB.out)) hb); have n1_ := Aside0.mk (hbox); have n2_ := Aside0.mk ((by rw [hg]; exact (below_size (by repeat (first | (with_reducible first | exact HB.out | apply below_alloc | apply pw_below_drewN | apply below_drew1) | exact HB.out))) : w.heap.size ≤ gb101)); have n3_ := Aside0.mk ((by rw [hg]; exact (below_size (by repeat (first | (with_reducible first | exact HB.out | apply below_alloc | apply pw_below_drewN | apply below_drew1) | exact HB.out))) : w.heap.size ≤ gb101)); clear HB; have HB := n0_; have BK101 := n1_; have GW101 := n2_; have GE101 := n3_; clear n0_ n1_ n2_ n3_; clear hb hbox hg; have hcz7_0 : w6.cell? ⟨gb101, 0, none⟩ = some (.string a0_0) := (blk_cell BK101.out 0).trans rfl; have hcz7_1 : w6.cell? ⟨gb101, 1, none⟩ = some (.string a0_1) := (blk_cell BK101.out 1).trans rfl; have hfz7_0 := blk_frozen BK101.out 0; have hfz7_1 := blk_frozen BK101.out 1))
      go_ret
      exact ⟨by first | rfl | (simp [errW_none, errW_some] <;> rfl) | (simp [*, errW_none, errW_some] <;> rfl), by repeat (first | (with_reducible first | exact HB.out | apply below_alloc | apply pw_below_drewN | apply below_drew1 | refine below_set ?_ GE101.out) | exact HB.out)⟩
    · rw [if_neg c5] at H
      have c5b0 : decide (2147483647 < (a0_1.size : Int)) = false := decide_eq_false c5
      have c5b1 : decide (2147483647 < a0_1.size) = false := decide_eq_false (by omega)
      clear c5
      obtain rfl := Option.some.inj H
      go_enter Try.func43, Try.ntmps43
      go_wp2_with (first | ((with_reducible refine gate_dst (N := 1) rfl ?_); refine box_event ?hg (N := 1) ?hd (cs := #[.string a0_0, .string a0_1]) (t := 44) ?hr ?_; (case hd => rfl); (case hg => rfl); (case hr => first | (go_simp; done) | (go_simp; rfl)); intro gb101 hg w8 hbox hb; have n0_ := Aside0.mk (below_step (by repeat (first | (with_reducible first | exact HB.out | apply below_alloc | apply pw_below_drewN | apply below_drew1) | exact HB.out)) hb); have n1_ := Aside0.mk (hbox); have n2_ := Aside0.mk ((by rw [hg]; exact (below_size (by repeat (first | (with_reducible first | exact HB.out | apply below_alloc | apply pw_below_drewN | apply below_drew1) | exact HB.out))) : w.heap.size ≤ gb101)); have n3_ := Aside0.mk ((by rw [hg]; exact (below_size (by repeat (first | (with_reducible first | exact HB.out | apply below_alloc | apply pw_below_drewN | apply below_drew1) | exact HB.out))) : w.heap.size ≤ gb101)); clear HB; have HB := n0_; have BK101 := n1_; have GW101 := n2_; have GE101 := n3_; clear n0_ n1_ n2_ n3_; clear hb hbox hg; have hcz9_0 : w8.cell? ⟨gb101, 0, none⟩ = some (.string a0_0) := (blk_cell BK101.out 0).trans rfl; have hcz9_1 : w8.cell? ⟨gb101, 1, none⟩ = some (.string a0_1) := (blk_cell BK101.out 1).trans rfl; have hfz9_0 := blk_frozen BK101.out 0; have hfz9_1 := blk_frozen BK101.out 1))
      go_ret
      exact ⟨by first | rfl | (simp [errW_none, errW_some] <;> rfl) | (simp [*, errW_none, errW_some] <;> rfl), by repeat (first | (with_reducible first | exact HB.out | apply below_alloc | apply pw_below_drewN | apply below_drew1 | refine below_set ?_ GE101.out) | exact HB.out)⟩

/-! ### laws_zzFits2: function 20 -/
def laws_zzFits2.l0 : Nat → List (S44) → Int → Int → Option (Bool)
  | 0, _, _, _ => none
  | k + 1, x8, x9, x10 => if x10 < x9 then (if 0 ≤ x10 then (if x10 < (x8.length : Int) then ((laws_zzFits3.f ((rd_T44 x8 x10).f0) ((rd_T44 x8 x10).f1)).bind fun t104 => (if t104 = true then (laws_zzFits2.l0 k x8 x9 (wrap64 (x10 + 1))) else (some false))) else (none)) else (none)) else (some true)
def laws_zzFits2.f (k : Nat) (l0 : List (S44)) : Option (Bool) := if (l0.length : Int) > 2147483647 then (some false) else (laws_zzFits2.l0 k l0 (l0.length : Int) 0)
theorem laws_zzFits2.mono_l : ∀ k, (∀ y0 y1 y2, LeO (laws_zzFits2.l0 k y0 y1 y2) (laws_zzFits2.l0 (k + 1) y0 y1 y2))
  | 0 => fun _ _ _ r h => by simp [laws_zzFits2.l0] at h
  | k + 1 => by
    have ih0 := laws_zzFits2.mono_l k
    · intro y0 y1 y2
      unfold laws_zzFits2.l0
      repeat' first
      | (with_reducible exact ih0 _ _ _)
      | (with_reducible exact LeO.refl _)
      | (with_reducible exact LeO.none _)
      | (with_reducible refine LeO.ite ?_ ?_)
      | (with_reducible refine LeO.bind ?_ (fun _ => ?_))
      | exact ih0 _ _ _
      | exact LeO.none _
      | refine LeO.ite ?_ ?_
      | refine LeO.bind ?_ (fun _ => ?_)
theorem laws_zzFits2.mono : ∀ a0 k, LeO (laws_zzFits2.f k a0) (laws_zzFits2.f (k + 1) a0) := by
  intro a0 k
  have ih0 := laws_zzFits2.mono_l k
  unfold laws_zzFits2.f
  repeat' first
      | (with_reducible exact ih0 _ _ _)
      | (with_reducible exact LeO.refl _)
      | (with_reducible exact LeO.none _)
      | (with_reducible refine LeO.ite ?_ ?_)
      | (with_reducible refine LeO.bind ?_ (fun _ => ?_))
      | exact ih0 _ _ _
      | exact LeO.none _
      | refine LeO.ite ?_ ?_
      | refine LeO.bind ?_ (fun _ => ?_)
set_option maxHeartbeats 8000000 in
set_option maxRecDepth 100000 in
theorem laws_zzFits2.calls (k : Nat) (A0 : Option Addr) (c0 : Nat) (l0 : List (S44)) (r : Bool) (w : World) (hr0 : Kd.C k44 w A0 l0.length l0) (hc0 : l0.length ≤ c0) (h : laws_zzFits2.f k l0 = some r) :
    Calls Try.prog 20 #[.slice A0 l0.length c0] w fun e w' => e = .returned (.bool r) ∧ Below w.heap.size w w' := by
  have hu44 := Try.underlying44
  have HR0 := Aside0.mk hr0
  have HC0 := Aside0.mk hc0
  clear hr0 hc0
  have HB := Aside0.mk (Below.refl w.heap.size w)
  have H : (if (l0.length : Int) > 2147483647 then (some false) else (laws_zzFits2.l0 k l0 (l0.length : Int) 0)) = some r := h
  clear h
  by_cases c2 : (l0.length : Int) > 2147483647
  · rw [if_pos c2] at H
    have c2b0 : decide (2147483647 < (l0.length : Int)) = true := decide_eq_true c2
    have c2b1 : decide (2147483647 < l0.length) = true := decide_eq_true (by omega)
    clear c2
    obtain rfl := Option.some.inj H
    go_enter Try.func20, Try.ntmps20
    go_wp2
    go_ret
    exact ⟨by first | rfl | (simp [errW_none, errW_some] <;> rfl) | (simp [*, errW_none, errW_some] <;> rfl), by repeat (first | (with_reducible first | exact HB.out | apply below_alloc | apply pw_below_drewN | apply below_drew1) | exact HB.out)⟩
  · rw [if_neg c2] at H
    have c2b0 : decide (2147483647 < (l0.length : Int)) = false := decide_eq_false c2
    have c2b1 : decide (2147483647 < l0.length) = false := decide_eq_false (by omega)
    clear c2
    have H' := Aside0.mk H
    clear H
    go_enter Try.func20, Try.ntmps20
    go_wp2
    go_loopg [10] k (fun kq v10 w' => ∃ (x10_1 : Int), v10 = .int .i64 x10_1 ∧ Aside0 (laws_zzFits2.l0 kq l0 (l0.length : Int) x10_1 = some r) ∧ Aside0 (kq ≤ k) ∧ Aside0 (Below w.heap.size w w'))
    case atStart => exact ⟨(0), (by first | rfl | (simp; done) | (simp [*]; done)), H', ⟨Nat.le_refl _⟩, ⟨by repeat (first | (with_reducible first | exact HB.out | apply below_alloc | apply pw_below_drewN | apply below_drew1) | exact HB.out)⟩⟩
    case round =>
      clear H'
      try clear c2
      try clear c2b0
      try clear c2b1
      try clear p2
      obtain ⟨x10_1, rfl, HA, HK1, HB⟩ := hrel
      cases gk with
      | zero => exact absurd HA.out (by simp [laws_zzFits2.l0])
      | succ k1 =>
        have H := HA.out
        clear HA
        simp only [laws_zzFits2.l0] at H
        by_cases c3 : x10_1 < (l0.length : Int)
        · rw [if_pos c3] at H
          have c3b0 : decide (x10_1 < (l0.length : Int)) = true := decide_eq_true c3
          clear c3
          by_cases c4 : 0 ≤ x10_1
          · rw [if_pos c4] at H
            have c4b0 : decide (0 ≤ x10_1) = true := decide_eq_true c4
            clear c4
            by_cases c5 : x10_1 < (l0.length : Int)
            · rw [if_pos c5] at H
              have c5b0 : decide (x10_1 < (l0.length : Int)) = true := decide_eq_true c5
              clear c5
              replace H := Option.bind_eq_some_iff.mp H
              obtain ⟨t104, A60, H⟩ := H
              replace H : (if t104 = true then (laws_zzFits2.l0 k1 l0 (l0.length : Int) (wrap64 (x10_1 + 1))) else (some false)) = some r := H
              have A6 := Aside0.mk A60
              clear A60
              by_cases c7 : t104 = true
              · subst c7
                have H1 : (laws_zzFits2.l0 k1 l0 (l0.length : Int) (wrap64 (x10_1 + 1))) = some r := by rw [if_pos rfl] at H; exact H
                clear H
                have H := H1
                clear H1
                have H' := Aside0.mk H
                clear H
                have p102 : 0 ≤ (x10_1 : Int) := of_decide_eq_true (by first | (with_reducible assumption) | assumption)
                have q102 : x10_1 < (l0.length : Int) := of_decide_eq_true (by first | (with_reducible assumption) | assumption)
                obtain ⟨ad102, e102, hx102_0, hx102_1⟩ := at_T44 HR0.out x10_1 p102 q102
                cases e102
                replace hx102_0 := (HB.out.cell (World.block_lt_of_cell? w _ hx102_0)).trans hx102_0
                replace hx102_1 := (HB.out.cell (World.block_lt_of_cell? w _ hx102_1)).trans hx102_1
                replace p102 := eq_true p102
                replace q102 := eq_true q102
                go_wp2_with (first | ((with_reducible refine gate_dst (N := 4) rfl ?_); refine box_event ?hg (N := 4) ?hd (cs := #[.string (⟨#[]⟩ : ByteArray), .string (⟨#[]⟩ : ByteArray)]) (t := 44) ?hr ?_; (case hd => rfl); (case hg => rfl); (case hr => first | (go_simp; done) | (go_simp; rfl)); intro gb103 hg w8 hbox hb; have n0_ := Aside0.mk (below_step (by repeat (first | (with_reducible first | exact HB.out | apply below_alloc | apply pw_below_drewN | apply below_drew1) | exact HB.out)) hb); have n1_ := Aside0.mk (hbox); have n2_ := Aside0.mk ((by rw [hg]; exact (below_size (by repeat (first | (with_reducible first | exact HB.out | apply below_alloc | apply pw_below_drewN | apply below_drew1) | exact HB.out))) : w.heap.size ≤ gb103)); have n3_ := Aside0.mk ((by rw [hg]; exact (below_size (by repeat (first | (with_reducible first | exact HB.out | apply below_alloc | apply pw_below_drewN | apply below_drew1) | exact HB.out))) : w.heap.size ≤ gb103)); clear HB; have HB := n0_; have BK103 := n1_; have GW103 := n2_; have GE103 := n3_; clear n0_ n1_ n2_ n3_; clear hb hbox hg; have hcz9_0 : w8.cell? ⟨gb103, 0, none⟩ = some (.string (⟨#[]⟩ : ByteArray)) := (blk_cell BK103.out 0).trans rfl; have hcz9_1 : w8.cell? ⟨gb103, 1, none⟩ = some (.string (⟨#[]⟩ : ByteArray)) := (blk_cell BK103.out 1).trans rfl; have hfz9_0 := blk_frozen BK103.out 0; have hfz9_1 := blk_frozen BK103.out 1) | ((with_reducible refine gate_callee (f := 43) rfl ?_); refine goesL_ (some 15) rfl rfl Try.func43 (by kernel_rfl) rfl #[.agg #[.string ((rd_T44 l0 x10_1).f0), .string ((rd_T44 l0 x10_1).f1)]] rfl (by (try simp only [List.map_toArray, List.map_cons, List.map_nil]); first | done | rfl | (simp only [List.length_drop, List.length_take]; rfl)) ?_; (with_reducible refine (laws_zzFits3.calls ((rd_T44 l0 x10_1).f0) ((rd_T44 l0 x10_1).f1) true _ A6.out).mono ?_); rintro e w10 ⟨rfl, hb⟩; refine ⟨_, rfl, ?_⟩; have n0_ := Aside0.mk (blk_below (g := gb103) (o := .cells #[.string ((rd_T44 l0 x10_1).f0), .string ((rd_T44 l0 x10_1).f1)] 44 (0, 0)) (by (with_reducible repeat (first | refine blk_drewN ?_ _ | refine blk_drew ?_ | refine blk_alloc ?_ _)); refine blk_put (cs := #[.string ((rd_T44 l0 x10_1).f0), .string (⟨#[]⟩ : ByteArray)]) ?_ 1 _ rfl; (with_reducible repeat (first | refine blk_drewN ?_ _ | refine blk_drew ?_ | refine blk_alloc ?_ _)); refine blk_put (cs := #[.string (⟨#[]⟩ : ByteArray), .string (⟨#[]⟩ : ByteArray)]) ?_ 0 _ rfl; (with_reducible repeat (first | refine blk_drewN ?_ _ | refine blk_drew ?_ | refine blk_alloc ?_ _)); exact BK103.out) hb); have n1_ := Aside0.mk (below_step (by repeat (first | (with_reducible first | exact HB.out | apply below_alloc | apply pw_below_drewN | apply below_drew1 | refine below_set ?_ GE103.out) | exact HB.out)) hb); clear BK103; clear HB; have BK103 := n0_; have HB := n1_; clear n0_ n1_; (try clear hb); (try clear hb2); (try clear hk); (try clear hi)))
                go_roundg k1
                case measure => have := HK1.out; omega
                case rel => exact ⟨(wrap64 (x10_1 + 1)), (by first | rfl | (simp; done) | (simp [*]; done)), H', ⟨by have := HK1.out; omega⟩, ⟨by repeat (first | (with_reducible first | exact HB.out | apply below_alloc | apply pw_below_drewN | apply below_drew1 | refine below_set ?_ GE103.out) | exact HB.out)⟩⟩
              · replace c7 := Bool.eq_false_iff.mpr c7
                subst c7
                have H1 : (some false) = some r := by rw [if_neg (show ¬ (false = true) by decide)] at H; exact H
                clear H
                have H := H1
                clear H1
                obtain rfl := Option.some.inj H
                have p102 : 0 ≤ (x10_1 : Int) := of_decide_eq_true (by first | (with_reducible assumption) | assumption)
                have q102 : x10_1 < (l0.length : Int) := of_decide_eq_true (by first | (with_reducible assumption) | assumption)
                obtain ⟨ad102, e102, hx102_0, hx102_1⟩ := at_T44 HR0.out x10_1 p102 q102
                cases e102
                replace hx102_0 := (HB.out.cell (World.block_lt_of_cell? w _ hx102_0)).trans hx102_0
                replace hx102_1 := (HB.out.cell (World.block_lt_of_cell? w _ hx102_1)).trans hx102_1
                replace p102 := eq_true p102
                replace q102 := eq_true q102
                go_wp2_with (first | ((with_reducible refine gate_dst (N := 4) rfl ?_); refine box_event ?hg (N := 4) ?hd (cs := #[.string (⟨#[]⟩ : ByteArray), .string (⟨#[]⟩ : ByteArray)]) (t := 44) ?hr ?_; (case hd => rfl); (case hg => rfl); (case hr => first | (go_simp; done) | (go_simp; rfl)); intro gb103 hg w11 hbox hb; have n0_ := Aside0.mk (below_step (by repeat (first | (with_reducible first | exact HB.out | apply below_alloc | apply pw_below_drewN | apply below_drew1) | exact HB.out)) hb); have n1_ := Aside0.mk (hbox); have n2_ := Aside0.mk ((by rw [hg]; exact (below_size (by repeat (first | (with_reducible first | exact HB.out | apply below_alloc | apply pw_below_drewN | apply below_drew1) | exact HB.out))) : w.heap.size ≤ gb103)); have n3_ := Aside0.mk ((by rw [hg]; exact (below_size (by repeat (first | (with_reducible first | exact HB.out | apply below_alloc | apply pw_below_drewN | apply below_drew1) | exact HB.out))) : w.heap.size ≤ gb103)); clear HB; have HB := n0_; have BK103 := n1_; have GW103 := n2_; have GE103 := n3_; clear n0_ n1_ n2_ n3_; clear hb hbox hg; have hcz12_0 : w11.cell? ⟨gb103, 0, none⟩ = some (.string (⟨#[]⟩ : ByteArray)) := (blk_cell BK103.out 0).trans rfl; have hcz12_1 : w11.cell? ⟨gb103, 1, none⟩ = some (.string (⟨#[]⟩ : ByteArray)) := (blk_cell BK103.out 1).trans rfl; have hfz12_0 := blk_frozen BK103.out 0; have hfz12_1 := blk_frozen BK103.out 1) | ((with_reducible refine gate_callee (f := 43) rfl ?_); refine goesL_ (some 15) rfl rfl Try.func43 (by kernel_rfl) rfl #[.agg #[.string ((rd_T44 l0 x10_1).f0), .string ((rd_T44 l0 x10_1).f1)]] rfl (by (try simp only [List.map_toArray, List.map_cons, List.map_nil]); first | done | rfl | (simp only [List.length_drop, List.length_take]; rfl)) ?_; (with_reducible refine (laws_zzFits3.calls ((rd_T44 l0 x10_1).f0) ((rd_T44 l0 x10_1).f1) false _ A6.out).mono ?_); rintro e w13 ⟨rfl, hb⟩; refine ⟨_, rfl, ?_⟩; have n0_ := Aside0.mk (blk_below (g := gb103) (o := .cells #[.string ((rd_T44 l0 x10_1).f0), .string ((rd_T44 l0 x10_1).f1)] 44 (0, 0)) (by (with_reducible repeat (first | refine blk_drewN ?_ _ | refine blk_drew ?_ | refine blk_alloc ?_ _)); refine blk_put (cs := #[.string ((rd_T44 l0 x10_1).f0), .string (⟨#[]⟩ : ByteArray)]) ?_ 1 _ rfl; (with_reducible repeat (first | refine blk_drewN ?_ _ | refine blk_drew ?_ | refine blk_alloc ?_ _)); refine blk_put (cs := #[.string (⟨#[]⟩ : ByteArray), .string (⟨#[]⟩ : ByteArray)]) ?_ 0 _ rfl; (with_reducible repeat (first | refine blk_drewN ?_ _ | refine blk_drew ?_ | refine blk_alloc ?_ _)); exact BK103.out) hb); have n1_ := Aside0.mk (below_step (by repeat (first | (with_reducible first | exact HB.out | apply below_alloc | apply pw_below_drewN | apply below_drew1 | refine below_set ?_ GE103.out) | exact HB.out)) hb); clear BK103; clear HB; have BK103 := n0_; have HB := n1_; clear n0_ n1_; (try clear hb); (try clear hb2); (try clear hk); (try clear hi)))
                go_ret
                exact ⟨by first | rfl | (simp [errW_none, errW_some] <;> rfl) | (simp [*, errW_none, errW_some] <;> rfl), by repeat (first | (with_reducible first | exact HB.out | apply below_alloc | apply pw_below_drewN | apply below_drew1 | refine below_set ?_ GE103.out) | exact HB.out)⟩
            · rw [if_neg c5] at H
              exact absurd H (by simp)
          · rw [if_neg c4] at H
            exact absurd H (by simp)
        · rw [if_neg c3] at H
          have c3b0 : decide (x10_1 < (l0.length : Int)) = false := decide_eq_false c3
          clear c3
          obtain rfl := Option.some.inj H
          go_wp2
          go_ret
          exact ⟨by first | rfl | (simp [errW_none, errW_some] <;> rfl) | (simp [*, errW_none, errW_some] <;> rfl), by repeat (first | (with_reducible first | exact HB.out | apply below_alloc | apply pw_below_drewN | apply below_drew1) | exact HB.out)⟩

/-! ### spec_keyIn_string: function 42 -/
def spec_keyIn_string.l0 : Nat → List ByteArray → ByteArray → Int → Option (Bool)
  | 0, _, _, _ => none
  | k + 1, x0, x1, x5 => if x5 < (x0.length : Int) then (if 0 ≤ x5 then (if (rdOf ByteArray.empty x0 x5).toList = x1.toList then (some true) else (spec_keyIn_string.l0 k x0 x1 (wrap64 (x5 + 1)))) else (none)) else (some false)
def spec_keyIn_string.f (k : Nat) (l0 : List ByteArray) (a1 : ByteArray) : Option (Bool) := spec_keyIn_string.l0 k l0 a1 0
theorem spec_keyIn_string.mono_l : ∀ k, (∀ y0 y1 y2, LeO (spec_keyIn_string.l0 k y0 y1 y2) (spec_keyIn_string.l0 (k + 1) y0 y1 y2))
  | 0 => fun _ _ _ r h => by simp [spec_keyIn_string.l0] at h
  | k + 1 => by
    have ih0 := spec_keyIn_string.mono_l k
    · intro y0 y1 y2
      unfold spec_keyIn_string.l0
      repeat' first
      | (with_reducible exact ih0 _ _ _)
      | (with_reducible exact LeO.refl _)
      | (with_reducible exact LeO.none _)
      | (with_reducible refine LeO.ite ?_ ?_)
      | (with_reducible refine LeO.bind ?_ (fun _ => ?_))
      | exact ih0 _ _ _
      | exact LeO.none _
      | refine LeO.ite ?_ ?_
      | refine LeO.bind ?_ (fun _ => ?_)
theorem spec_keyIn_string.mono : ∀ a0 a1 k, LeO (spec_keyIn_string.f k a0 a1) (spec_keyIn_string.f (k + 1) a0 a1) := by
  intro a0 a1 k
  have ih0 := spec_keyIn_string.mono_l k
  unfold spec_keyIn_string.f
  repeat' first
      | (with_reducible exact ih0 _ _ _)
      | (with_reducible exact LeO.refl _)
      | (with_reducible exact LeO.none _)
      | (with_reducible refine LeO.ite ?_ ?_)
      | (with_reducible refine LeO.bind ?_ (fun _ => ?_))
      | exact ih0 _ _ _
      | exact LeO.none _
      | refine LeO.ite ?_ ?_
      | refine LeO.bind ?_ (fun _ => ?_)
set_option maxHeartbeats 8000000 in
set_option maxRecDepth 100000 in
theorem spec_keyIn_string.calls (k : Nat) (A0 : Option Addr) (c0 : Nat) (l0 : List ByteArray) (a1 : ByteArray) (r : Bool) (w : World) (hr0 : Kd.C Kd.string w A0 l0.length l0) (hc0 : l0.length ≤ c0) (h : spec_keyIn_string.f k l0 a1 = some r) :
    Calls Try.prog 42 #[.slice A0 l0.length c0, .string a1] w fun e w' => e = .returned (.bool r) ∧ Drawn0 w w' := by
  have HR0 := Aside0.mk hr0
  have HC0 := Aside0.mk hc0
  clear hr0 hc0
  have H : (spec_keyIn_string.l0 k l0 a1 0) = some r := h
  clear h
  have H' := Aside0.mk H
  clear H
  go_enter Try.func42, Try.ntmps42
  go_wp2
  go_loopg [5] k (fun kq v5 w' => ∃ (x5_1 : Int), v5 = .int .i64 x5_1 ∧ Aside0 (spec_keyIn_string.l0 kq l0 a1 x5_1 = some r) ∧ Aside0 (kq ≤ k) ∧ Drawn0 w w')
  case atStart => exact ⟨(0), (by first | rfl | (simp; done) | (simp [*]; done)), H', ⟨Nat.le_refl _⟩, by repeat (first | exact Drawn0.refl _ | apply Drawn0.step)⟩
  case round =>
    clear H'
    try clear p2
    obtain ⟨x5_1, rfl, HA, HK1, ⟨m1, rfl⟩⟩ := hrel
    cases gk with
    | zero => exact absurd HA.out (by simp [spec_keyIn_string.l0])
    | succ k1 =>
      have H := HA.out
      clear HA
      simp only [spec_keyIn_string.l0] at H
      by_cases c3 : x5_1 < (l0.length : Int)
      · rw [if_pos c3] at H
        have c3b0 : decide (x5_1 < (l0.length : Int)) = true := decide_eq_true c3
        clear c3
        by_cases c4 : 0 ≤ x5_1
        · rw [if_pos c4] at H
          have c4b0 : decide (0 ≤ x5_1) = true := decide_eq_true c4
          clear c4
          by_cases c5 : (rdOf ByteArray.empty l0 x5_1).toList = a1.toList
          · rw [if_pos c5] at H
            have c5b0 : ((rdOf ByteArray.empty l0 x5_1).toList == a1.toList) = true := beq_iff_eq.mpr c5
            have c5b1 : ((rdOf ByteArray.empty l0 x5_1).toList != a1.toList) = false := bne_eq_false_iff_eq.mpr c5
            clear c5
            obtain rfl := Option.some.inj H
            have p105 : 0 ≤ (x5_1 : Int) := of_decide_eq_true (by first | (with_reducible assumption) | assumption)
            have q105 : x5_1 < (l0.length : Int) := of_decide_eq_true (by first | (with_reducible assumption) | assumption)
            obtain ⟨ad105, e105, hx105_0⟩ := Kd.at_string HR0.out x5_1 p105 q105
            cases e105
            replace p105 := eq_true p105
            replace q105 := eq_true q105
            go_wp2
            go_ret
            exact ⟨by first | rfl | (simp; done) | (simp [*]; done), by repeat (first | exact Drawn0.refl _ | apply Drawn0.step)⟩
          · rw [if_neg c5] at H
            have c5b0 : ((rdOf ByteArray.empty l0 x5_1).toList == a1.toList) = false := beq_eq_false_iff_ne.mpr c5
            have c5b1 : ((rdOf ByteArray.empty l0 x5_1).toList != a1.toList) = true := bne_iff_ne.mpr c5
            have H' := Aside0.mk H
            clear H
            have p105 : 0 ≤ (x5_1 : Int) := of_decide_eq_true (by first | (with_reducible assumption) | assumption)
            have q105 : x5_1 < (l0.length : Int) := of_decide_eq_true (by first | (with_reducible assumption) | assumption)
            obtain ⟨ad105, e105, hx105_0⟩ := Kd.at_string HR0.out x5_1 p105 q105
            cases e105
            replace p105 := eq_true p105
            replace q105 := eq_true q105
            go_wp2
            go_roundg k1
            case measure => have := HK1.out; omega
            case rel => exact ⟨(wrap64 (x5_1 + 1)), (by first | rfl | (simp; done) | (simp [*]; done)), H', ⟨by have := HK1.out; omega⟩, by repeat (first | exact Drawn0.refl _ | apply Drawn0.step)⟩
        · rw [if_neg c4] at H
          exact absurd H (by simp)
      · rw [if_neg c3] at H
        have c3b0 : decide (x5_1 < (l0.length : Int)) = false := decide_eq_false c3
        clear c3
        obtain rfl := Option.some.inj H
        go_wp2
        go_ret
        exact ⟨by first | rfl | (simp; done) | (simp [*]; done), by repeat (first | exact Drawn0.refl _ | apply Drawn0.step)⟩

/-! ### spec_Keys_string: function 18 -/
mutual
def spec_Keys_string.l0 : Nat → List ByteArray → List ByteArray → Int → Option (List ByteArray)
  | 0, _, _, _ => none
  | k + 1, x0, x3, x4 => if x4 < (x0.length : Int) then (if 0 ≤ x4 then ((spec_keyIn_string.f k x3 (rdOf ByteArray.empty x0 x4)).bind fun t107 => (if t107 = true then (spec_Keys_string.l0 k x0 x3 (wrap64 (x4 + 1))) else (spec_Keys_string.l1 k x0 x3 x4 0))) else (none)) else (some x3)
def spec_Keys_string.l1 : Nat → List ByteArray → List ByteArray → Int → Int → Option (List ByteArray)
  | 0, _, _, _, _ => none
  | k + 1, x0, x3, x4, x5 => if x5 < (x3.length : Int) then (if 0 ≤ x5 then (if 0 ≤ x4 then (if x4 < (x0.length : Int) then (if (Op.bytesLess ((rdOf ByteArray.empty x3 x5).toList) ((rdOf ByteArray.empty x0 x4).toList)) = true then (spec_Keys_string.l1 k x0 x3 x4 (wrap64 (x5 + 1))) else ((some (([] : List ByteArray) : List ByteArray)).bind fun y110 => (if x5 ≤ (x3.length : Int) then ((some (x3.take (x5 : Int).toNat : List ByteArray)).bind fun y113 => (if y110.length + y113.length < 8796093022208 then ((some (y110 ++ y113 : List ByteArray)).bind fun y117 => (if y117.length < 8796093022208 then ((some (y117 ++ [rdOf ByteArray.empty x0 x4] : List ByteArray)).bind fun y121 => ((some (x3.drop (x5 : Int).toNat : List ByteArray)).bind fun y124 => (if y121.length + y124.length < 8796093022208 then (spec_Keys_string.l0 k x0 (y121 ++ y124) (wrap64 (x4 + 1))) else (none)))) else (none))) else (none))) else (none)))) else (none)) else (none)) else (none)) else ((some (([] : List ByteArray) : List ByteArray)).bind fun y131 => (if 0 ≤ x5 then (if x5 ≤ (x3.length : Int) then ((some (x3.take (x5 : Int).toNat : List ByteArray)).bind fun y134 => (if y131.length + y134.length < 8796093022208 then ((some (y131 ++ y134 : List ByteArray)).bind fun y138 => (if 0 ≤ x4 then (if x4 < (x0.length : Int) then (if y138.length < 8796093022208 then ((some (y138 ++ [rdOf ByteArray.empty x0 x4] : List ByteArray)).bind fun y142 => ((some (x3.drop (x5 : Int).toNat : List ByteArray)).bind fun y145 => (if y142.length + y145.length < 8796093022208 then (spec_Keys_string.l0 k x0 (y142 ++ y145) (wrap64 (x4 + 1))) else (none)))) else (none)) else (none)) else (none))) else (none))) else (none)) else (none)))
end
def spec_Keys_string.f (k : Nat) (l0 : List ByteArray) : Option (List ByteArray) := spec_Keys_string.l0 k l0 ([] : List ByteArray) 0
theorem spec_Keys_string.mono_l : ∀ k, (∀ y0 y1 y2, LeO (spec_Keys_string.l0 k y0 y1 y2) (spec_Keys_string.l0 (k + 1) y0 y1 y2)) ∧ (∀ y0 y1 y2 y3, LeO (spec_Keys_string.l1 k y0 y1 y2 y3) (spec_Keys_string.l1 (k + 1) y0 y1 y2 y3))
  | 0 => ⟨fun _ _ _ r h => by simp [spec_Keys_string.l0] at h, fun _ _ _ _ r h => by simp [spec_Keys_string.l1] at h⟩
  | k + 1 => by
    obtain ⟨ih0, ih1⟩ := spec_Keys_string.mono_l k
    refine ⟨?_, ?_⟩
    · intro y0 y1 y2
      unfold spec_Keys_string.l0
      repeat' first
      | (with_reducible exact ih0 _ _ _)
      | (with_reducible exact ih1 _ _ _ _)
      | (with_reducible exact spec_keyIn_string.mono _ _ _)
      | (with_reducible exact LeO.refl _)
      | (with_reducible exact LeO.none _)
      | (with_reducible refine LeO.ite ?_ ?_)
      | (with_reducible refine LeO.bind ?_ (fun _ => ?_))
      | exact ih0 _ _ _
      | exact ih1 _ _ _ _
      | exact spec_keyIn_string.mono _ _ _
      | exact LeO.none _
      | refine LeO.ite ?_ ?_
      | refine LeO.bind ?_ (fun _ => ?_)
    · intro y0 y1 y2 y3
      unfold spec_Keys_string.l1
      repeat' first
      | (with_reducible exact ih0 _ _ _)
      | (with_reducible exact ih1 _ _ _ _)
      | (with_reducible exact spec_keyIn_string.mono _ _ _)
      | (with_reducible exact LeO.refl _)
      | (with_reducible exact LeO.none _)
      | (with_reducible refine LeO.ite ?_ ?_)
      | (with_reducible refine LeO.bind ?_ (fun _ => ?_))
      | exact ih0 _ _ _
      | exact ih1 _ _ _ _
      | exact spec_keyIn_string.mono _ _ _
      | exact LeO.none _
      | refine LeO.ite ?_ ?_
      | refine LeO.bind ?_ (fun _ => ?_)
theorem spec_Keys_string.mono : ∀ a0 k, LeO (spec_Keys_string.f k a0) (spec_Keys_string.f (k + 1) a0) := by
  intro a0 k
  obtain ⟨ih0, ih1⟩ := spec_Keys_string.mono_l k
  unfold spec_Keys_string.f
  repeat' first
      | (with_reducible exact ih0 _ _ _)
      | (with_reducible exact ih1 _ _ _ _)
      | (with_reducible exact spec_keyIn_string.mono _ _ _)
      | (with_reducible exact LeO.refl _)
      | (with_reducible exact LeO.none _)
      | (with_reducible refine LeO.ite ?_ ?_)
      | (with_reducible refine LeO.bind ?_ (fun _ => ?_))
      | exact ih0 _ _ _
      | exact ih1 _ _ _ _
      | exact spec_keyIn_string.mono _ _ _
      | exact LeO.none _
      | refine LeO.ite ?_ ?_
      | refine LeO.bind ?_ (fun _ => ?_)
set_option maxHeartbeats 8000000 in
set_option maxRecDepth 100000 in
theorem spec_Keys_string.calls (k : Nat) (A0 : Option Addr) (c0 : Nat) (l0 : List ByteArray) (r : List ByteArray) (w : World) (hr0 : Kd.C Kd.string w A0 l0.length l0) (hc0 : l0.length ≤ c0) (h : spec_Keys_string.f k l0 = some r) :
    Calls Try.prog 18 #[.slice A0 l0.length c0] w fun e w' => ∃ v0_ : Value, e = .returned (v0_) ∧ Kd.R Kd.string 9 w' w.heap.size (fun _ => True) v0_ r ∧ Below w.heap.size w w' := by
  have HR0 := Aside0.mk hr0
  have HC0 := Aside0.mk hc0
  clear hr0 hc0
  have HB := Aside0.mk (Below.refl w.heap.size w)
  have H : (spec_Keys_string.l0 k l0 ([] : List ByteArray) 0) = some r := h
  clear h
  have H' := Aside0.mk H
  clear H
  go_enter Try.func18, Try.ntmps18
  go_wp2
  repeat (go_quiet (fail); try go_wp2)
  go_loopg [3, 4] k (fun kq v3 v4 w' => ∃ (x3_1 : List ByteArray) (x4_1 : Int), v4 = .int .i64 x4_1 ∧ Aside0 (spec_Keys_string.l0 kq l0 x3_1 x4_1 = some r) ∧ Aside0 (kq ≤ k) ∧ Aside0 (Kd.R Kd.string 9 w' w.heap.size (fun _ => True) v3 x3_1) ∧ Aside0 (Below w.heap.size w w'))
  case atStart => exact ⟨(([] : List ByteArray)), (0), (by first | rfl | (simp; done) | (simp [*]; done)), H', ⟨Nat.le_refl _⟩, ⟨by first | exact Kd.R_nil _ _ _ _ _ | exact Kd.N_nil _ _ _ _ _ | exact Kd.V_nil _ _ _ _ _ | exact Kd.Q_nil _ _ _ _ _ | exact Kd.S_nil _ _ _ _ _⟩, ⟨by repeat (first | (with_reducible first | exact HB.out | apply below_alloc | apply pw_below_drewN | apply below_drew1) | exact HB.out)⟩⟩
  case round =>
    clear H'
    try clear c1
    obtain ⟨x3_1, x4_1, rfl, HA, HK1, HO_3, HB⟩ := hrel
    cases gk with
    | zero => exact absurd HA.out (by simp [spec_Keys_string.l0])
    | succ k1 =>
      have H := HA.out
      clear HA
      simp only [spec_Keys_string.l0] at H
      by_cases c2 : x4_1 < (l0.length : Int)
      · rw [if_pos c2] at H
        have c2b0 : decide (x4_1 < (l0.length : Int)) = true := decide_eq_true c2
        clear c2
        by_cases c3 : 0 ≤ x4_1
        · rw [if_pos c3] at H
          have c3b0 : decide (0 ≤ x4_1) = true := decide_eq_true c3
          clear c3
          replace H := Option.bind_eq_some_iff.mp H
          obtain ⟨t107, A40, H⟩ := H
          replace H : (if t107 = true then (spec_Keys_string.l0 k1 l0 x3_1 (wrap64 (x4_1 + 1))) else (spec_Keys_string.l1 k1 l0 x3_1 x4_1 0)) = some r := H
          have A4 := Aside0.mk A40
          clear A40
          by_cases c5 : t107 = true
          · subst c5
            have H1 : (spec_Keys_string.l0 k1 l0 x3_1 (wrap64 (x4_1 + 1))) = some r := by rw [if_pos rfl] at H; exact H
            clear H
            have H := H1
            clear H1
            have H' := Aside0.mk H
            clear H
            have p106 : 0 ≤ (x4_1 : Int) := of_decide_eq_true (by first | (with_reducible assumption) | assumption)
            have q106 : x4_1 < (l0.length : Int) := of_decide_eq_true (by first | (with_reducible assumption) | assumption)
            obtain ⟨ad106, e106, hx106_0⟩ := Kd.at_string HR0.out x4_1 p106 q106
            cases e106
            replace hx106_0 := (HB.out.cell (World.block_lt_of_cell? w _ hx106_0)).trans hx106_0
            replace p106 := eq_true p106
            replace q106 := eq_true q106
            obtain ⟨Ao6, co6, eo6⟩ := Kd.R_slice HO_3.out
            subst eo6
            go_wp2_with (first | (go_at_call 42; (with_reducible refine (spec_keyIn_string.calls k1 _ _ x3_1 (rdOf ByteArray.empty l0 x4_1) true _ ?side1 ?side2 A4.out).mono ?_); (case side1 => repeat (first | exact (Kd.R_reads' HO_3.out).2.2 | (with_reducible refine Kd.C_alloc ?_ _) | (with_reducible refine Kd.C_drewN ?_ _) | (with_reducible refine Kd.C_drew ?_))); (case side2 => exact (Kd.R_reads' HO_3.out).2.1); rintro e w' ⟨rfl, ⟨nd, rfl⟩⟩; (try first | exact ⟨rfl, _, World.drewN_drewN _ _ _⟩ | exact ⟨rfl, _, Eq.trans (World.drewN_drewN _ _ _) (congrArg (World.drewN _) (Nat.add_assoc _ _ _))⟩)))
            repeat (go_quiet (first | (go_at_call 42; (with_reducible refine (spec_keyIn_string.calls k1 _ _ x3_1 (rdOf ByteArray.empty l0 x4_1) true _ ?side1 ?side2 A4.out).mono ?_); (case side1 => repeat (first | exact (Kd.R_reads' HO_3.out).2.2 | (with_reducible refine Kd.C_alloc ?_ _) | (with_reducible refine Kd.C_drewN ?_ _) | (with_reducible refine Kd.C_drew ?_))); (case side2 => exact (Kd.R_reads' HO_3.out).2.1); rintro e w' ⟨rfl, ⟨nd, rfl⟩⟩; (try first | exact ⟨rfl, _, World.drewN_drewN _ _ _⟩ | exact ⟨rfl, _, Eq.trans (World.drewN_drewN _ _ _) (congrArg (World.drewN _) (Nat.add_assoc _ _ _))⟩))); try go_wp2_with (first | (go_at_call 42; (with_reducible refine (spec_keyIn_string.calls k1 _ _ x3_1 (rdOf ByteArray.empty l0 x4_1) true _ ?side1 ?side2 A4.out).mono ?_); (case side1 => repeat (first | exact (Kd.R_reads' HO_3.out).2.2 | (with_reducible refine Kd.C_alloc ?_ _) | (with_reducible refine Kd.C_drewN ?_ _) | (with_reducible refine Kd.C_drew ?_))); (case side2 => exact (Kd.R_reads' HO_3.out).2.1); rintro e w' ⟨rfl, ⟨nd, rfl⟩⟩; (try first | exact ⟨rfl, _, World.drewN_drewN _ _ _⟩ | exact ⟨rfl, _, Eq.trans (World.drewN_drewN _ _ _) (congrArg (World.drewN _) (Nat.add_assoc _ _ _))⟩))))
            go_roundg k1
            case measure => have := HK1.out; omega
            case rel => exact ⟨(x3_1), (wrap64 (x4_1 + 1)), (by first | rfl | (simp; done) | (simp [*]; done)), H', ⟨by have := HK1.out; omega⟩, ⟨by (with_reducible repeat (first | apply Kd.R_alloc | apply Kd.R_drewN | apply Kd.R_drew)); exact HO_3.out⟩, ⟨by repeat (first | (with_reducible first | exact HB.out | apply below_alloc | apply pw_below_drewN | apply below_drew1) | exact HB.out)⟩⟩
          · replace c5 := Bool.eq_false_iff.mpr c5
            subst c5
            have H1 : (spec_Keys_string.l1 k1 l0 x3_1 x4_1 0) = some r := by rw [if_neg (show ¬ (false = true) by decide)] at H; exact H
            clear H
            have H := H1
            clear H1
            have H' := Aside0.mk H
            clear H
            have p106 : 0 ≤ (x4_1 : Int) := of_decide_eq_true (by first | (with_reducible assumption) | assumption)
            have q106 : x4_1 < (l0.length : Int) := of_decide_eq_true (by first | (with_reducible assumption) | assumption)
            obtain ⟨ad106, e106, hx106_0⟩ := Kd.at_string HR0.out x4_1 p106 q106
            cases e106
            replace hx106_0 := (HB.out.cell (World.block_lt_of_cell? w _ hx106_0)).trans hx106_0
            replace p106 := eq_true p106
            replace q106 := eq_true q106
            obtain ⟨Ao7, co7, eo7⟩ := Kd.R_slice HO_3.out
            subst eo7
            go_wp2_with (first | (go_at_call 42; (with_reducible refine (spec_keyIn_string.calls k1 _ _ x3_1 (rdOf ByteArray.empty l0 x4_1) false _ ?side1 ?side2 A4.out).mono ?_); (case side1 => repeat (first | exact (Kd.R_reads' HO_3.out).2.2 | (with_reducible refine Kd.C_alloc ?_ _) | (with_reducible refine Kd.C_drewN ?_ _) | (with_reducible refine Kd.C_drew ?_))); (case side2 => exact (Kd.R_reads' HO_3.out).2.1); rintro e w' ⟨rfl, ⟨nd, rfl⟩⟩; (try first | exact ⟨rfl, _, World.drewN_drewN _ _ _⟩ | exact ⟨rfl, _, Eq.trans (World.drewN_drewN _ _ _) (congrArg (World.drewN _) (Nat.add_assoc _ _ _))⟩)))
            repeat (go_quiet (first | (go_at_call 42; (with_reducible refine (spec_keyIn_string.calls k1 _ _ x3_1 (rdOf ByteArray.empty l0 x4_1) false _ ?side1 ?side2 A4.out).mono ?_); (case side1 => repeat (first | exact (Kd.R_reads' HO_3.out).2.2 | (with_reducible refine Kd.C_alloc ?_ _) | (with_reducible refine Kd.C_drewN ?_ _) | (with_reducible refine Kd.C_drew ?_))); (case side2 => exact (Kd.R_reads' HO_3.out).2.1); rintro e w' ⟨rfl, ⟨nd, rfl⟩⟩; (try first | exact ⟨rfl, _, World.drewN_drewN _ _ _⟩ | exact ⟨rfl, _, Eq.trans (World.drewN_drewN _ _ _) (congrArg (World.drewN _) (Nat.add_assoc _ _ _))⟩))); try go_wp2_with (first | (go_at_call 42; (with_reducible refine (spec_keyIn_string.calls k1 _ _ x3_1 (rdOf ByteArray.empty l0 x4_1) false _ ?side1 ?side2 A4.out).mono ?_); (case side1 => repeat (first | exact (Kd.R_reads' HO_3.out).2.2 | (with_reducible refine Kd.C_alloc ?_ _) | (with_reducible refine Kd.C_drewN ?_ _) | (with_reducible refine Kd.C_drew ?_))); (case side2 => exact (Kd.R_reads' HO_3.out).2.1); rintro e w' ⟨rfl, ⟨nd, rfl⟩⟩; (try first | exact ⟨rfl, _, World.drewN_drewN _ _ _⟩ | exact ⟨rfl, _, Eq.trans (World.drewN_drewN _ _ _) (congrArg (World.drewN _) (Nat.add_assoc _ _ _))⟩))))
            go_loopg [5] k1 (fun kq v5 w' => ∃ (x5_2 : Int), v5 = .int .i64 x5_2 ∧ Aside0 (spec_Keys_string.l1 kq l0 x3_1 x4_1 x5_2 = some r) ∧ Aside0 (kq ≤ k1) ∧ Aside0 (Kd.R Kd.string 9 w' w.heap.size (fun _ => True) (.slice Ao7 x3_1.length co7) x3_1) ∧ Aside0 (Below w.heap.size w w'))
            case atStart => exact ⟨(0), (by first | rfl | (simp; done) | (simp [*]; done)), H', ⟨Nat.le_refl _⟩, ⟨by (with_reducible repeat (first | apply Kd.R_alloc | apply Kd.R_drewN | apply Kd.R_drew)); exact HO_3.out⟩, ⟨by repeat (first | (with_reducible first | exact HB.out | apply below_alloc | apply pw_below_drewN | apply below_drew1) | exact HB.out)⟩⟩
            case round =>
              clear H'
              try clear c1
              try clear p1
              try clear q1
              try clear hx1
              try clear c2
              try clear c2b0
              try clear p2
              try clear c3
              try clear c3b0
              try clear c5
              try clear p6
              try clear hx106_0
              try clear p106
              try clear q106
              obtain ⟨x5_2, rfl, HA, HK2, HO_3, HB⟩ := hrel
              cases gk with
              | zero => exact absurd HA.out (by simp [spec_Keys_string.l1])
              | succ k2 =>
                have H := HA.out
                clear HA
                simp only [spec_Keys_string.l1] at H
                by_cases c8 : x5_2 < (x3_1.length : Int)
                · rw [if_pos c8] at H
                  have c8b0 : decide (x5_2 < (x3_1.length : Int)) = true := decide_eq_true c8
                  clear c8
                  by_cases c9 : 0 ≤ x5_2
                  · rw [if_pos c9] at H
                    have c9b0 : decide (0 ≤ x5_2) = true := decide_eq_true c9
                    clear c9
                    by_cases c10 : 0 ≤ x4_1
                    · rw [if_pos c10] at H
                      have c10b0 : decide (0 ≤ x4_1) = true := decide_eq_true c10
                      clear c10
                      by_cases c11 : x4_1 < (l0.length : Int)
                      · rw [if_pos c11] at H
                        have c11b0 : decide (x4_1 < (l0.length : Int)) = true := decide_eq_true c11
                        clear c11
                        by_cases c12 : (Op.bytesLess ((rdOf ByteArray.empty x3_1 x5_2).toList) ((rdOf ByteArray.empty l0 x4_1).toList)) = true
                        · rw [if_pos c12] at H
                          have c12b0 : (Op.bytesLess ((rdOf ByteArray.empty x3_1 x5_2).toList) ((rdOf ByteArray.empty l0 x4_1).toList)) = true := c12
                          clear c12
                          have H' := Aside0.mk H
                          clear H
                          have p108 : 0 ≤ (x5_2 : Int) := of_decide_eq_true (by first | (with_reducible assumption) | assumption)
                          have q108 : x5_2 < (x3_1.length : Int) := of_decide_eq_true (by first | (with_reducible assumption) | assumption)
                          obtain ⟨ad108, e108, hx108_0⟩ := Kd.at_string (Kd.R_reads' HO_3.out).2.2 x5_2 p108 q108
                          cases e108
                          replace p108 := eq_true p108
                          replace q108 := eq_true q108
                          have p109 : 0 ≤ (x4_1 : Int) := of_decide_eq_true (by first | (with_reducible assumption) | assumption)
                          have q109 : x4_1 < (l0.length : Int) := of_decide_eq_true (by first | (with_reducible assumption) | assumption)
                          obtain ⟨ad109, e109, hx109_0⟩ := Kd.at_string HR0.out x4_1 p109 q109
                          obtain rfl : ad106 = ad109 := (by injection e109)
                          replace hx109_0 := (HB.out.cell (World.block_lt_of_cell? w _ hx109_0)).trans hx109_0
                          replace p109 := eq_true p109
                          replace q109 := eq_true q109
                          go_wp2
                          repeat (go_quiet (fail); try go_wp2)
                          go_roundg k2
                          case measure => have := HK1.out; have := HK2.out; omega
                          case rel => exact ⟨(wrap64 (x5_2 + 1)), (by first | rfl | (simp; done) | (simp [*]; done)), H', ⟨by have := HK1.out; have := HK2.out; omega⟩, ⟨by (with_reducible repeat (first | apply Kd.R_alloc | apply Kd.R_drewN | apply Kd.R_drew)); exact HO_3.out⟩, ⟨by repeat (first | (with_reducible first | exact HB.out | apply below_alloc | apply pw_below_drewN | apply below_drew1) | exact HB.out)⟩⟩
                        · rw [if_neg c12] at H
                          have c12b0 : (Op.bytesLess ((rdOf ByteArray.empty x3_1 x5_2).toList) ((rdOf ByteArray.empty l0 x4_1).toList)) = false := by simpa using c12
                          clear c12
                          obtain ⟨y110, hy110⟩ : ∃ y_ : List ByteArray, y_ = (([] : List ByteArray)) := ⟨_, rfl⟩
                          replace H : (if x5_2 ≤ (x3_1.length : Int) then ((some (x3_1.take (x5_2 : Int).toNat : List ByteArray)).bind fun y113 => (if y110.length + y113.length < 8796093022208 then ((some (y110 ++ y113 : List ByteArray)).bind fun y117 => (if y117.length < 8796093022208 then ((some (y117 ++ [rdOf ByteArray.empty l0 x4_1] : List ByteArray)).bind fun y121 => ((some (x3_1.drop (x5_2 : Int).toNat : List ByteArray)).bind fun y124 => (if y121.length + y124.length < 8796093022208 then (spec_Keys_string.l0 k2 l0 (y121 ++ y124) (wrap64 (x4_1 + 1))) else (none)))) else (none))) else (none))) else (none)) = some r := by first | (rw [hy110]; with_reducible exact H) | (have H2_ := (Option.bind_some _ _).symm.trans H; rw [hy110]; with_reducible exact H2_) | (have H2_ := (Option.bind_some _ _).symm.trans H; with_reducible exact H2_) | with_reducible exact H | (rw [hy110]; exact H) | exact H
                          have Ny110 := Aside0.mk hy110
                          clear hy110
                          have c13b0 := eq_true (of_decide_eq_true (by first | (with_reducible assumption) | assumption) : 0 ≤ x5_2)
                          by_cases c14 : x5_2 ≤ (x3_1.length : Int)
                          · rw [if_pos c14] at H
                            have c14b0 := eq_true c14
                            have c14b1 : decide (x5_2 ≤ (x3_1.length : Int)) = true := decide_eq_true c14
                            clear c14
                            obtain ⟨y113, hy113⟩ : ∃ y_ : List ByteArray, y_ = (x3_1.take (x5_2 : Int).toNat) := ⟨_, rfl⟩
                            replace H : (if y110.length + y113.length < 8796093022208 then ((some (y110 ++ y113 : List ByteArray)).bind fun y117 => (if y117.length < 8796093022208 then ((some (y117 ++ [rdOf ByteArray.empty l0 x4_1] : List ByteArray)).bind fun y121 => ((some (x3_1.drop (x5_2 : Int).toNat : List ByteArray)).bind fun y124 => (if y121.length + y124.length < 8796093022208 then (spec_Keys_string.l0 k2 l0 (y121 ++ y124) (wrap64 (x4_1 + 1))) else (none)))) else (none))) else (none)) = some r := by first | (rw [hy113]; with_reducible exact H) | (have H2_ := (Option.bind_some _ _).symm.trans H; rw [hy113]; with_reducible exact H2_) | (have H2_ := (Option.bind_some _ _).symm.trans H; with_reducible exact H2_) | with_reducible exact H | (rw [hy113]; exact H) | exact H
                            have Ny113 := Aside0.mk hy113
                            clear hy113
                            by_cases c15 : y110.length + y113.length < 8796093022208
                            · rw [if_pos c15] at H
                              have LMc15 := Aside0.mk c15
                              clear c15
                              obtain ⟨y117, hy117⟩ : ∃ y_ : List ByteArray, y_ = (y110 ++ y113) := ⟨_, rfl⟩
                              replace H : (if y117.length < 8796093022208 then ((some (y117 ++ [rdOf ByteArray.empty l0 x4_1] : List ByteArray)).bind fun y121 => ((some (x3_1.drop (x5_2 : Int).toNat : List ByteArray)).bind fun y124 => (if y121.length + y124.length < 8796093022208 then (spec_Keys_string.l0 k2 l0 (y121 ++ y124) (wrap64 (x4_1 + 1))) else (none)))) else (none)) = some r := by first | (rw [hy117]; with_reducible exact H) | (have H2_ := (Option.bind_some _ _).symm.trans H; rw [hy117]; with_reducible exact H2_) | (have H2_ := (Option.bind_some _ _).symm.trans H; with_reducible exact H2_) | with_reducible exact H | (rw [hy117]; exact H) | exact H
                              have Ny117 := Aside0.mk hy117
                              clear hy117
                              by_cases c16 : y117.length < 8796093022208
                              · rw [if_pos c16] at H
                                have LMc16 := Aside0.mk c16
                                clear c16
                                obtain ⟨y121, hy121⟩ : ∃ y_ : List ByteArray, y_ = (y117 ++ [rdOf ByteArray.empty l0 x4_1]) := ⟨_, rfl⟩
                                replace H : ((some (x3_1.drop (x5_2 : Int).toNat : List ByteArray)).bind fun y124 => (if y121.length + y124.length < 8796093022208 then (spec_Keys_string.l0 k2 l0 (y121 ++ y124) (wrap64 (x4_1 + 1))) else (none))) = some r := by first | (rw [hy121]; with_reducible exact H) | (have H2_ := (Option.bind_some _ _).symm.trans H; rw [hy121]; with_reducible exact H2_) | (have H2_ := (Option.bind_some _ _).symm.trans H; with_reducible exact H2_) | with_reducible exact H | (rw [hy121]; exact H) | exact H
                                have Ny121 := Aside0.mk hy121
                                clear hy121
                                have c17b0 := eq_true (of_decide_eq_true (by first | (with_reducible assumption) | assumption) : 0 ≤ x5_2)
                                have c18b0 := eq_true (of_decide_eq_true (by first | (with_reducible assumption) | assumption) : x5_2 ≤ (x3_1.length : Int))
                                obtain ⟨y124, hy124⟩ : ∃ y_ : List ByteArray, y_ = (x3_1.drop (x5_2 : Int).toNat) := ⟨_, rfl⟩
                                replace H : (if y121.length + y124.length < 8796093022208 then (spec_Keys_string.l0 k2 l0 (y121 ++ y124) (wrap64 (x4_1 + 1))) else (none)) = some r := by first | (rw [hy124]; with_reducible exact H) | (have H2_ := (Option.bind_some _ _).symm.trans H; rw [hy124]; with_reducible exact H2_) | (have H2_ := (Option.bind_some _ _).symm.trans H; with_reducible exact H2_) | with_reducible exact H | (rw [hy124]; exact H) | exact H
                                have Ny124 := Aside0.mk hy124
                                clear hy124
                                by_cases c19 : y121.length + y124.length < 8796093022208
                                · rw [if_pos c19] at H
                                  have LMc19 := Aside0.mk c19
                                  clear c19
                                  obtain ⟨y128, hy128⟩ : ∃ y_ : List ByteArray, y_ = (y121 ++ y124) := ⟨_, rfl⟩
                                  replace H : (spec_Keys_string.l0 k2 l0 y128 (wrap64 (x4_1 + 1))) = some r := by first | (rw [hy128]; with_reducible exact H) | (have H2_ := (Option.bind_some _ _).symm.trans H; rw [hy128]; with_reducible exact H2_) | (have H2_ := (Option.bind_some _ _).symm.trans H; with_reducible exact H2_) | with_reducible exact H | (rw [hy128]; exact H) | exact H
                                  have Ny128 := Aside0.mk hy128
                                  clear hy128
                                  have H' := Aside0.mk H
                                  clear H
                                  have p108 : 0 ≤ (x5_2 : Int) := of_decide_eq_true (by first | (with_reducible assumption) | assumption)
                                  have q108 : x5_2 < (x3_1.length : Int) := of_decide_eq_true (by first | (with_reducible assumption) | assumption)
                                  obtain ⟨ad108, e108, hx108_0⟩ := Kd.at_string (Kd.R_reads' HO_3.out).2.2 x5_2 p108 q108
                                  cases e108
                                  replace p108 := eq_true p108
                                  replace q108 := eq_true q108
                                  have p109 : 0 ≤ (x4_1 : Int) := of_decide_eq_true (by first | (with_reducible assumption) | assumption)
                                  have q109 : x4_1 < (l0.length : Int) := of_decide_eq_true (by first | (with_reducible assumption) | assumption)
                                  obtain ⟨ad109, e109, hx109_0⟩ := Kd.at_string HR0.out x4_1 p109 q109
                                  obtain rfl : ad106 = ad109 := (by injection e109)
                                  replace hx109_0 := (HB.out.cell (World.block_lt_of_cell? w _ hx109_0)).trans hx109_0
                                  replace p109 := eq_true p109
                                  replace q109 := eq_true q109
                                  go_wp2_with (first | ((with_reducible refine gate_dst (N := 36) rfl ?_); refine Kd.R_lit Kd.string _ 9 ?hg (N := 36) ?hd (xs := ([] : List ByteArray)) (inner := []) (ok := fun _ => True) (okp := fun _ => True) ?hr ?hp (fun _ hk => hk) trivial (Below.refl _ _) (Nat.le_refl _) (by simp) ?_; (case hd => rfl); (case hg => rfl); (case hr => first | (go_simp; done) | (go_simp; rfl)); (case hp => exact (Reps.none _ _)); intro v111 w20 ho21 hb hg_ hnew_; clear hg_ hnew_; (first | rw [← Ny110.out] at ho21 | (simp only [Int.reduceToNat] at ho21; rw [← Ny110.out] at ho21)); have n0_ := Aside0.mk (Kd.R_elder' (by (with_reducible repeat (first | apply Kd.R_alloc | apply Kd.R_drewN | apply Kd.R_drew)); exact HO_3.out) (Kd.R_base ho21) hb); have n1_ := Aside0.mk (Kd.R_lower (Kd.R_new' ho21 (Kd.R_lt (by (with_reducible repeat (first | apply Kd.R_alloc | apply Kd.R_drewN | apply Kd.R_drew)); exact HO_3.out))) (below_size (by repeat (first | (with_reducible first | exact HB.out | apply below_alloc | apply pw_below_drewN | apply below_drew1) | exact HB.out)))); have n2_ := Aside0.mk (below_step (by repeat (first | (with_reducible first | exact HB.out | apply below_alloc | apply pw_below_drewN | apply below_drew1) | exact HB.out)) hb); clear HO_3; clear HB; have HO_3 := n0_; have HO112 := n1_; have HB := n2_; clear n0_ n1_ n2_; clear hb ho21; have q22 : (x5_2 : Int) ≤ ((x3_1.length : Int) : Int) := of_decide_eq_true (by first | (with_reducible assumption) | assumption); obtain ⟨i022, hi022, _, hsz22, _⟩ := info_parts info9; have hroom22 : x3_1.length ≤ co7 := (Kd.R_reads' HO_3.out).2.1; have hC22 : Kd.C Kd.string _ (some ad108) x3_1.length x3_1 := (Kd.R_reads' HO_3.out).2.2; have hcut22 := cut_to (P := Try.prog) 27 9 .i64 Try.underlying27 hi022 (some ad108) x3_1.length co7 x5_2 (of_decide_eq_true (by first | (with_reducible assumption) | assumption)) q22 hroom22; have hr22 := Kd.C_take (m := (x5_2 : Int).toNat) hC22 (by omega); have hy22 : y113.length = (x5_2 : Int).toNat := (by rw [Ny113.out, List.length_take]; omega); rw [← Ny113.out] at hr22; rw [← hy22] at hcut22; have HR116 := Aside0.mk hr22; have HC116 := Aside0.mk (show y113.length ≤ co7 from by omega); clear hr22 hC22 hroom22 hi022 hsz22; have KY22 := Aside0.mk hy22; clear hy22; have KL22 := Aside0.mk (show (x5_2 : Int).toNat ≤ x3_1.length from by omega); replace q22 := eq_true q22) | ((with_reducible refine gate_builtin (b := .append) (xs := #[.tmp 36, .tmp 39]) rfl ?_); at_builtin; refine Kd.R_append_rows Kd.string (w0 := w) w.heap.size rfl (.tmp 36) (.tmp 39) 27 9 (.string ⟨#[]⟩) 16 rfl Try.underlying27 info9 rfl (by decide) (by omega) v111 y110 y113 _ _ _ (fun k_ => some k_ ≠ (.slice (some ad108) x3_1.length co7 : Value).ownBlock) (fun _ => False) rfl rfl ?aO ?aR (fun _ _ h => h) (fun _ h => h.elim) ?aF ?aB ?aS ?aL ?_; (case aR => repeat (first | exact (by repeat (first | (with_reducible exact HR116.out) | (with_reducible refine Kd.C_alloc ?_ _) | (with_reducible refine Kd.C_drewN ?_ _) | (with_reducible refine Kd.C_drew ?_) | exact HR116.out)) | (with_reducible refine Kd.C_alloc ?_ _) | (with_reducible refine Kd.C_drewN ?_ _) | (with_reducible refine Kd.C_drew ?_))); (case aB => exact (by repeat (first | (with_reducible first | exact HB.out | apply below_alloc | apply pw_below_drewN | apply below_drew1) | exact HB.out))); (case aF => exact (fun k_ hk => Kd.fresh' (Kd.R_lt (by (with_reducible repeat (first | apply Kd.R_alloc | apply Kd.R_drewN | apply Kd.R_drew)); exact HO_3.out)) k_ hk)); (case aO => exact (by (with_reducible repeat (first | apply Kd.R_alloc | apply Kd.R_drewN | apply Kd.R_drew)); exact Kd.R_mono HO112.out (fun _ hk => hk.2))); (case aS => exact (below_size (by repeat (first | (with_reducible first | exact HB.out | apply below_alloc | apply pw_below_drewN | apply below_drew1) | exact HB.out)))); (case aL => have := LMc15.out; omega); intro v118 w23 ho hb hg hat; rw [← Ny117.out] at ho; have n0_ := Aside0.mk (Kd.R_after (ok := (fun _ => True)) (by (with_reducible repeat (first | apply Kd.R_alloc | apply Kd.R_drewN | apply Kd.R_drew)); exact HO_3.out) hg hat); have n1_ := Aside0.mk (hb); have n2_ := Aside0.mk ((show Kd.C Kd.string w23 (some ad108) y113.length y113 from by rw [Ny113.out]; exact Kd.C_take (m := (x5_2 : Int).toNat) ((Kd.R_reads' (Kd.R_after (ok := (fun _ => True)) (by (with_reducible repeat (first | apply Kd.R_alloc | apply Kd.R_drewN | apply Kd.R_drew)); exact HO_3.out) hg hat)).2.2) KL22.out)); have n3_ := Aside0.mk (ho); clear HO_3; clear HB; clear HR116; clear HO112; have HO_3 := n0_; have HB := n1_; have HR116 := n2_; have HO119 := n3_; clear n0_ n1_ n2_ n3_; clear ho hb hg hat; have p120 : 0 ≤ (x4_1 : Int) := of_decide_eq_true (by first | (with_reducible assumption) | assumption); have q120 : x4_1 < (l0.length : Int) := of_decide_eq_true (by first | (with_reducible assumption) | assumption); obtain ⟨ad120, e120, hx120_0⟩ := Kd.at_string HR0.out x4_1 p120 q120; obtain rfl : ad106 = ad120 := (by injection e120); replace hx120_0 := (HB.out.cell (World.block_lt_of_cell? w _ hx120_0)).trans hx120_0; replace p120 := eq_true p120; replace q120 := eq_true q120) | ((with_reducible refine gate_builtin (b := .append) (xs := #[.tmp 41, .tmp 46]) rfl ?_); at_builtin; refine Kd.R_append Kd.string (w0 := w) w.heap.size rfl (.tmp 41) (.tmp 46) 27 9 (.string ⟨#[]⟩) 16 rfl Try.underlying27 info9 rfl (by decide) (by omega) v118 y117 (rdOf ByteArray.empty l0 x4_1) [.string (rdOf ByteArray.empty l0 x4_1)] (fun k_ => some k_ ≠ (.slice (some ad108) x3_1.length co7 : Value).ownBlock) (fun _ => False) rfl rfl ?aP (fun _ hk => hk.elim) ?aF ?aO ?aB ?aS ?aL ?_; (case aP => exact rfl); (case aB => exact (by repeat (first | (with_reducible first | exact HB.out | apply below_alloc | apply pw_below_drewN | apply below_drew1) | exact HB.out))); (case aF => exact (fun k_ hk => Kd.fresh' (Kd.R_lt (by (with_reducible repeat (first | apply Kd.R_alloc | apply Kd.R_drewN | apply Kd.R_drew)); exact HO_3.out)) k_ hk)); (case aO => exact (by (with_reducible repeat (first | apply Kd.R_alloc | apply Kd.R_drewN | apply Kd.R_drew)); exact HO119.out)); (case aS => exact (below_size (by repeat (first | (with_reducible first | exact HB.out | apply below_alloc | apply pw_below_drewN | apply below_drew1) | exact HB.out)))); (case aL => have := LMc16.out; omega); intro v122 w24 ho hb hg hat; rw [← Ny121.out] at ho; have n0_ := Aside0.mk (Kd.R_after (ok := (fun _ => True)) (by (with_reducible repeat (first | apply Kd.R_alloc | apply Kd.R_drewN | apply Kd.R_drew)); exact HO_3.out) hg hat); have n1_ := Aside0.mk (hb); have n2_ := Aside0.mk ((show Kd.C Kd.string w24 (some ad108) y113.length y113 from by rw [Ny113.out]; exact Kd.C_take (m := (x5_2 : Int).toNat) ((Kd.R_reads' (Kd.R_after (ok := (fun _ => True)) (by (with_reducible repeat (first | apply Kd.R_alloc | apply Kd.R_drewN | apply Kd.R_drew)); exact HO_3.out) hg hat)).2.2) KL22.out)); have n3_ := Aside0.mk (ho); clear HO_3; clear HB; clear HR116; clear HO119; have HO_3 := n0_; have HB := n1_; have HR116 := n2_; have HO123 := n3_; clear n0_ n1_ n2_ n3_; clear ho hb hg hat; have q25 : (x5_2 : Int) ≤ ((x3_1.length : Int) : Int) := of_decide_eq_true (by first | (with_reducible assumption) | assumption); obtain ⟨i025, hi025, _, hsz25, _⟩ := info_parts info9; have hroom25 : x3_1.length ≤ co7 := (Kd.R_reads' HO_3.out).2.1; have hC25 : Kd.C Kd.string _ (some ad108) x3_1.length x3_1 := (Kd.R_reads' HO_3.out).2.2; have q025 : (0 : Int) ≤ (x5_2 : Int) := of_decide_eq_true (by first | (with_reducible assumption) | assumption); have hcut25 := cut_from (P := Try.prog) 27 9 .i64 Try.underlying27 hi025 1 hsz25 (some ad108) x3_1.length co7 x5_2 q025 q25; have hr25 := Kd.C_drop (m := (x5_2 : Int).toNat) (c := co7) hC25 (by omega) hroom25; obtain ⟨A25, hA25⟩ : ∃ A1, A1 = (if co7 = (x5_2 : Int).toNat then (some ad108) else ((some ad108) : Option Addr).map (·.add ((x5_2 : Int).toNat * 1))) := ⟨_, rfl⟩; obtain ⟨c25, hc25⟩ : ∃ c1, c1 = co7 - (x5_2 : Int).toNat := ⟨_, rfl⟩; have hy25 : y124.length = x3_1.length - (x5_2 : Int).toNat := (by rw [Ny124.out, List.length_drop] <;> omega); rw [show (x3_1).drop (x5_2 : Int).toNat = y124 from Ny124.out.symm] at hr25; replace hr25 : Kd.C Kd.string _ A25 y124.length y124 := (by rw [hA25]; exact hr25); rw [← hy25, ← hA25, ← hc25] at hcut25; have HR127 := Aside0.mk hr25; have HC127 := Aside0.mk (show y124.length ≤ c25 from by rw [hy25, hc25]; exact Nat.sub_le_sub_right hroom25 _); clear hr25 hC25 hroom25 hi025 hsz25 hc25; have KY25 := Aside0.mk hy25; have KA25 := Aside0.mk hA25; clear hy25 hA25; have KL25 := Aside0.mk (show (x5_2 : Int).toNat ≤ x3_1.length from by omega); replace q25 := eq_true q25) | ((with_reducible refine gate_builtin (b := .append) (xs := #[.tmp 48, .tmp 51]) rfl ?_); at_builtin; refine Kd.R_append_rows Kd.string (w0 := w) w.heap.size rfl (.tmp 48) (.tmp 51) 27 9 (.string ⟨#[]⟩) 16 rfl Try.underlying27 info9 rfl (by decide) (by omega) v122 y121 y124 _ _ _ (fun k_ => some k_ ≠ (.slice (some ad108) x3_1.length co7 : Value).ownBlock) (fun _ => False) rfl rfl ?aO ?aR (fun _ _ h => h) (fun _ h => h.elim) ?aF ?aB ?aS ?aL ?_; (case aR => repeat (first | exact (by repeat (first | (with_reducible exact HR127.out) | (with_reducible refine Kd.C_alloc ?_ _) | (with_reducible refine Kd.C_drewN ?_ _) | (with_reducible refine Kd.C_drew ?_) | exact HR127.out)) | (with_reducible refine Kd.C_alloc ?_ _) | (with_reducible refine Kd.C_drewN ?_ _) | (with_reducible refine Kd.C_drew ?_))); (case aB => exact (by repeat (first | (with_reducible first | exact HB.out | apply below_alloc | apply pw_below_drewN | apply below_drew1) | exact HB.out))); (case aF => exact (fun k_ hk => Kd.fresh' (Kd.R_lt (by (with_reducible repeat (first | apply Kd.R_alloc | apply Kd.R_drewN | apply Kd.R_drew)); exact HO_3.out)) k_ hk)); (case aO => exact (by (with_reducible repeat (first | apply Kd.R_alloc | apply Kd.R_drewN | apply Kd.R_drew)); exact HO123.out)); (case aS => exact (below_size (by repeat (first | (with_reducible first | exact HB.out | apply below_alloc | apply pw_below_drewN | apply below_drew1) | exact HB.out)))); (case aL => have := LMc19.out; omega); intro v129 w26 ho hb hg hat; rw [← Ny128.out] at ho; have n0_ := Aside0.mk (Kd.R_after (ok := (fun _ => True)) (by (with_reducible repeat (first | apply Kd.R_alloc | apply Kd.R_drewN | apply Kd.R_drew)); exact HO_3.out) hg hat); have n1_ := Aside0.mk (hb); have n2_ := Aside0.mk ((show Kd.C Kd.string w26 (some ad108) y113.length y113 from by rw [Ny113.out]; exact Kd.C_take (m := (x5_2 : Int).toNat) ((Kd.R_reads' (Kd.R_after (ok := (fun _ => True)) (by (with_reducible repeat (first | apply Kd.R_alloc | apply Kd.R_drewN | apply Kd.R_drew)); exact HO_3.out) hg hat)).2.2) KL22.out)); have n3_ := Aside0.mk ((show Kd.C Kd.string w26 A25 y124.length y124 from by rw [Ny124.out, KA25.out]; exact Kd.C_drop (m := (x5_2 : Int).toNat) (c := co7) ((Kd.R_reads' (Kd.R_after (ok := (fun _ => True)) (by (with_reducible repeat (first | apply Kd.R_alloc | apply Kd.R_drewN | apply Kd.R_drew)); exact HO_3.out) hg hat)).2.2) KL25.out ((Kd.R_reads' (Kd.R_after (ok := (fun _ => True)) (by (with_reducible repeat (first | apply Kd.R_alloc | apply Kd.R_drewN | apply Kd.R_drew)); exact HO_3.out) hg hat)).2.1))); have n4_ := Aside0.mk (ho); clear HO_3; clear HB; clear HR116; clear HR127; clear HO123; have HO_3 := n0_; have HB := n1_; have HR116 := n2_; have HR127 := n3_; have HO130 := n4_; clear n0_ n1_ n2_ n3_ n4_; clear ho hb hg hat))
                                  repeat (go_quiet (first | ((with_reducible refine gate_dst (N := 36) rfl ?_); refine Kd.R_lit Kd.string _ 9 ?hg (N := 36) ?hd (xs := ([] : List ByteArray)) (inner := []) (ok := fun _ => True) (okp := fun _ => True) ?hr ?hp (fun _ hk => hk) trivial (Below.refl _ _) (Nat.le_refl _) (by simp) ?_; (case hd => rfl); (case hg => rfl); (case hr => first | (go_simp; done) | (go_simp; rfl)); (case hp => exact (Reps.none _ _)); intro v111 w20 ho21 hb hg_ hnew_; clear hg_ hnew_; (first | rw [← Ny110.out] at ho21 | (simp only [Int.reduceToNat] at ho21; rw [← Ny110.out] at ho21)); have n0_ := Aside0.mk (Kd.R_elder' (by (with_reducible repeat (first | apply Kd.R_alloc | apply Kd.R_drewN | apply Kd.R_drew)); exact HO_3.out) (Kd.R_base ho21) hb); have n1_ := Aside0.mk (Kd.R_lower (Kd.R_new' ho21 (Kd.R_lt (by (with_reducible repeat (first | apply Kd.R_alloc | apply Kd.R_drewN | apply Kd.R_drew)); exact HO_3.out))) (below_size (by repeat (first | (with_reducible first | exact HB.out | apply below_alloc | apply pw_below_drewN | apply below_drew1) | exact HB.out)))); have n2_ := Aside0.mk (below_step (by repeat (first | (with_reducible first | exact HB.out | apply below_alloc | apply pw_below_drewN | apply below_drew1) | exact HB.out)) hb); clear HO_3; clear HB; have HO_3 := n0_; have HO112 := n1_; have HB := n2_; clear n0_ n1_ n2_; clear hb ho21; have q22 : (x5_2 : Int) ≤ ((x3_1.length : Int) : Int) := of_decide_eq_true (by first | (with_reducible assumption) | assumption); obtain ⟨i022, hi022, _, hsz22, _⟩ := info_parts info9; have hroom22 : x3_1.length ≤ co7 := (Kd.R_reads' HO_3.out).2.1; have hC22 : Kd.C Kd.string _ (some ad108) x3_1.length x3_1 := (Kd.R_reads' HO_3.out).2.2; have hcut22 := cut_to (P := Try.prog) 27 9 .i64 Try.underlying27 hi022 (some ad108) x3_1.length co7 x5_2 (of_decide_eq_true (by first | (with_reducible assumption) | assumption)) q22 hroom22; have hr22 := Kd.C_take (m := (x5_2 : Int).toNat) hC22 (by omega); have hy22 : y113.length = (x5_2 : Int).toNat := (by rw [Ny113.out, List.length_take]; omega); rw [← Ny113.out] at hr22; rw [← hy22] at hcut22; have HR116 := Aside0.mk hr22; have HC116 := Aside0.mk (show y113.length ≤ co7 from by omega); clear hr22 hC22 hroom22 hi022 hsz22; have KY22 := Aside0.mk hy22; clear hy22; have KL22 := Aside0.mk (show (x5_2 : Int).toNat ≤ x3_1.length from by omega); replace q22 := eq_true q22) | ((with_reducible refine gate_builtin (b := .append) (xs := #[.tmp 36, .tmp 39]) rfl ?_); at_builtin; refine Kd.R_append_rows Kd.string (w0 := w) w.heap.size rfl (.tmp 36) (.tmp 39) 27 9 (.string ⟨#[]⟩) 16 rfl Try.underlying27 info9 rfl (by decide) (by omega) v111 y110 y113 _ _ _ (fun k_ => some k_ ≠ (.slice (some ad108) x3_1.length co7 : Value).ownBlock) (fun _ => False) rfl rfl ?aO ?aR (fun _ _ h => h) (fun _ h => h.elim) ?aF ?aB ?aS ?aL ?_; (case aR => repeat (first | exact (by repeat (first | (with_reducible exact HR116.out) | (with_reducible refine Kd.C_alloc ?_ _) | (with_reducible refine Kd.C_drewN ?_ _) | (with_reducible refine Kd.C_drew ?_) | exact HR116.out)) | (with_reducible refine Kd.C_alloc ?_ _) | (with_reducible refine Kd.C_drewN ?_ _) | (with_reducible refine Kd.C_drew ?_))); (case aB => exact (by repeat (first | (with_reducible first | exact HB.out | apply below_alloc | apply pw_below_drewN | apply below_drew1) | exact HB.out))); (case aF => exact (fun k_ hk => Kd.fresh' (Kd.R_lt (by (with_reducible repeat (first | apply Kd.R_alloc | apply Kd.R_drewN | apply Kd.R_drew)); exact HO_3.out)) k_ hk)); (case aO => exact (by (with_reducible repeat (first | apply Kd.R_alloc | apply Kd.R_drewN | apply Kd.R_drew)); exact Kd.R_mono HO112.out (fun _ hk => hk.2))); (case aS => exact (below_size (by repeat (first | (with_reducible first | exact HB.out | apply below_alloc | apply pw_below_drewN | apply below_drew1) | exact HB.out)))); (case aL => have := LMc15.out; omega); intro v118 w23 ho hb hg hat; rw [← Ny117.out] at ho; have n0_ := Aside0.mk (Kd.R_after (ok := (fun _ => True)) (by (with_reducible repeat (first | apply Kd.R_alloc | apply Kd.R_drewN | apply Kd.R_drew)); exact HO_3.out) hg hat); have n1_ := Aside0.mk (hb); have n2_ := Aside0.mk ((show Kd.C Kd.string w23 (some ad108) y113.length y113 from by rw [Ny113.out]; exact Kd.C_take (m := (x5_2 : Int).toNat) ((Kd.R_reads' (Kd.R_after (ok := (fun _ => True)) (by (with_reducible repeat (first | apply Kd.R_alloc | apply Kd.R_drewN | apply Kd.R_drew)); exact HO_3.out) hg hat)).2.2) KL22.out)); have n3_ := Aside0.mk (ho); clear HO_3; clear HB; clear HR116; clear HO112; have HO_3 := n0_; have HB := n1_; have HR116 := n2_; have HO119 := n3_; clear n0_ n1_ n2_ n3_; clear ho hb hg hat; have p120 : 0 ≤ (x4_1 : Int) := of_decide_eq_true (by first | (with_reducible assumption) | assumption); have q120 : x4_1 < (l0.length : Int) := of_decide_eq_true (by first | (with_reducible assumption) | assumption); obtain ⟨ad120, e120, hx120_0⟩ := Kd.at_string HR0.out x4_1 p120 q120; obtain rfl : ad106 = ad120 := (by injection e120); replace hx120_0 := (HB.out.cell (World.block_lt_of_cell? w _ hx120_0)).trans hx120_0; replace p120 := eq_true p120; replace q120 := eq_true q120) | ((with_reducible refine gate_builtin (b := .append) (xs := #[.tmp 41, .tmp 46]) rfl ?_); at_builtin; refine Kd.R_append Kd.string (w0 := w) w.heap.size rfl (.tmp 41) (.tmp 46) 27 9 (.string ⟨#[]⟩) 16 rfl Try.underlying27 info9 rfl (by decide) (by omega) v118 y117 (rdOf ByteArray.empty l0 x4_1) [.string (rdOf ByteArray.empty l0 x4_1)] (fun k_ => some k_ ≠ (.slice (some ad108) x3_1.length co7 : Value).ownBlock) (fun _ => False) rfl rfl ?aP (fun _ hk => hk.elim) ?aF ?aO ?aB ?aS ?aL ?_; (case aP => exact rfl); (case aB => exact (by repeat (first | (with_reducible first | exact HB.out | apply below_alloc | apply pw_below_drewN | apply below_drew1) | exact HB.out))); (case aF => exact (fun k_ hk => Kd.fresh' (Kd.R_lt (by (with_reducible repeat (first | apply Kd.R_alloc | apply Kd.R_drewN | apply Kd.R_drew)); exact HO_3.out)) k_ hk)); (case aO => exact (by (with_reducible repeat (first | apply Kd.R_alloc | apply Kd.R_drewN | apply Kd.R_drew)); exact HO119.out)); (case aS => exact (below_size (by repeat (first | (with_reducible first | exact HB.out | apply below_alloc | apply pw_below_drewN | apply below_drew1) | exact HB.out)))); (case aL => have := LMc16.out; omega); intro v122 w24 ho hb hg hat; rw [← Ny121.out] at ho; have n0_ := Aside0.mk (Kd.R_after (ok := (fun _ => True)) (by (with_reducible repeat (first | apply Kd.R_alloc | apply Kd.R_drewN | apply Kd.R_drew)); exact HO_3.out) hg hat); have n1_ := Aside0.mk (hb); have n2_ := Aside0.mk ((show Kd.C Kd.string w24 (some ad108) y113.length y113 from by rw [Ny113.out]; exact Kd.C_take (m := (x5_2 : Int).toNat) ((Kd.R_reads' (Kd.R_after (ok := (fun _ => True)) (by (with_reducible repeat (first | apply Kd.R_alloc | apply Kd.R_drewN | apply Kd.R_drew)); exact HO_3.out) hg hat)).2.2) KL22.out)); have n3_ := Aside0.mk (ho); clear HO_3; clear HB; clear HR116; clear HO119; have HO_3 := n0_; have HB := n1_; have HR116 := n2_; have HO123 := n3_; clear n0_ n1_ n2_ n3_; clear ho hb hg hat; have q25 : (x5_2 : Int) ≤ ((x3_1.length : Int) : Int) := of_decide_eq_true (by first | (with_reducible assumption) | assumption); obtain ⟨i025, hi025, _, hsz25, _⟩ := info_parts info9; have hroom25 : x3_1.length ≤ co7 := (Kd.R_reads' HO_3.out).2.1; have hC25 : Kd.C Kd.string _ (some ad108) x3_1.length x3_1 := (Kd.R_reads' HO_3.out).2.2; have q025 : (0 : Int) ≤ (x5_2 : Int) := of_decide_eq_true (by first | (with_reducible assumption) | assumption); have hcut25 := cut_from (P := Try.prog) 27 9 .i64 Try.underlying27 hi025 1 hsz25 (some ad108) x3_1.length co7 x5_2 q025 q25; have hr25 := Kd.C_drop (m := (x5_2 : Int).toNat) (c := co7) hC25 (by omega) hroom25; obtain ⟨A25, hA25⟩ : ∃ A1, A1 = (if co7 = (x5_2 : Int).toNat then (some ad108) else ((some ad108) : Option Addr).map (·.add ((x5_2 : Int).toNat * 1))) := ⟨_, rfl⟩; obtain ⟨c25, hc25⟩ : ∃ c1, c1 = co7 - (x5_2 : Int).toNat := ⟨_, rfl⟩; have hy25 : y124.length = x3_1.length - (x5_2 : Int).toNat := (by rw [Ny124.out, List.length_drop] <;> omega); rw [show (x3_1).drop (x5_2 : Int).toNat = y124 from Ny124.out.symm] at hr25; replace hr25 : Kd.C Kd.string _ A25 y124.length y124 := (by rw [hA25]; exact hr25); rw [← hy25, ← hA25, ← hc25] at hcut25; have HR127 := Aside0.mk hr25; have HC127 := Aside0.mk (show y124.length ≤ c25 from by rw [hy25, hc25]; exact Nat.sub_le_sub_right hroom25 _); clear hr25 hC25 hroom25 hi025 hsz25 hc25; have KY25 := Aside0.mk hy25; have KA25 := Aside0.mk hA25; clear hy25 hA25; have KL25 := Aside0.mk (show (x5_2 : Int).toNat ≤ x3_1.length from by omega); replace q25 := eq_true q25) | ((with_reducible refine gate_builtin (b := .append) (xs := #[.tmp 48, .tmp 51]) rfl ?_); at_builtin; refine Kd.R_append_rows Kd.string (w0 := w) w.heap.size rfl (.tmp 48) (.tmp 51) 27 9 (.string ⟨#[]⟩) 16 rfl Try.underlying27 info9 rfl (by decide) (by omega) v122 y121 y124 _ _ _ (fun k_ => some k_ ≠ (.slice (some ad108) x3_1.length co7 : Value).ownBlock) (fun _ => False) rfl rfl ?aO ?aR (fun _ _ h => h) (fun _ h => h.elim) ?aF ?aB ?aS ?aL ?_; (case aR => repeat (first | exact (by repeat (first | (with_reducible exact HR127.out) | (with_reducible refine Kd.C_alloc ?_ _) | (with_reducible refine Kd.C_drewN ?_ _) | (with_reducible refine Kd.C_drew ?_) | exact HR127.out)) | (with_reducible refine Kd.C_alloc ?_ _) | (with_reducible refine Kd.C_drewN ?_ _) | (with_reducible refine Kd.C_drew ?_))); (case aB => exact (by repeat (first | (with_reducible first | exact HB.out | apply below_alloc | apply pw_below_drewN | apply below_drew1) | exact HB.out))); (case aF => exact (fun k_ hk => Kd.fresh' (Kd.R_lt (by (with_reducible repeat (first | apply Kd.R_alloc | apply Kd.R_drewN | apply Kd.R_drew)); exact HO_3.out)) k_ hk)); (case aO => exact (by (with_reducible repeat (first | apply Kd.R_alloc | apply Kd.R_drewN | apply Kd.R_drew)); exact HO123.out)); (case aS => exact (below_size (by repeat (first | (with_reducible first | exact HB.out | apply below_alloc | apply pw_below_drewN | apply below_drew1) | exact HB.out)))); (case aL => have := LMc19.out; omega); intro v129 w26 ho hb hg hat; rw [← Ny128.out] at ho; have n0_ := Aside0.mk (Kd.R_after (ok := (fun _ => True)) (by (with_reducible repeat (first | apply Kd.R_alloc | apply Kd.R_drewN | apply Kd.R_drew)); exact HO_3.out) hg hat); have n1_ := Aside0.mk (hb); have n2_ := Aside0.mk ((show Kd.C Kd.string w26 (some ad108) y113.length y113 from by rw [Ny113.out]; exact Kd.C_take (m := (x5_2 : Int).toNat) ((Kd.R_reads' (Kd.R_after (ok := (fun _ => True)) (by (with_reducible repeat (first | apply Kd.R_alloc | apply Kd.R_drewN | apply Kd.R_drew)); exact HO_3.out) hg hat)).2.2) KL22.out)); have n3_ := Aside0.mk ((show Kd.C Kd.string w26 A25 y124.length y124 from by rw [Ny124.out, KA25.out]; exact Kd.C_drop (m := (x5_2 : Int).toNat) (c := co7) ((Kd.R_reads' (Kd.R_after (ok := (fun _ => True)) (by (with_reducible repeat (first | apply Kd.R_alloc | apply Kd.R_drewN | apply Kd.R_drew)); exact HO_3.out) hg hat)).2.2) KL25.out ((Kd.R_reads' (Kd.R_after (ok := (fun _ => True)) (by (with_reducible repeat (first | apply Kd.R_alloc | apply Kd.R_drewN | apply Kd.R_drew)); exact HO_3.out) hg hat)).2.1))); have n4_ := Aside0.mk (ho); clear HO_3; clear HB; clear HR116; clear HR127; clear HO123; have HO_3 := n0_; have HB := n1_; have HR116 := n2_; have HR127 := n3_; have HO130 := n4_; clear n0_ n1_ n2_ n3_ n4_; clear ho hb hg hat)); try go_wp2_with (first | ((with_reducible refine gate_dst (N := 36) rfl ?_); refine Kd.R_lit Kd.string _ 9 ?hg (N := 36) ?hd (xs := ([] : List ByteArray)) (inner := []) (ok := fun _ => True) (okp := fun _ => True) ?hr ?hp (fun _ hk => hk) trivial (Below.refl _ _) (Nat.le_refl _) (by simp) ?_; (case hd => rfl); (case hg => rfl); (case hr => first | (go_simp; done) | (go_simp; rfl)); (case hp => exact (Reps.none _ _)); intro v111 w20 ho21 hb hg_ hnew_; clear hg_ hnew_; (first | rw [← Ny110.out] at ho21 | (simp only [Int.reduceToNat] at ho21; rw [← Ny110.out] at ho21)); have n0_ := Aside0.mk (Kd.R_elder' (by (with_reducible repeat (first | apply Kd.R_alloc | apply Kd.R_drewN | apply Kd.R_drew)); exact HO_3.out) (Kd.R_base ho21) hb); have n1_ := Aside0.mk (Kd.R_lower (Kd.R_new' ho21 (Kd.R_lt (by (with_reducible repeat (first | apply Kd.R_alloc | apply Kd.R_drewN | apply Kd.R_drew)); exact HO_3.out))) (below_size (by repeat (first | (with_reducible first | exact HB.out | apply below_alloc | apply pw_below_drewN | apply below_drew1) | exact HB.out)))); have n2_ := Aside0.mk (below_step (by repeat (first | (with_reducible first | exact HB.out | apply below_alloc | apply pw_below_drewN | apply below_drew1) | exact HB.out)) hb); clear HO_3; clear HB; have HO_3 := n0_; have HO112 := n1_; have HB := n2_; clear n0_ n1_ n2_; clear hb ho21; have q22 : (x5_2 : Int) ≤ ((x3_1.length : Int) : Int) := of_decide_eq_true (by first | (with_reducible assumption) | assumption); obtain ⟨i022, hi022, _, hsz22, _⟩ := info_parts info9; have hroom22 : x3_1.length ≤ co7 := (Kd.R_reads' HO_3.out).2.1; have hC22 : Kd.C Kd.string _ (some ad108) x3_1.length x3_1 := (Kd.R_reads' HO_3.out).2.2; have hcut22 := cut_to (P := Try.prog) 27 9 .i64 Try.underlying27 hi022 (some ad108) x3_1.length co7 x5_2 (of_decide_eq_true (by first | (with_reducible assumption) | assumption)) q22 hroom22; have hr22 := Kd.C_take (m := (x5_2 : Int).toNat) hC22 (by omega); have hy22 : y113.length = (x5_2 : Int).toNat := (by rw [Ny113.out, List.length_take]; omega); rw [← Ny113.out] at hr22; rw [← hy22] at hcut22; have HR116 := Aside0.mk hr22; have HC116 := Aside0.mk (show y113.length ≤ co7 from by omega); clear hr22 hC22 hroom22 hi022 hsz22; have KY22 := Aside0.mk hy22; clear hy22; have KL22 := Aside0.mk (show (x5_2 : Int).toNat ≤ x3_1.length from by omega); replace q22 := eq_true q22) | ((with_reducible refine gate_builtin (b := .append) (xs := #[.tmp 36, .tmp 39]) rfl ?_); at_builtin; refine Kd.R_append_rows Kd.string (w0 := w) w.heap.size rfl (.tmp 36) (.tmp 39) 27 9 (.string ⟨#[]⟩) 16 rfl Try.underlying27 info9 rfl (by decide) (by omega) v111 y110 y113 _ _ _ (fun k_ => some k_ ≠ (.slice (some ad108) x3_1.length co7 : Value).ownBlock) (fun _ => False) rfl rfl ?aO ?aR (fun _ _ h => h) (fun _ h => h.elim) ?aF ?aB ?aS ?aL ?_; (case aR => repeat (first | exact (by repeat (first | (with_reducible exact HR116.out) | (with_reducible refine Kd.C_alloc ?_ _) | (with_reducible refine Kd.C_drewN ?_ _) | (with_reducible refine Kd.C_drew ?_) | exact HR116.out)) | (with_reducible refine Kd.C_alloc ?_ _) | (with_reducible refine Kd.C_drewN ?_ _) | (with_reducible refine Kd.C_drew ?_))); (case aB => exact (by repeat (first | (with_reducible first | exact HB.out | apply below_alloc | apply pw_below_drewN | apply below_drew1) | exact HB.out))); (case aF => exact (fun k_ hk => Kd.fresh' (Kd.R_lt (by (with_reducible repeat (first | apply Kd.R_alloc | apply Kd.R_drewN | apply Kd.R_drew)); exact HO_3.out)) k_ hk)); (case aO => exact (by (with_reducible repeat (first | apply Kd.R_alloc | apply Kd.R_drewN | apply Kd.R_drew)); exact Kd.R_mono HO112.out (fun _ hk => hk.2))); (case aS => exact (below_size (by repeat (first | (with_reducible first | exact HB.out | apply below_alloc | apply pw_below_drewN | apply below_drew1) | exact HB.out)))); (case aL => have := LMc15.out; omega); intro v118 w23 ho hb hg hat; rw [← Ny117.out] at ho; have n0_ := Aside0.mk (Kd.R_after (ok := (fun _ => True)) (by (with_reducible repeat (first | apply Kd.R_alloc | apply Kd.R_drewN | apply Kd.R_drew)); exact HO_3.out) hg hat); have n1_ := Aside0.mk (hb); have n2_ := Aside0.mk ((show Kd.C Kd.string w23 (some ad108) y113.length y113 from by rw [Ny113.out]; exact Kd.C_take (m := (x5_2 : Int).toNat) ((Kd.R_reads' (Kd.R_after (ok := (fun _ => True)) (by (with_reducible repeat (first | apply Kd.R_alloc | apply Kd.R_drewN | apply Kd.R_drew)); exact HO_3.out) hg hat)).2.2) KL22.out)); have n3_ := Aside0.mk (ho); clear HO_3; clear HB; clear HR116; clear HO112; have HO_3 := n0_; have HB := n1_; have HR116 := n2_; have HO119 := n3_; clear n0_ n1_ n2_ n3_; clear ho hb hg hat; have p120 : 0 ≤ (x4_1 : Int) := of_decide_eq_true (by first | (with_reducible assumption) | assumption); have q120 : x4_1 < (l0.length : Int) := of_decide_eq_true (by first | (with_reducible assumption) | assumption); obtain ⟨ad120, e120, hx120_0⟩ := Kd.at_string HR0.out x4_1 p120 q120; obtain rfl : ad106 = ad120 := (by injection e120); replace hx120_0 := (HB.out.cell (World.block_lt_of_cell? w _ hx120_0)).trans hx120_0; replace p120 := eq_true p120; replace q120 := eq_true q120) | ((with_reducible refine gate_builtin (b := .append) (xs := #[.tmp 41, .tmp 46]) rfl ?_); at_builtin; refine Kd.R_append Kd.string (w0 := w) w.heap.size rfl (.tmp 41) (.tmp 46) 27 9 (.string ⟨#[]⟩) 16 rfl Try.underlying27 info9 rfl (by decide) (by omega) v118 y117 (rdOf ByteArray.empty l0 x4_1) [.string (rdOf ByteArray.empty l0 x4_1)] (fun k_ => some k_ ≠ (.slice (some ad108) x3_1.length co7 : Value).ownBlock) (fun _ => False) rfl rfl ?aP (fun _ hk => hk.elim) ?aF ?aO ?aB ?aS ?aL ?_; (case aP => exact rfl); (case aB => exact (by repeat (first | (with_reducible first | exact HB.out | apply below_alloc | apply pw_below_drewN | apply below_drew1) | exact HB.out))); (case aF => exact (fun k_ hk => Kd.fresh' (Kd.R_lt (by (with_reducible repeat (first | apply Kd.R_alloc | apply Kd.R_drewN | apply Kd.R_drew)); exact HO_3.out)) k_ hk)); (case aO => exact (by (with_reducible repeat (first | apply Kd.R_alloc | apply Kd.R_drewN | apply Kd.R_drew)); exact HO119.out)); (case aS => exact (below_size (by repeat (first | (with_reducible first | exact HB.out | apply below_alloc | apply pw_below_drewN | apply below_drew1) | exact HB.out)))); (case aL => have := LMc16.out; omega); intro v122 w24 ho hb hg hat; rw [← Ny121.out] at ho; have n0_ := Aside0.mk (Kd.R_after (ok := (fun _ => True)) (by (with_reducible repeat (first | apply Kd.R_alloc | apply Kd.R_drewN | apply Kd.R_drew)); exact HO_3.out) hg hat); have n1_ := Aside0.mk (hb); have n2_ := Aside0.mk ((show Kd.C Kd.string w24 (some ad108) y113.length y113 from by rw [Ny113.out]; exact Kd.C_take (m := (x5_2 : Int).toNat) ((Kd.R_reads' (Kd.R_after (ok := (fun _ => True)) (by (with_reducible repeat (first | apply Kd.R_alloc | apply Kd.R_drewN | apply Kd.R_drew)); exact HO_3.out) hg hat)).2.2) KL22.out)); have n3_ := Aside0.mk (ho); clear HO_3; clear HB; clear HR116; clear HO119; have HO_3 := n0_; have HB := n1_; have HR116 := n2_; have HO123 := n3_; clear n0_ n1_ n2_ n3_; clear ho hb hg hat; have q25 : (x5_2 : Int) ≤ ((x3_1.length : Int) : Int) := of_decide_eq_true (by first | (with_reducible assumption) | assumption); obtain ⟨i025, hi025, _, hsz25, _⟩ := info_parts info9; have hroom25 : x3_1.length ≤ co7 := (Kd.R_reads' HO_3.out).2.1; have hC25 : Kd.C Kd.string _ (some ad108) x3_1.length x3_1 := (Kd.R_reads' HO_3.out).2.2; have q025 : (0 : Int) ≤ (x5_2 : Int) := of_decide_eq_true (by first | (with_reducible assumption) | assumption); have hcut25 := cut_from (P := Try.prog) 27 9 .i64 Try.underlying27 hi025 1 hsz25 (some ad108) x3_1.length co7 x5_2 q025 q25; have hr25 := Kd.C_drop (m := (x5_2 : Int).toNat) (c := co7) hC25 (by omega) hroom25; obtain ⟨A25, hA25⟩ : ∃ A1, A1 = (if co7 = (x5_2 : Int).toNat then (some ad108) else ((some ad108) : Option Addr).map (·.add ((x5_2 : Int).toNat * 1))) := ⟨_, rfl⟩; obtain ⟨c25, hc25⟩ : ∃ c1, c1 = co7 - (x5_2 : Int).toNat := ⟨_, rfl⟩; have hy25 : y124.length = x3_1.length - (x5_2 : Int).toNat := (by rw [Ny124.out, List.length_drop] <;> omega); rw [show (x3_1).drop (x5_2 : Int).toNat = y124 from Ny124.out.symm] at hr25; replace hr25 : Kd.C Kd.string _ A25 y124.length y124 := (by rw [hA25]; exact hr25); rw [← hy25, ← hA25, ← hc25] at hcut25; have HR127 := Aside0.mk hr25; have HC127 := Aside0.mk (show y124.length ≤ c25 from by rw [hy25, hc25]; exact Nat.sub_le_sub_right hroom25 _); clear hr25 hC25 hroom25 hi025 hsz25 hc25; have KY25 := Aside0.mk hy25; have KA25 := Aside0.mk hA25; clear hy25 hA25; have KL25 := Aside0.mk (show (x5_2 : Int).toNat ≤ x3_1.length from by omega); replace q25 := eq_true q25) | ((with_reducible refine gate_builtin (b := .append) (xs := #[.tmp 48, .tmp 51]) rfl ?_); at_builtin; refine Kd.R_append_rows Kd.string (w0 := w) w.heap.size rfl (.tmp 48) (.tmp 51) 27 9 (.string ⟨#[]⟩) 16 rfl Try.underlying27 info9 rfl (by decide) (by omega) v122 y121 y124 _ _ _ (fun k_ => some k_ ≠ (.slice (some ad108) x3_1.length co7 : Value).ownBlock) (fun _ => False) rfl rfl ?aO ?aR (fun _ _ h => h) (fun _ h => h.elim) ?aF ?aB ?aS ?aL ?_; (case aR => repeat (first | exact (by repeat (first | (with_reducible exact HR127.out) | (with_reducible refine Kd.C_alloc ?_ _) | (with_reducible refine Kd.C_drewN ?_ _) | (with_reducible refine Kd.C_drew ?_) | exact HR127.out)) | (with_reducible refine Kd.C_alloc ?_ _) | (with_reducible refine Kd.C_drewN ?_ _) | (with_reducible refine Kd.C_drew ?_))); (case aB => exact (by repeat (first | (with_reducible first | exact HB.out | apply below_alloc | apply pw_below_drewN | apply below_drew1) | exact HB.out))); (case aF => exact (fun k_ hk => Kd.fresh' (Kd.R_lt (by (with_reducible repeat (first | apply Kd.R_alloc | apply Kd.R_drewN | apply Kd.R_drew)); exact HO_3.out)) k_ hk)); (case aO => exact (by (with_reducible repeat (first | apply Kd.R_alloc | apply Kd.R_drewN | apply Kd.R_drew)); exact HO123.out)); (case aS => exact (below_size (by repeat (first | (with_reducible first | exact HB.out | apply below_alloc | apply pw_below_drewN | apply below_drew1) | exact HB.out)))); (case aL => have := LMc19.out; omega); intro v129 w26 ho hb hg hat; rw [← Ny128.out] at ho; have n0_ := Aside0.mk (Kd.R_after (ok := (fun _ => True)) (by (with_reducible repeat (first | apply Kd.R_alloc | apply Kd.R_drewN | apply Kd.R_drew)); exact HO_3.out) hg hat); have n1_ := Aside0.mk (hb); have n2_ := Aside0.mk ((show Kd.C Kd.string w26 (some ad108) y113.length y113 from by rw [Ny113.out]; exact Kd.C_take (m := (x5_2 : Int).toNat) ((Kd.R_reads' (Kd.R_after (ok := (fun _ => True)) (by (with_reducible repeat (first | apply Kd.R_alloc | apply Kd.R_drewN | apply Kd.R_drew)); exact HO_3.out) hg hat)).2.2) KL22.out)); have n3_ := Aside0.mk ((show Kd.C Kd.string w26 A25 y124.length y124 from by rw [Ny124.out, KA25.out]; exact Kd.C_drop (m := (x5_2 : Int).toNat) (c := co7) ((Kd.R_reads' (Kd.R_after (ok := (fun _ => True)) (by (with_reducible repeat (first | apply Kd.R_alloc | apply Kd.R_drewN | apply Kd.R_drew)); exact HO_3.out) hg hat)).2.2) KL25.out ((Kd.R_reads' (Kd.R_after (ok := (fun _ => True)) (by (with_reducible repeat (first | apply Kd.R_alloc | apply Kd.R_drewN | apply Kd.R_drew)); exact HO_3.out) hg hat)).2.1))); have n4_ := Aside0.mk (ho); clear HO_3; clear HB; clear HR116; clear HR127; clear HO123; have HO_3 := n0_; have HB := n1_; have HR116 := n2_; have HR127 := n3_; have HO130 := n4_; clear n0_ n1_ n2_ n3_ n4_; clear ho hb hg hat)))
                                  go_roundg k2
                                  case measure => have := HK1.out; have := HK2.out; omega
                                  case rel => exact ⟨(y128), (wrap64 (x4_1 + 1)), (by first | rfl | (simp; done) | (simp [*]; done)), H', ⟨by have := HK1.out; have := HK2.out; omega⟩, ⟨by (with_reducible repeat (first | apply Kd.R_alloc | apply Kd.R_drewN | apply Kd.R_drew)); exact Kd.R_mono HO130.out (fun _ hk => trivial)⟩, ⟨by repeat (first | (with_reducible first | exact HB.out | apply below_alloc | apply pw_below_drewN | apply below_drew1) | exact HB.out)⟩⟩
                                · rw [if_neg c19] at H
                                  exact absurd H (by simp)
                              · rw [if_neg c16] at H
                                exact absurd H (by simp)
                            · rw [if_neg c15] at H
                              exact absurd H (by simp)
                          · rw [if_neg c14] at H
                            exact absurd H (by simp)
                      · rw [if_neg c11] at H
                        exact absurd H (by simp)
                    · rw [if_neg c10] at H
                      exact absurd H (by simp)
                  · rw [if_neg c9] at H
                    exact absurd H (by simp)
                · rw [if_neg c8] at H
                  have c8b0 : decide (x5_2 < (x3_1.length : Int)) = false := decide_eq_false c8
                  clear c8
                  obtain ⟨y131, hy131⟩ : ∃ y_ : List ByteArray, y_ = (([] : List ByteArray)) := ⟨_, rfl⟩
                  replace H : (if 0 ≤ x5_2 then (if x5_2 ≤ (x3_1.length : Int) then ((some (x3_1.take (x5_2 : Int).toNat : List ByteArray)).bind fun y134 => (if y131.length + y134.length < 8796093022208 then ((some (y131 ++ y134 : List ByteArray)).bind fun y138 => (if 0 ≤ x4_1 then (if x4_1 < (l0.length : Int) then (if y138.length < 8796093022208 then ((some (y138 ++ [rdOf ByteArray.empty l0 x4_1] : List ByteArray)).bind fun y142 => ((some (x3_1.drop (x5_2 : Int).toNat : List ByteArray)).bind fun y145 => (if y142.length + y145.length < 8796093022208 then (spec_Keys_string.l0 k2 l0 (y142 ++ y145) (wrap64 (x4_1 + 1))) else (none)))) else (none)) else (none)) else (none))) else (none))) else (none)) else (none)) = some r := by first | (rw [hy131]; with_reducible exact H) | (have H2_ := (Option.bind_some _ _).symm.trans H; rw [hy131]; with_reducible exact H2_) | (have H2_ := (Option.bind_some _ _).symm.trans H; with_reducible exact H2_) | with_reducible exact H | (rw [hy131]; exact H) | exact H
                  have Ny131 := Aside0.mk hy131
                  clear hy131
                  by_cases c27 : 0 ≤ x5_2
                  · rw [if_pos c27] at H
                    have c27b0 := eq_true c27
                    have c27b1 : decide (0 ≤ x5_2) = true := decide_eq_true c27
                    clear c27
                    by_cases c28 : x5_2 ≤ (x3_1.length : Int)
                    · rw [if_pos c28] at H
                      have c28b0 := eq_true c28
                      have c28b1 : decide (x5_2 ≤ (x3_1.length : Int)) = true := decide_eq_true c28
                      clear c28
                      obtain ⟨y134, hy134⟩ : ∃ y_ : List ByteArray, y_ = (x3_1.take (x5_2 : Int).toNat) := ⟨_, rfl⟩
                      replace H : (if y131.length + y134.length < 8796093022208 then ((some (y131 ++ y134 : List ByteArray)).bind fun y138 => (if 0 ≤ x4_1 then (if x4_1 < (l0.length : Int) then (if y138.length < 8796093022208 then ((some (y138 ++ [rdOf ByteArray.empty l0 x4_1] : List ByteArray)).bind fun y142 => ((some (x3_1.drop (x5_2 : Int).toNat : List ByteArray)).bind fun y145 => (if y142.length + y145.length < 8796093022208 then (spec_Keys_string.l0 k2 l0 (y142 ++ y145) (wrap64 (x4_1 + 1))) else (none)))) else (none)) else (none)) else (none))) else (none)) = some r := by first | (rw [hy134]; with_reducible exact H) | (have H2_ := (Option.bind_some _ _).symm.trans H; rw [hy134]; with_reducible exact H2_) | (have H2_ := (Option.bind_some _ _).symm.trans H; with_reducible exact H2_) | with_reducible exact H | (rw [hy134]; exact H) | exact H
                      have Ny134 := Aside0.mk hy134
                      clear hy134
                      by_cases c29 : y131.length + y134.length < 8796093022208
                      · rw [if_pos c29] at H
                        have LMc29 := Aside0.mk c29
                        clear c29
                        obtain ⟨y138, hy138⟩ : ∃ y_ : List ByteArray, y_ = (y131 ++ y134) := ⟨_, rfl⟩
                        replace H : (if 0 ≤ x4_1 then (if x4_1 < (l0.length : Int) then (if y138.length < 8796093022208 then ((some (y138 ++ [rdOf ByteArray.empty l0 x4_1] : List ByteArray)).bind fun y142 => ((some (x3_1.drop (x5_2 : Int).toNat : List ByteArray)).bind fun y145 => (if y142.length + y145.length < 8796093022208 then (spec_Keys_string.l0 k2 l0 (y142 ++ y145) (wrap64 (x4_1 + 1))) else (none)))) else (none)) else (none)) else (none)) = some r := by first | (rw [hy138]; with_reducible exact H) | (have H2_ := (Option.bind_some _ _).symm.trans H; rw [hy138]; with_reducible exact H2_) | (have H2_ := (Option.bind_some _ _).symm.trans H; with_reducible exact H2_) | with_reducible exact H | (rw [hy138]; exact H) | exact H
                        have Ny138 := Aside0.mk hy138
                        clear hy138
                        by_cases c30 : 0 ≤ x4_1
                        · rw [if_pos c30] at H
                          have c30b0 : decide (0 ≤ x4_1) = true := decide_eq_true c30
                          clear c30
                          by_cases c31 : x4_1 < (l0.length : Int)
                          · rw [if_pos c31] at H
                            have c31b0 : decide (x4_1 < (l0.length : Int)) = true := decide_eq_true c31
                            clear c31
                            by_cases c32 : y138.length < 8796093022208
                            · rw [if_pos c32] at H
                              have LMc32 := Aside0.mk c32
                              clear c32
                              obtain ⟨y142, hy142⟩ : ∃ y_ : List ByteArray, y_ = (y138 ++ [rdOf ByteArray.empty l0 x4_1]) := ⟨_, rfl⟩
                              replace H : ((some (x3_1.drop (x5_2 : Int).toNat : List ByteArray)).bind fun y145 => (if y142.length + y145.length < 8796093022208 then (spec_Keys_string.l0 k2 l0 (y142 ++ y145) (wrap64 (x4_1 + 1))) else (none))) = some r := by first | (rw [hy142]; with_reducible exact H) | (have H2_ := (Option.bind_some _ _).symm.trans H; rw [hy142]; with_reducible exact H2_) | (have H2_ := (Option.bind_some _ _).symm.trans H; with_reducible exact H2_) | with_reducible exact H | (rw [hy142]; exact H) | exact H
                              have Ny142 := Aside0.mk hy142
                              clear hy142
                              have c33b0 := eq_true (of_decide_eq_true (by first | (with_reducible assumption) | assumption) : 0 ≤ x5_2)
                              have c34b0 := eq_true (of_decide_eq_true (by first | (with_reducible assumption) | assumption) : x5_2 ≤ (x3_1.length : Int))
                              obtain ⟨y145, hy145⟩ : ∃ y_ : List ByteArray, y_ = (x3_1.drop (x5_2 : Int).toNat) := ⟨_, rfl⟩
                              replace H : (if y142.length + y145.length < 8796093022208 then (spec_Keys_string.l0 k2 l0 (y142 ++ y145) (wrap64 (x4_1 + 1))) else (none)) = some r := by first | (rw [hy145]; with_reducible exact H) | (have H2_ := (Option.bind_some _ _).symm.trans H; rw [hy145]; with_reducible exact H2_) | (have H2_ := (Option.bind_some _ _).symm.trans H; with_reducible exact H2_) | with_reducible exact H | (rw [hy145]; exact H) | exact H
                              have Ny145 := Aside0.mk hy145
                              clear hy145
                              by_cases c35 : y142.length + y145.length < 8796093022208
                              · rw [if_pos c35] at H
                                have LMc35 := Aside0.mk c35
                                clear c35
                                obtain ⟨y149, hy149⟩ : ∃ y_ : List ByteArray, y_ = (y142 ++ y145) := ⟨_, rfl⟩
                                replace H : (spec_Keys_string.l0 k2 l0 y149 (wrap64 (x4_1 + 1))) = some r := by first | (rw [hy149]; with_reducible exact H) | (have H2_ := (Option.bind_some _ _).symm.trans H; rw [hy149]; with_reducible exact H2_) | (have H2_ := (Option.bind_some _ _).symm.trans H; with_reducible exact H2_) | with_reducible exact H | (rw [hy149]; exact H) | exact H
                                have Ny149 := Aside0.mk hy149
                                clear hy149
                                have H' := Aside0.mk H
                                clear H
                                go_wp2_with (first | ((with_reducible refine gate_dst (N := 36) rfl ?_); refine Kd.R_lit Kd.string _ 9 ?hg (N := 36) ?hd (xs := ([] : List ByteArray)) (inner := []) (ok := fun _ => True) (okp := fun _ => True) ?hr ?hp (fun _ hk => hk) trivial (Below.refl _ _) (Nat.le_refl _) (by simp) ?_; (case hd => rfl); (case hg => rfl); (case hr => first | (go_simp; done) | (go_simp; rfl)); (case hp => exact (Reps.none _ _)); intro v132 w36 ho37 hb hg_ hnew_; clear hg_ hnew_; (first | rw [← Ny131.out] at ho37 | (simp only [Int.reduceToNat] at ho37; rw [← Ny131.out] at ho37)); have n0_ := Aside0.mk (Kd.R_elder' (by (with_reducible repeat (first | apply Kd.R_alloc | apply Kd.R_drewN | apply Kd.R_drew)); exact HO_3.out) (Kd.R_base ho37) hb); have n1_ := Aside0.mk (Kd.R_lower (Kd.R_new' ho37 (Kd.R_lt (by (with_reducible repeat (first | apply Kd.R_alloc | apply Kd.R_drewN | apply Kd.R_drew)); exact HO_3.out))) (below_size (by repeat (first | (with_reducible first | exact HB.out | apply below_alloc | apply pw_below_drewN | apply below_drew1) | exact HB.out)))); have n2_ := Aside0.mk (below_step (by repeat (first | (with_reducible first | exact HB.out | apply below_alloc | apply pw_below_drewN | apply below_drew1) | exact HB.out)) hb); clear HO_3; clear HB; have HO_3 := n0_; have HO133 := n1_; have HB := n2_; clear n0_ n1_ n2_; clear hb ho37; have q38 : (x5_2 : Int) ≤ ((x3_1.length : Int) : Int) := of_decide_eq_true (by first | (with_reducible assumption) | assumption); obtain ⟨i038, hi038, _, hsz38, _⟩ := info_parts info9; have hroom38 : x3_1.length ≤ co7 := (Kd.R_reads' HO_3.out).2.1; have hC38 : Kd.C Kd.string _ Ao7 x3_1.length x3_1 := (Kd.R_reads' HO_3.out).2.2; have hcut38 := cut_to (P := Try.prog) 27 9 .i64 Try.underlying27 hi038 Ao7 x3_1.length co7 x5_2 (of_decide_eq_true (by first | (with_reducible assumption) | assumption)) q38 hroom38; have hr38 := Kd.C_take (m := (x5_2 : Int).toNat) hC38 (by omega); have hy38 : y134.length = (x5_2 : Int).toNat := (by rw [Ny134.out, List.length_take]; omega); rw [← Ny134.out] at hr38; rw [← hy38] at hcut38; have HR137 := Aside0.mk hr38; have HC137 := Aside0.mk (show y134.length ≤ co7 from by omega); clear hr38 hC38 hroom38 hi038 hsz38; have KY38 := Aside0.mk hy38; clear hy38; have KL38 := Aside0.mk (show (x5_2 : Int).toNat ≤ x3_1.length from by omega); replace q38 := eq_true q38) | ((with_reducible refine gate_builtin (b := .append) (xs := #[.tmp 36, .tmp 39]) rfl ?_); at_builtin; refine Kd.R_append_rows Kd.string (w0 := w) w.heap.size rfl (.tmp 36) (.tmp 39) 27 9 (.string ⟨#[]⟩) 16 rfl Try.underlying27 info9 rfl (by decide) (by omega) v132 y131 y134 _ _ _ (fun k_ => some k_ ≠ (.slice Ao7 x3_1.length co7 : Value).ownBlock) (fun _ => False) rfl rfl ?aO ?aR (fun _ _ h => h) (fun _ h => h.elim) ?aF ?aB ?aS ?aL ?_; (case aR => repeat (first | exact (by repeat (first | (with_reducible exact HR137.out) | (with_reducible refine Kd.C_alloc ?_ _) | (with_reducible refine Kd.C_drewN ?_ _) | (with_reducible refine Kd.C_drew ?_) | exact HR137.out)) | (with_reducible refine Kd.C_alloc ?_ _) | (with_reducible refine Kd.C_drewN ?_ _) | (with_reducible refine Kd.C_drew ?_))); (case aB => exact (by repeat (first | (with_reducible first | exact HB.out | apply below_alloc | apply pw_below_drewN | apply below_drew1) | exact HB.out))); (case aF => exact (fun k_ hk => Kd.fresh' (Kd.R_lt (by (with_reducible repeat (first | apply Kd.R_alloc | apply Kd.R_drewN | apply Kd.R_drew)); exact HO_3.out)) k_ hk)); (case aO => exact (by (with_reducible repeat (first | apply Kd.R_alloc | apply Kd.R_drewN | apply Kd.R_drew)); exact Kd.R_mono HO133.out (fun _ hk => hk.2))); (case aS => exact (below_size (by repeat (first | (with_reducible first | exact HB.out | apply below_alloc | apply pw_below_drewN | apply below_drew1) | exact HB.out)))); (case aL => have := LMc29.out; omega); intro v139 w39 ho hb hg hat; rw [← Ny138.out] at ho; have n0_ := Aside0.mk (Kd.R_after (ok := (fun _ => True)) (by (with_reducible repeat (first | apply Kd.R_alloc | apply Kd.R_drewN | apply Kd.R_drew)); exact HO_3.out) hg hat); have n1_ := Aside0.mk (hb); have n2_ := Aside0.mk ((show Kd.C Kd.string w39 Ao7 y134.length y134 from by rw [Ny134.out]; exact Kd.C_take (m := (x5_2 : Int).toNat) ((Kd.R_reads' (Kd.R_after (ok := (fun _ => True)) (by (with_reducible repeat (first | apply Kd.R_alloc | apply Kd.R_drewN | apply Kd.R_drew)); exact HO_3.out) hg hat)).2.2) KL38.out)); have n3_ := Aside0.mk (ho); clear HO_3; clear HB; clear HR137; clear HO133; have HO_3 := n0_; have HB := n1_; have HR137 := n2_; have HO140 := n3_; clear n0_ n1_ n2_ n3_; clear ho hb hg hat; have p141 : 0 ≤ (x4_1 : Int) := of_decide_eq_true (by first | (with_reducible assumption) | assumption); have q141 : x4_1 < (l0.length : Int) := of_decide_eq_true (by first | (with_reducible assumption) | assumption); obtain ⟨ad141, e141, hx141_0⟩ := Kd.at_string HR0.out x4_1 p141 q141; obtain rfl : ad106 = ad141 := (by injection e141); replace hx141_0 := (HB.out.cell (World.block_lt_of_cell? w _ hx141_0)).trans hx141_0; replace p141 := eq_true p141; replace q141 := eq_true q141) | ((with_reducible refine gate_builtin (b := .append) (xs := #[.tmp 41, .tmp 46]) rfl ?_); at_builtin; refine Kd.R_append Kd.string (w0 := w) w.heap.size rfl (.tmp 41) (.tmp 46) 27 9 (.string ⟨#[]⟩) 16 rfl Try.underlying27 info9 rfl (by decide) (by omega) v139 y138 (rdOf ByteArray.empty l0 x4_1) [.string (rdOf ByteArray.empty l0 x4_1)] (fun k_ => some k_ ≠ (.slice Ao7 x3_1.length co7 : Value).ownBlock) (fun _ => False) rfl rfl ?aP (fun _ hk => hk.elim) ?aF ?aO ?aB ?aS ?aL ?_; (case aP => exact rfl); (case aB => exact (by repeat (first | (with_reducible first | exact HB.out | apply below_alloc | apply pw_below_drewN | apply below_drew1) | exact HB.out))); (case aF => exact (fun k_ hk => Kd.fresh' (Kd.R_lt (by (with_reducible repeat (first | apply Kd.R_alloc | apply Kd.R_drewN | apply Kd.R_drew)); exact HO_3.out)) k_ hk)); (case aO => exact (by (with_reducible repeat (first | apply Kd.R_alloc | apply Kd.R_drewN | apply Kd.R_drew)); exact HO140.out)); (case aS => exact (below_size (by repeat (first | (with_reducible first | exact HB.out | apply below_alloc | apply pw_below_drewN | apply below_drew1) | exact HB.out)))); (case aL => have := LMc32.out; omega); intro v143 w40 ho hb hg hat; rw [← Ny142.out] at ho; have n0_ := Aside0.mk (Kd.R_after (ok := (fun _ => True)) (by (with_reducible repeat (first | apply Kd.R_alloc | apply Kd.R_drewN | apply Kd.R_drew)); exact HO_3.out) hg hat); have n1_ := Aside0.mk (hb); have n2_ := Aside0.mk ((show Kd.C Kd.string w40 Ao7 y134.length y134 from by rw [Ny134.out]; exact Kd.C_take (m := (x5_2 : Int).toNat) ((Kd.R_reads' (Kd.R_after (ok := (fun _ => True)) (by (with_reducible repeat (first | apply Kd.R_alloc | apply Kd.R_drewN | apply Kd.R_drew)); exact HO_3.out) hg hat)).2.2) KL38.out)); have n3_ := Aside0.mk (ho); clear HO_3; clear HB; clear HR137; clear HO140; have HO_3 := n0_; have HB := n1_; have HR137 := n2_; have HO144 := n3_; clear n0_ n1_ n2_ n3_; clear ho hb hg hat; have q41 : (x5_2 : Int) ≤ ((x3_1.length : Int) : Int) := of_decide_eq_true (by first | (with_reducible assumption) | assumption); obtain ⟨i041, hi041, _, hsz41, _⟩ := info_parts info9; have hroom41 : x3_1.length ≤ co7 := (Kd.R_reads' HO_3.out).2.1; have hC41 : Kd.C Kd.string _ Ao7 x3_1.length x3_1 := (Kd.R_reads' HO_3.out).2.2; have q041 : (0 : Int) ≤ (x5_2 : Int) := of_decide_eq_true (by first | (with_reducible assumption) | assumption); have hcut41 := cut_from (P := Try.prog) 27 9 .i64 Try.underlying27 hi041 1 hsz41 Ao7 x3_1.length co7 x5_2 q041 q41; have hr41 := Kd.C_drop (m := (x5_2 : Int).toNat) (c := co7) hC41 (by omega) hroom41; obtain ⟨A41, hA41⟩ : ∃ A1, A1 = (if co7 = (x5_2 : Int).toNat then Ao7 else (Ao7 : Option Addr).map (·.add ((x5_2 : Int).toNat * 1))) := ⟨_, rfl⟩; obtain ⟨c41, hc41⟩ : ∃ c1, c1 = co7 - (x5_2 : Int).toNat := ⟨_, rfl⟩; have hy41 : y145.length = x3_1.length - (x5_2 : Int).toNat := (by rw [Ny145.out, List.length_drop] <;> omega); rw [show (x3_1).drop (x5_2 : Int).toNat = y145 from Ny145.out.symm] at hr41; replace hr41 : Kd.C Kd.string _ A41 y145.length y145 := (by rw [hA41]; exact hr41); rw [← hy41, ← hA41, ← hc41] at hcut41; have HR148 := Aside0.mk hr41; have HC148 := Aside0.mk (show y145.length ≤ c41 from by rw [hy41, hc41]; exact Nat.sub_le_sub_right hroom41 _); clear hr41 hC41 hroom41 hi041 hsz41 hc41; have KY41 := Aside0.mk hy41; have KA41 := Aside0.mk hA41; clear hy41 hA41; have KL41 := Aside0.mk (show (x5_2 : Int).toNat ≤ x3_1.length from by omega); replace q41 := eq_true q41) | ((with_reducible refine gate_builtin (b := .append) (xs := #[.tmp 48, .tmp 51]) rfl ?_); at_builtin; refine Kd.R_append_rows Kd.string (w0 := w) w.heap.size rfl (.tmp 48) (.tmp 51) 27 9 (.string ⟨#[]⟩) 16 rfl Try.underlying27 info9 rfl (by decide) (by omega) v143 y142 y145 _ _ _ (fun k_ => some k_ ≠ (.slice Ao7 x3_1.length co7 : Value).ownBlock) (fun _ => False) rfl rfl ?aO ?aR (fun _ _ h => h) (fun _ h => h.elim) ?aF ?aB ?aS ?aL ?_; (case aR => repeat (first | exact (by repeat (first | (with_reducible exact HR148.out) | (with_reducible refine Kd.C_alloc ?_ _) | (with_reducible refine Kd.C_drewN ?_ _) | (with_reducible refine Kd.C_drew ?_) | exact HR148.out)) | (with_reducible refine Kd.C_alloc ?_ _) | (with_reducible refine Kd.C_drewN ?_ _) | (with_reducible refine Kd.C_drew ?_))); (case aB => exact (by repeat (first | (with_reducible first | exact HB.out | apply below_alloc | apply pw_below_drewN | apply below_drew1) | exact HB.out))); (case aF => exact (fun k_ hk => Kd.fresh' (Kd.R_lt (by (with_reducible repeat (first | apply Kd.R_alloc | apply Kd.R_drewN | apply Kd.R_drew)); exact HO_3.out)) k_ hk)); (case aO => exact (by (with_reducible repeat (first | apply Kd.R_alloc | apply Kd.R_drewN | apply Kd.R_drew)); exact HO144.out)); (case aS => exact (below_size (by repeat (first | (with_reducible first | exact HB.out | apply below_alloc | apply pw_below_drewN | apply below_drew1) | exact HB.out)))); (case aL => have := LMc35.out; omega); intro v150 w42 ho hb hg hat; rw [← Ny149.out] at ho; have n0_ := Aside0.mk (Kd.R_after (ok := (fun _ => True)) (by (with_reducible repeat (first | apply Kd.R_alloc | apply Kd.R_drewN | apply Kd.R_drew)); exact HO_3.out) hg hat); have n1_ := Aside0.mk (hb); have n2_ := Aside0.mk ((show Kd.C Kd.string w42 Ao7 y134.length y134 from by rw [Ny134.out]; exact Kd.C_take (m := (x5_2 : Int).toNat) ((Kd.R_reads' (Kd.R_after (ok := (fun _ => True)) (by (with_reducible repeat (first | apply Kd.R_alloc | apply Kd.R_drewN | apply Kd.R_drew)); exact HO_3.out) hg hat)).2.2) KL38.out)); have n3_ := Aside0.mk ((show Kd.C Kd.string w42 A41 y145.length y145 from by rw [Ny145.out, KA41.out]; exact Kd.C_drop (m := (x5_2 : Int).toNat) (c := co7) ((Kd.R_reads' (Kd.R_after (ok := (fun _ => True)) (by (with_reducible repeat (first | apply Kd.R_alloc | apply Kd.R_drewN | apply Kd.R_drew)); exact HO_3.out) hg hat)).2.2) KL41.out ((Kd.R_reads' (Kd.R_after (ok := (fun _ => True)) (by (with_reducible repeat (first | apply Kd.R_alloc | apply Kd.R_drewN | apply Kd.R_drew)); exact HO_3.out) hg hat)).2.1))); have n4_ := Aside0.mk (ho); clear HO_3; clear HB; clear HR137; clear HR148; clear HO144; have HO_3 := n0_; have HB := n1_; have HR137 := n2_; have HR148 := n3_; have HO151 := n4_; clear n0_ n1_ n2_ n3_ n4_; clear ho hb hg hat))
                                repeat (go_quiet (first | ((with_reducible refine gate_dst (N := 36) rfl ?_); refine Kd.R_lit Kd.string _ 9 ?hg (N := 36) ?hd (xs := ([] : List ByteArray)) (inner := []) (ok := fun _ => True) (okp := fun _ => True) ?hr ?hp (fun _ hk => hk) trivial (Below.refl _ _) (Nat.le_refl _) (by simp) ?_; (case hd => rfl); (case hg => rfl); (case hr => first | (go_simp; done) | (go_simp; rfl)); (case hp => exact (Reps.none _ _)); intro v132 w36 ho37 hb hg_ hnew_; clear hg_ hnew_; (first | rw [← Ny131.out] at ho37 | (simp only [Int.reduceToNat] at ho37; rw [← Ny131.out] at ho37)); have n0_ := Aside0.mk (Kd.R_elder' (by (with_reducible repeat (first | apply Kd.R_alloc | apply Kd.R_drewN | apply Kd.R_drew)); exact HO_3.out) (Kd.R_base ho37) hb); have n1_ := Aside0.mk (Kd.R_lower (Kd.R_new' ho37 (Kd.R_lt (by (with_reducible repeat (first | apply Kd.R_alloc | apply Kd.R_drewN | apply Kd.R_drew)); exact HO_3.out))) (below_size (by repeat (first | (with_reducible first | exact HB.out | apply below_alloc | apply pw_below_drewN | apply below_drew1) | exact HB.out)))); have n2_ := Aside0.mk (below_step (by repeat (first | (with_reducible first | exact HB.out | apply below_alloc | apply pw_below_drewN | apply below_drew1) | exact HB.out)) hb); clear HO_3; clear HB; have HO_3 := n0_; have HO133 := n1_; have HB := n2_; clear n0_ n1_ n2_; clear hb ho37; have q38 : (x5_2 : Int) ≤ ((x3_1.length : Int) : Int) := of_decide_eq_true (by first | (with_reducible assumption) | assumption); obtain ⟨i038, hi038, _, hsz38, _⟩ := info_parts info9; have hroom38 : x3_1.length ≤ co7 := (Kd.R_reads' HO_3.out).2.1; have hC38 : Kd.C Kd.string _ Ao7 x3_1.length x3_1 := (Kd.R_reads' HO_3.out).2.2; have hcut38 := cut_to (P := Try.prog) 27 9 .i64 Try.underlying27 hi038 Ao7 x3_1.length co7 x5_2 (of_decide_eq_true (by first | (with_reducible assumption) | assumption)) q38 hroom38; have hr38 := Kd.C_take (m := (x5_2 : Int).toNat) hC38 (by omega); have hy38 : y134.length = (x5_2 : Int).toNat := (by rw [Ny134.out, List.length_take]; omega); rw [← Ny134.out] at hr38; rw [← hy38] at hcut38; have HR137 := Aside0.mk hr38; have HC137 := Aside0.mk (show y134.length ≤ co7 from by omega); clear hr38 hC38 hroom38 hi038 hsz38; have KY38 := Aside0.mk hy38; clear hy38; have KL38 := Aside0.mk (show (x5_2 : Int).toNat ≤ x3_1.length from by omega); replace q38 := eq_true q38) | ((with_reducible refine gate_builtin (b := .append) (xs := #[.tmp 36, .tmp 39]) rfl ?_); at_builtin; refine Kd.R_append_rows Kd.string (w0 := w) w.heap.size rfl (.tmp 36) (.tmp 39) 27 9 (.string ⟨#[]⟩) 16 rfl Try.underlying27 info9 rfl (by decide) (by omega) v132 y131 y134 _ _ _ (fun k_ => some k_ ≠ (.slice Ao7 x3_1.length co7 : Value).ownBlock) (fun _ => False) rfl rfl ?aO ?aR (fun _ _ h => h) (fun _ h => h.elim) ?aF ?aB ?aS ?aL ?_; (case aR => repeat (first | exact (by repeat (first | (with_reducible exact HR137.out) | (with_reducible refine Kd.C_alloc ?_ _) | (with_reducible refine Kd.C_drewN ?_ _) | (with_reducible refine Kd.C_drew ?_) | exact HR137.out)) | (with_reducible refine Kd.C_alloc ?_ _) | (with_reducible refine Kd.C_drewN ?_ _) | (with_reducible refine Kd.C_drew ?_))); (case aB => exact (by repeat (first | (with_reducible first | exact HB.out | apply below_alloc | apply pw_below_drewN | apply below_drew1) | exact HB.out))); (case aF => exact (fun k_ hk => Kd.fresh' (Kd.R_lt (by (with_reducible repeat (first | apply Kd.R_alloc | apply Kd.R_drewN | apply Kd.R_drew)); exact HO_3.out)) k_ hk)); (case aO => exact (by (with_reducible repeat (first | apply Kd.R_alloc | apply Kd.R_drewN | apply Kd.R_drew)); exact Kd.R_mono HO133.out (fun _ hk => hk.2))); (case aS => exact (below_size (by repeat (first | (with_reducible first | exact HB.out | apply below_alloc | apply pw_below_drewN | apply below_drew1) | exact HB.out)))); (case aL => have := LMc29.out; omega); intro v139 w39 ho hb hg hat; rw [← Ny138.out] at ho; have n0_ := Aside0.mk (Kd.R_after (ok := (fun _ => True)) (by (with_reducible repeat (first | apply Kd.R_alloc | apply Kd.R_drewN | apply Kd.R_drew)); exact HO_3.out) hg hat); have n1_ := Aside0.mk (hb); have n2_ := Aside0.mk ((show Kd.C Kd.string w39 Ao7 y134.length y134 from by rw [Ny134.out]; exact Kd.C_take (m := (x5_2 : Int).toNat) ((Kd.R_reads' (Kd.R_after (ok := (fun _ => True)) (by (with_reducible repeat (first | apply Kd.R_alloc | apply Kd.R_drewN | apply Kd.R_drew)); exact HO_3.out) hg hat)).2.2) KL38.out)); have n3_ := Aside0.mk (ho); clear HO_3; clear HB; clear HR137; clear HO133; have HO_3 := n0_; have HB := n1_; have HR137 := n2_; have HO140 := n3_; clear n0_ n1_ n2_ n3_; clear ho hb hg hat; have p141 : 0 ≤ (x4_1 : Int) := of_decide_eq_true (by first | (with_reducible assumption) | assumption); have q141 : x4_1 < (l0.length : Int) := of_decide_eq_true (by first | (with_reducible assumption) | assumption); obtain ⟨ad141, e141, hx141_0⟩ := Kd.at_string HR0.out x4_1 p141 q141; obtain rfl : ad106 = ad141 := (by injection e141); replace hx141_0 := (HB.out.cell (World.block_lt_of_cell? w _ hx141_0)).trans hx141_0; replace p141 := eq_true p141; replace q141 := eq_true q141) | ((with_reducible refine gate_builtin (b := .append) (xs := #[.tmp 41, .tmp 46]) rfl ?_); at_builtin; refine Kd.R_append Kd.string (w0 := w) w.heap.size rfl (.tmp 41) (.tmp 46) 27 9 (.string ⟨#[]⟩) 16 rfl Try.underlying27 info9 rfl (by decide) (by omega) v139 y138 (rdOf ByteArray.empty l0 x4_1) [.string (rdOf ByteArray.empty l0 x4_1)] (fun k_ => some k_ ≠ (.slice Ao7 x3_1.length co7 : Value).ownBlock) (fun _ => False) rfl rfl ?aP (fun _ hk => hk.elim) ?aF ?aO ?aB ?aS ?aL ?_; (case aP => exact rfl); (case aB => exact (by repeat (first | (with_reducible first | exact HB.out | apply below_alloc | apply pw_below_drewN | apply below_drew1) | exact HB.out))); (case aF => exact (fun k_ hk => Kd.fresh' (Kd.R_lt (by (with_reducible repeat (first | apply Kd.R_alloc | apply Kd.R_drewN | apply Kd.R_drew)); exact HO_3.out)) k_ hk)); (case aO => exact (by (with_reducible repeat (first | apply Kd.R_alloc | apply Kd.R_drewN | apply Kd.R_drew)); exact HO140.out)); (case aS => exact (below_size (by repeat (first | (with_reducible first | exact HB.out | apply below_alloc | apply pw_below_drewN | apply below_drew1) | exact HB.out)))); (case aL => have := LMc32.out; omega); intro v143 w40 ho hb hg hat; rw [← Ny142.out] at ho; have n0_ := Aside0.mk (Kd.R_after (ok := (fun _ => True)) (by (with_reducible repeat (first | apply Kd.R_alloc | apply Kd.R_drewN | apply Kd.R_drew)); exact HO_3.out) hg hat); have n1_ := Aside0.mk (hb); have n2_ := Aside0.mk ((show Kd.C Kd.string w40 Ao7 y134.length y134 from by rw [Ny134.out]; exact Kd.C_take (m := (x5_2 : Int).toNat) ((Kd.R_reads' (Kd.R_after (ok := (fun _ => True)) (by (with_reducible repeat (first | apply Kd.R_alloc | apply Kd.R_drewN | apply Kd.R_drew)); exact HO_3.out) hg hat)).2.2) KL38.out)); have n3_ := Aside0.mk (ho); clear HO_3; clear HB; clear HR137; clear HO140; have HO_3 := n0_; have HB := n1_; have HR137 := n2_; have HO144 := n3_; clear n0_ n1_ n2_ n3_; clear ho hb hg hat; have q41 : (x5_2 : Int) ≤ ((x3_1.length : Int) : Int) := of_decide_eq_true (by first | (with_reducible assumption) | assumption); obtain ⟨i041, hi041, _, hsz41, _⟩ := info_parts info9; have hroom41 : x3_1.length ≤ co7 := (Kd.R_reads' HO_3.out).2.1; have hC41 : Kd.C Kd.string _ Ao7 x3_1.length x3_1 := (Kd.R_reads' HO_3.out).2.2; have q041 : (0 : Int) ≤ (x5_2 : Int) := of_decide_eq_true (by first | (with_reducible assumption) | assumption); have hcut41 := cut_from (P := Try.prog) 27 9 .i64 Try.underlying27 hi041 1 hsz41 Ao7 x3_1.length co7 x5_2 q041 q41; have hr41 := Kd.C_drop (m := (x5_2 : Int).toNat) (c := co7) hC41 (by omega) hroom41; obtain ⟨A41, hA41⟩ : ∃ A1, A1 = (if co7 = (x5_2 : Int).toNat then Ao7 else (Ao7 : Option Addr).map (·.add ((x5_2 : Int).toNat * 1))) := ⟨_, rfl⟩; obtain ⟨c41, hc41⟩ : ∃ c1, c1 = co7 - (x5_2 : Int).toNat := ⟨_, rfl⟩; have hy41 : y145.length = x3_1.length - (x5_2 : Int).toNat := (by rw [Ny145.out, List.length_drop] <;> omega); rw [show (x3_1).drop (x5_2 : Int).toNat = y145 from Ny145.out.symm] at hr41; replace hr41 : Kd.C Kd.string _ A41 y145.length y145 := (by rw [hA41]; exact hr41); rw [← hy41, ← hA41, ← hc41] at hcut41; have HR148 := Aside0.mk hr41; have HC148 := Aside0.mk (show y145.length ≤ c41 from by rw [hy41, hc41]; exact Nat.sub_le_sub_right hroom41 _); clear hr41 hC41 hroom41 hi041 hsz41 hc41; have KY41 := Aside0.mk hy41; have KA41 := Aside0.mk hA41; clear hy41 hA41; have KL41 := Aside0.mk (show (x5_2 : Int).toNat ≤ x3_1.length from by omega); replace q41 := eq_true q41) | ((with_reducible refine gate_builtin (b := .append) (xs := #[.tmp 48, .tmp 51]) rfl ?_); at_builtin; refine Kd.R_append_rows Kd.string (w0 := w) w.heap.size rfl (.tmp 48) (.tmp 51) 27 9 (.string ⟨#[]⟩) 16 rfl Try.underlying27 info9 rfl (by decide) (by omega) v143 y142 y145 _ _ _ (fun k_ => some k_ ≠ (.slice Ao7 x3_1.length co7 : Value).ownBlock) (fun _ => False) rfl rfl ?aO ?aR (fun _ _ h => h) (fun _ h => h.elim) ?aF ?aB ?aS ?aL ?_; (case aR => repeat (first | exact (by repeat (first | (with_reducible exact HR148.out) | (with_reducible refine Kd.C_alloc ?_ _) | (with_reducible refine Kd.C_drewN ?_ _) | (with_reducible refine Kd.C_drew ?_) | exact HR148.out)) | (with_reducible refine Kd.C_alloc ?_ _) | (with_reducible refine Kd.C_drewN ?_ _) | (with_reducible refine Kd.C_drew ?_))); (case aB => exact (by repeat (first | (with_reducible first | exact HB.out | apply below_alloc | apply pw_below_drewN | apply below_drew1) | exact HB.out))); (case aF => exact (fun k_ hk => Kd.fresh' (Kd.R_lt (by (with_reducible repeat (first | apply Kd.R_alloc | apply Kd.R_drewN | apply Kd.R_drew)); exact HO_3.out)) k_ hk)); (case aO => exact (by (with_reducible repeat (first | apply Kd.R_alloc | apply Kd.R_drewN | apply Kd.R_drew)); exact HO144.out)); (case aS => exact (below_size (by repeat (first | (with_reducible first | exact HB.out | apply below_alloc | apply pw_below_drewN | apply below_drew1) | exact HB.out)))); (case aL => have := LMc35.out; omega); intro v150 w42 ho hb hg hat; rw [← Ny149.out] at ho; have n0_ := Aside0.mk (Kd.R_after (ok := (fun _ => True)) (by (with_reducible repeat (first | apply Kd.R_alloc | apply Kd.R_drewN | apply Kd.R_drew)); exact HO_3.out) hg hat); have n1_ := Aside0.mk (hb); have n2_ := Aside0.mk ((show Kd.C Kd.string w42 Ao7 y134.length y134 from by rw [Ny134.out]; exact Kd.C_take (m := (x5_2 : Int).toNat) ((Kd.R_reads' (Kd.R_after (ok := (fun _ => True)) (by (with_reducible repeat (first | apply Kd.R_alloc | apply Kd.R_drewN | apply Kd.R_drew)); exact HO_3.out) hg hat)).2.2) KL38.out)); have n3_ := Aside0.mk ((show Kd.C Kd.string w42 A41 y145.length y145 from by rw [Ny145.out, KA41.out]; exact Kd.C_drop (m := (x5_2 : Int).toNat) (c := co7) ((Kd.R_reads' (Kd.R_after (ok := (fun _ => True)) (by (with_reducible repeat (first | apply Kd.R_alloc | apply Kd.R_drewN | apply Kd.R_drew)); exact HO_3.out) hg hat)).2.2) KL41.out ((Kd.R_reads' (Kd.R_after (ok := (fun _ => True)) (by (with_reducible repeat (first | apply Kd.R_alloc | apply Kd.R_drewN | apply Kd.R_drew)); exact HO_3.out) hg hat)).2.1))); have n4_ := Aside0.mk (ho); clear HO_3; clear HB; clear HR137; clear HR148; clear HO144; have HO_3 := n0_; have HB := n1_; have HR137 := n2_; have HR148 := n3_; have HO151 := n4_; clear n0_ n1_ n2_ n3_ n4_; clear ho hb hg hat)); try go_wp2_with (first | ((with_reducible refine gate_dst (N := 36) rfl ?_); refine Kd.R_lit Kd.string _ 9 ?hg (N := 36) ?hd (xs := ([] : List ByteArray)) (inner := []) (ok := fun _ => True) (okp := fun _ => True) ?hr ?hp (fun _ hk => hk) trivial (Below.refl _ _) (Nat.le_refl _) (by simp) ?_; (case hd => rfl); (case hg => rfl); (case hr => first | (go_simp; done) | (go_simp; rfl)); (case hp => exact (Reps.none _ _)); intro v132 w36 ho37 hb hg_ hnew_; clear hg_ hnew_; (first | rw [← Ny131.out] at ho37 | (simp only [Int.reduceToNat] at ho37; rw [← Ny131.out] at ho37)); have n0_ := Aside0.mk (Kd.R_elder' (by (with_reducible repeat (first | apply Kd.R_alloc | apply Kd.R_drewN | apply Kd.R_drew)); exact HO_3.out) (Kd.R_base ho37) hb); have n1_ := Aside0.mk (Kd.R_lower (Kd.R_new' ho37 (Kd.R_lt (by (with_reducible repeat (first | apply Kd.R_alloc | apply Kd.R_drewN | apply Kd.R_drew)); exact HO_3.out))) (below_size (by repeat (first | (with_reducible first | exact HB.out | apply below_alloc | apply pw_below_drewN | apply below_drew1) | exact HB.out)))); have n2_ := Aside0.mk (below_step (by repeat (first | (with_reducible first | exact HB.out | apply below_alloc | apply pw_below_drewN | apply below_drew1) | exact HB.out)) hb); clear HO_3; clear HB; have HO_3 := n0_; have HO133 := n1_; have HB := n2_; clear n0_ n1_ n2_; clear hb ho37; have q38 : (x5_2 : Int) ≤ ((x3_1.length : Int) : Int) := of_decide_eq_true (by first | (with_reducible assumption) | assumption); obtain ⟨i038, hi038, _, hsz38, _⟩ := info_parts info9; have hroom38 : x3_1.length ≤ co7 := (Kd.R_reads' HO_3.out).2.1; have hC38 : Kd.C Kd.string _ Ao7 x3_1.length x3_1 := (Kd.R_reads' HO_3.out).2.2; have hcut38 := cut_to (P := Try.prog) 27 9 .i64 Try.underlying27 hi038 Ao7 x3_1.length co7 x5_2 (of_decide_eq_true (by first | (with_reducible assumption) | assumption)) q38 hroom38; have hr38 := Kd.C_take (m := (x5_2 : Int).toNat) hC38 (by omega); have hy38 : y134.length = (x5_2 : Int).toNat := (by rw [Ny134.out, List.length_take]; omega); rw [← Ny134.out] at hr38; rw [← hy38] at hcut38; have HR137 := Aside0.mk hr38; have HC137 := Aside0.mk (show y134.length ≤ co7 from by omega); clear hr38 hC38 hroom38 hi038 hsz38; have KY38 := Aside0.mk hy38; clear hy38; have KL38 := Aside0.mk (show (x5_2 : Int).toNat ≤ x3_1.length from by omega); replace q38 := eq_true q38) | ((with_reducible refine gate_builtin (b := .append) (xs := #[.tmp 36, .tmp 39]) rfl ?_); at_builtin; refine Kd.R_append_rows Kd.string (w0 := w) w.heap.size rfl (.tmp 36) (.tmp 39) 27 9 (.string ⟨#[]⟩) 16 rfl Try.underlying27 info9 rfl (by decide) (by omega) v132 y131 y134 _ _ _ (fun k_ => some k_ ≠ (.slice Ao7 x3_1.length co7 : Value).ownBlock) (fun _ => False) rfl rfl ?aO ?aR (fun _ _ h => h) (fun _ h => h.elim) ?aF ?aB ?aS ?aL ?_; (case aR => repeat (first | exact (by repeat (first | (with_reducible exact HR137.out) | (with_reducible refine Kd.C_alloc ?_ _) | (with_reducible refine Kd.C_drewN ?_ _) | (with_reducible refine Kd.C_drew ?_) | exact HR137.out)) | (with_reducible refine Kd.C_alloc ?_ _) | (with_reducible refine Kd.C_drewN ?_ _) | (with_reducible refine Kd.C_drew ?_))); (case aB => exact (by repeat (first | (with_reducible first | exact HB.out | apply below_alloc | apply pw_below_drewN | apply below_drew1) | exact HB.out))); (case aF => exact (fun k_ hk => Kd.fresh' (Kd.R_lt (by (with_reducible repeat (first | apply Kd.R_alloc | apply Kd.R_drewN | apply Kd.R_drew)); exact HO_3.out)) k_ hk)); (case aO => exact (by (with_reducible repeat (first | apply Kd.R_alloc | apply Kd.R_drewN | apply Kd.R_drew)); exact Kd.R_mono HO133.out (fun _ hk => hk.2))); (case aS => exact (below_size (by repeat (first | (with_reducible first | exact HB.out | apply below_alloc | apply pw_below_drewN | apply below_drew1) | exact HB.out)))); (case aL => have := LMc29.out; omega); intro v139 w39 ho hb hg hat; rw [← Ny138.out] at ho; have n0_ := Aside0.mk (Kd.R_after (ok := (fun _ => True)) (by (with_reducible repeat (first | apply Kd.R_alloc | apply Kd.R_drewN | apply Kd.R_drew)); exact HO_3.out) hg hat); have n1_ := Aside0.mk (hb); have n2_ := Aside0.mk ((show Kd.C Kd.string w39 Ao7 y134.length y134 from by rw [Ny134.out]; exact Kd.C_take (m := (x5_2 : Int).toNat) ((Kd.R_reads' (Kd.R_after (ok := (fun _ => True)) (by (with_reducible repeat (first | apply Kd.R_alloc | apply Kd.R_drewN | apply Kd.R_drew)); exact HO_3.out) hg hat)).2.2) KL38.out)); have n3_ := Aside0.mk (ho); clear HO_3; clear HB; clear HR137; clear HO133; have HO_3 := n0_; have HB := n1_; have HR137 := n2_; have HO140 := n3_; clear n0_ n1_ n2_ n3_; clear ho hb hg hat; have p141 : 0 ≤ (x4_1 : Int) := of_decide_eq_true (by first | (with_reducible assumption) | assumption); have q141 : x4_1 < (l0.length : Int) := of_decide_eq_true (by first | (with_reducible assumption) | assumption); obtain ⟨ad141, e141, hx141_0⟩ := Kd.at_string HR0.out x4_1 p141 q141; obtain rfl : ad106 = ad141 := (by injection e141); replace hx141_0 := (HB.out.cell (World.block_lt_of_cell? w _ hx141_0)).trans hx141_0; replace p141 := eq_true p141; replace q141 := eq_true q141) | ((with_reducible refine gate_builtin (b := .append) (xs := #[.tmp 41, .tmp 46]) rfl ?_); at_builtin; refine Kd.R_append Kd.string (w0 := w) w.heap.size rfl (.tmp 41) (.tmp 46) 27 9 (.string ⟨#[]⟩) 16 rfl Try.underlying27 info9 rfl (by decide) (by omega) v139 y138 (rdOf ByteArray.empty l0 x4_1) [.string (rdOf ByteArray.empty l0 x4_1)] (fun k_ => some k_ ≠ (.slice Ao7 x3_1.length co7 : Value).ownBlock) (fun _ => False) rfl rfl ?aP (fun _ hk => hk.elim) ?aF ?aO ?aB ?aS ?aL ?_; (case aP => exact rfl); (case aB => exact (by repeat (first | (with_reducible first | exact HB.out | apply below_alloc | apply pw_below_drewN | apply below_drew1) | exact HB.out))); (case aF => exact (fun k_ hk => Kd.fresh' (Kd.R_lt (by (with_reducible repeat (first | apply Kd.R_alloc | apply Kd.R_drewN | apply Kd.R_drew)); exact HO_3.out)) k_ hk)); (case aO => exact (by (with_reducible repeat (first | apply Kd.R_alloc | apply Kd.R_drewN | apply Kd.R_drew)); exact HO140.out)); (case aS => exact (below_size (by repeat (first | (with_reducible first | exact HB.out | apply below_alloc | apply pw_below_drewN | apply below_drew1) | exact HB.out)))); (case aL => have := LMc32.out; omega); intro v143 w40 ho hb hg hat; rw [← Ny142.out] at ho; have n0_ := Aside0.mk (Kd.R_after (ok := (fun _ => True)) (by (with_reducible repeat (first | apply Kd.R_alloc | apply Kd.R_drewN | apply Kd.R_drew)); exact HO_3.out) hg hat); have n1_ := Aside0.mk (hb); have n2_ := Aside0.mk ((show Kd.C Kd.string w40 Ao7 y134.length y134 from by rw [Ny134.out]; exact Kd.C_take (m := (x5_2 : Int).toNat) ((Kd.R_reads' (Kd.R_after (ok := (fun _ => True)) (by (with_reducible repeat (first | apply Kd.R_alloc | apply Kd.R_drewN | apply Kd.R_drew)); exact HO_3.out) hg hat)).2.2) KL38.out)); have n3_ := Aside0.mk (ho); clear HO_3; clear HB; clear HR137; clear HO140; have HO_3 := n0_; have HB := n1_; have HR137 := n2_; have HO144 := n3_; clear n0_ n1_ n2_ n3_; clear ho hb hg hat; have q41 : (x5_2 : Int) ≤ ((x3_1.length : Int) : Int) := of_decide_eq_true (by first | (with_reducible assumption) | assumption); obtain ⟨i041, hi041, _, hsz41, _⟩ := info_parts info9; have hroom41 : x3_1.length ≤ co7 := (Kd.R_reads' HO_3.out).2.1; have hC41 : Kd.C Kd.string _ Ao7 x3_1.length x3_1 := (Kd.R_reads' HO_3.out).2.2; have q041 : (0 : Int) ≤ (x5_2 : Int) := of_decide_eq_true (by first | (with_reducible assumption) | assumption); have hcut41 := cut_from (P := Try.prog) 27 9 .i64 Try.underlying27 hi041 1 hsz41 Ao7 x3_1.length co7 x5_2 q041 q41; have hr41 := Kd.C_drop (m := (x5_2 : Int).toNat) (c := co7) hC41 (by omega) hroom41; obtain ⟨A41, hA41⟩ : ∃ A1, A1 = (if co7 = (x5_2 : Int).toNat then Ao7 else (Ao7 : Option Addr).map (·.add ((x5_2 : Int).toNat * 1))) := ⟨_, rfl⟩; obtain ⟨c41, hc41⟩ : ∃ c1, c1 = co7 - (x5_2 : Int).toNat := ⟨_, rfl⟩; have hy41 : y145.length = x3_1.length - (x5_2 : Int).toNat := (by rw [Ny145.out, List.length_drop] <;> omega); rw [show (x3_1).drop (x5_2 : Int).toNat = y145 from Ny145.out.symm] at hr41; replace hr41 : Kd.C Kd.string _ A41 y145.length y145 := (by rw [hA41]; exact hr41); rw [← hy41, ← hA41, ← hc41] at hcut41; have HR148 := Aside0.mk hr41; have HC148 := Aside0.mk (show y145.length ≤ c41 from by rw [hy41, hc41]; exact Nat.sub_le_sub_right hroom41 _); clear hr41 hC41 hroom41 hi041 hsz41 hc41; have KY41 := Aside0.mk hy41; have KA41 := Aside0.mk hA41; clear hy41 hA41; have KL41 := Aside0.mk (show (x5_2 : Int).toNat ≤ x3_1.length from by omega); replace q41 := eq_true q41) | ((with_reducible refine gate_builtin (b := .append) (xs := #[.tmp 48, .tmp 51]) rfl ?_); at_builtin; refine Kd.R_append_rows Kd.string (w0 := w) w.heap.size rfl (.tmp 48) (.tmp 51) 27 9 (.string ⟨#[]⟩) 16 rfl Try.underlying27 info9 rfl (by decide) (by omega) v143 y142 y145 _ _ _ (fun k_ => some k_ ≠ (.slice Ao7 x3_1.length co7 : Value).ownBlock) (fun _ => False) rfl rfl ?aO ?aR (fun _ _ h => h) (fun _ h => h.elim) ?aF ?aB ?aS ?aL ?_; (case aR => repeat (first | exact (by repeat (first | (with_reducible exact HR148.out) | (with_reducible refine Kd.C_alloc ?_ _) | (with_reducible refine Kd.C_drewN ?_ _) | (with_reducible refine Kd.C_drew ?_) | exact HR148.out)) | (with_reducible refine Kd.C_alloc ?_ _) | (with_reducible refine Kd.C_drewN ?_ _) | (with_reducible refine Kd.C_drew ?_))); (case aB => exact (by repeat (first | (with_reducible first | exact HB.out | apply below_alloc | apply pw_below_drewN | apply below_drew1) | exact HB.out))); (case aF => exact (fun k_ hk => Kd.fresh' (Kd.R_lt (by (with_reducible repeat (first | apply Kd.R_alloc | apply Kd.R_drewN | apply Kd.R_drew)); exact HO_3.out)) k_ hk)); (case aO => exact (by (with_reducible repeat (first | apply Kd.R_alloc | apply Kd.R_drewN | apply Kd.R_drew)); exact HO144.out)); (case aS => exact (below_size (by repeat (first | (with_reducible first | exact HB.out | apply below_alloc | apply pw_below_drewN | apply below_drew1) | exact HB.out)))); (case aL => have := LMc35.out; omega); intro v150 w42 ho hb hg hat; rw [← Ny149.out] at ho; have n0_ := Aside0.mk (Kd.R_after (ok := (fun _ => True)) (by (with_reducible repeat (first | apply Kd.R_alloc | apply Kd.R_drewN | apply Kd.R_drew)); exact HO_3.out) hg hat); have n1_ := Aside0.mk (hb); have n2_ := Aside0.mk ((show Kd.C Kd.string w42 Ao7 y134.length y134 from by rw [Ny134.out]; exact Kd.C_take (m := (x5_2 : Int).toNat) ((Kd.R_reads' (Kd.R_after (ok := (fun _ => True)) (by (with_reducible repeat (first | apply Kd.R_alloc | apply Kd.R_drewN | apply Kd.R_drew)); exact HO_3.out) hg hat)).2.2) KL38.out)); have n3_ := Aside0.mk ((show Kd.C Kd.string w42 A41 y145.length y145 from by rw [Ny145.out, KA41.out]; exact Kd.C_drop (m := (x5_2 : Int).toNat) (c := co7) ((Kd.R_reads' (Kd.R_after (ok := (fun _ => True)) (by (with_reducible repeat (first | apply Kd.R_alloc | apply Kd.R_drewN | apply Kd.R_drew)); exact HO_3.out) hg hat)).2.2) KL41.out ((Kd.R_reads' (Kd.R_after (ok := (fun _ => True)) (by (with_reducible repeat (first | apply Kd.R_alloc | apply Kd.R_drewN | apply Kd.R_drew)); exact HO_3.out) hg hat)).2.1))); have n4_ := Aside0.mk (ho); clear HO_3; clear HB; clear HR137; clear HR148; clear HO144; have HO_3 := n0_; have HB := n1_; have HR137 := n2_; have HR148 := n3_; have HO151 := n4_; clear n0_ n1_ n2_ n3_ n4_; clear ho hb hg hat)))
                                go_roundg k2
                                case measure => have := HK1.out; have := HK2.out; omega
                                case rel => exact ⟨(y149), (wrap64 (x4_1 + 1)), (by first | rfl | (simp; done) | (simp [*]; done)), H', ⟨by have := HK1.out; have := HK2.out; omega⟩, ⟨by (with_reducible repeat (first | apply Kd.R_alloc | apply Kd.R_drewN | apply Kd.R_drew)); exact Kd.R_mono HO151.out (fun _ hk => trivial)⟩, ⟨by repeat (first | (with_reducible first | exact HB.out | apply below_alloc | apply pw_below_drewN | apply below_drew1) | exact HB.out)⟩⟩
                              · rw [if_neg c35] at H
                                exact absurd H (by simp)
                            · rw [if_neg c32] at H
                              exact absurd H (by simp)
                          · rw [if_neg c31] at H
                            exact absurd H (by simp)
                        · rw [if_neg c30] at H
                          exact absurd H (by simp)
                      · rw [if_neg c29] at H
                        exact absurd H (by simp)
                    · rw [if_neg c28] at H
                      exact absurd H (by simp)
                  · rw [if_neg c27] at H
                    exact absurd H (by simp)
        · rw [if_neg c3] at H
          exact absurd H (by simp)
      · rw [if_neg c2] at H
        have c2b0 : decide (x4_1 < (l0.length : Int)) = false := decide_eq_false c2
        clear c2
        obtain rfl := Option.some.inj H
        go_wp2
        repeat (go_quiet (fail); try go_wp2)
        go_ret
        exact ⟨_, by first | rfl | (simp [errW_none, errW_some] <;> rfl) | (simp [*, errW_none, errW_some] <;> rfl), by (with_reducible repeat (first | apply Kd.R_alloc | apply Kd.R_drewN | apply Kd.R_drew)); exact HO_3.out, by repeat (first | (with_reducible first | exact HB.out | apply below_alloc | apply pw_below_drewN | apply below_drew1) | exact HB.out)⟩

/-! ### spec_Find: function 22 -/
def spec_Find.l0 : Nat → List (S44) → ByteArray → Int → Option (ByteArray × Bool)
  | 0, _, _, _ => none
  | k + 1, x0, x1, x6 => if x6 ≥ 0 then (if 0 ≤ x6 then (if x6 < (x0.length : Int) then (if ((rd_T44 x0 x6).f0).toList = x1.toList then (some ((rd_T44 x0 x6).f1, true)) else (spec_Find.l0 k x0 x1 (wrap64 (x6 - 1)))) else (none)) else (none)) else (some ((⟨#[]⟩ : ByteArray), false))
def spec_Find.f (k : Nat) (l0 : List (S44)) (a1 : ByteArray) : Option (ByteArray × Bool) := spec_Find.l0 k l0 a1 (wrap64 ((l0.length : Int) - 1))
theorem spec_Find.mono_l : ∀ k, (∀ y0 y1 y2, LeO (spec_Find.l0 k y0 y1 y2) (spec_Find.l0 (k + 1) y0 y1 y2))
  | 0 => fun _ _ _ r h => by simp [spec_Find.l0] at h
  | k + 1 => by
    have ih0 := spec_Find.mono_l k
    · intro y0 y1 y2
      unfold spec_Find.l0
      repeat' first
      | (with_reducible exact ih0 _ _ _)
      | (with_reducible exact LeO.refl _)
      | (with_reducible exact LeO.none _)
      | (with_reducible refine LeO.ite ?_ ?_)
      | (with_reducible refine LeO.bind ?_ (fun _ => ?_))
      | exact ih0 _ _ _
      | exact LeO.none _
      | refine LeO.ite ?_ ?_
      | refine LeO.bind ?_ (fun _ => ?_)
theorem spec_Find.mono : ∀ a0 a1 k, LeO (spec_Find.f k a0 a1) (spec_Find.f (k + 1) a0 a1) := by
  intro a0 a1 k
  have ih0 := spec_Find.mono_l k
  unfold spec_Find.f
  repeat' first
      | (with_reducible exact ih0 _ _ _)
      | (with_reducible exact LeO.refl _)
      | (with_reducible exact LeO.none _)
      | (with_reducible refine LeO.ite ?_ ?_)
      | (with_reducible refine LeO.bind ?_ (fun _ => ?_))
      | exact ih0 _ _ _
      | exact LeO.none _
      | refine LeO.ite ?_ ?_
      | refine LeO.bind ?_ (fun _ => ?_)
set_option maxHeartbeats 8000000 in
set_option maxRecDepth 100000 in
theorem spec_Find.calls (k : Nat) (A0 : Option Addr) (c0 : Nat) (l0 : List (S44)) (a1 : ByteArray) (r1 : ByteArray) (r2 : Bool) (w : World) (hr0 : Kd.C k44 w A0 l0.length l0) (hc0 : l0.length ≤ c0) (h : spec_Find.f k l0 a1 = some (r1, r2)) :
    Calls Try.prog 22 #[.slice A0 l0.length c0, .string a1] w fun e w' => e = .returned (.tuple #[.string r1, .bool r2]) ∧ Drawn0 w w' := by
  have HR0 := Aside0.mk hr0
  have HC0 := Aside0.mk hc0
  clear hr0 hc0
  have H : (spec_Find.l0 k l0 a1 (wrap64 ((l0.length : Int) - 1))) = some (r1, r2) := h
  clear h
  have H' := Aside0.mk H
  clear H
  go_enter Try.func22, Try.ntmps22
  go_wp2
  go_loopg [6] k (fun kq v6 w' => ∃ (x6_1 : Int), v6 = .int .i64 x6_1 ∧ Aside0 (spec_Find.l0 kq l0 a1 x6_1 = some (r1, r2)) ∧ Aside0 (kq ≤ k) ∧ Drawn0 w w')
  case atStart => exact ⟨(wrap64 ((l0.length : Int) - 1)), (by first | rfl | (simp; done) | (simp [*]; done)), H', ⟨Nat.le_refl _⟩, by repeat (first | exact Drawn0.refl _ | apply Drawn0.step)⟩
  case round =>
    clear H'
    try clear c2
    try clear p2
    obtain ⟨x6_1, rfl, HA, HK1, ⟨m1, rfl⟩⟩ := hrel
    cases gk with
    | zero => exact absurd HA.out (by simp [spec_Find.l0])
    | succ k1 =>
      have H := HA.out
      clear HA
      simp only [spec_Find.l0] at H
      by_cases c3 : x6_1 ≥ 0
      · rw [if_pos c3] at H
        have c3b0 : decide (0 ≤ x6_1) = true := decide_eq_true c3
        clear c3
        by_cases c4 : 0 ≤ x6_1
        · rw [if_pos c4] at H
          have c4b0 : decide (0 ≤ x6_1) = true := decide_eq_true c4
          clear c4
          by_cases c5 : x6_1 < (l0.length : Int)
          · rw [if_pos c5] at H
            have c5b0 : decide (x6_1 < (l0.length : Int)) = true := decide_eq_true c5
            clear c5
            by_cases c6 : ((rd_T44 l0 x6_1).f0).toList = a1.toList
            · rw [if_pos c6] at H
              have c6b0 : (((rd_T44 l0 x6_1).f0).toList == a1.toList) = true := beq_iff_eq.mpr c6
              have c6b1 : (((rd_T44 l0 x6_1).f0).toList != a1.toList) = false := bne_eq_false_iff_eq.mpr c6
              clear c6
              simp only [Option.some.injEq, Prod.mk.injEq] at H
              obtain ⟨rfl, rfl⟩ := H
              have p152 : 0 ≤ (x6_1 : Int) := of_decide_eq_true (by first | (with_reducible assumption) | assumption)
              have q152 : x6_1 < (l0.length : Int) := of_decide_eq_true (by first | (with_reducible assumption) | assumption)
              obtain ⟨ad152, e152, hx152_0, hx152_1⟩ := at_T44 HR0.out x6_1 p152 q152
              cases e152
              replace p152 := eq_true p152
              replace q152 := eq_true q152
              have p153 : 0 ≤ (x6_1 : Int) := of_decide_eq_true (by first | (with_reducible assumption) | assumption)
              have q153 : x6_1 < (l0.length : Int) := of_decide_eq_true (by first | (with_reducible assumption) | assumption)
              obtain ⟨ad153, e153, hx153_0, hx153_1⟩ := at_T44 HR0.out x6_1 p153 q153
              obtain rfl : ad152 = ad153 := (by injection e153)
              replace p153 := eq_true p153
              replace q153 := eq_true q153
              go_wp2
              go_ret2
              exact ⟨by first | rfl | (simp; done) | (simp [*]; done), by repeat (first | exact Drawn0.refl _ | apply Drawn0.step)⟩
            · rw [if_neg c6] at H
              have c6b0 : (((rd_T44 l0 x6_1).f0).toList == a1.toList) = false := beq_eq_false_iff_ne.mpr c6
              have c6b1 : (((rd_T44 l0 x6_1).f0).toList != a1.toList) = true := bne_iff_ne.mpr c6
              have H' := Aside0.mk H
              clear H
              have p152 : 0 ≤ (x6_1 : Int) := of_decide_eq_true (by first | (with_reducible assumption) | assumption)
              have q152 : x6_1 < (l0.length : Int) := of_decide_eq_true (by first | (with_reducible assumption) | assumption)
              obtain ⟨ad152, e152, hx152_0, hx152_1⟩ := at_T44 HR0.out x6_1 p152 q152
              cases e152
              replace p152 := eq_true p152
              replace q152 := eq_true q152
              go_wp2
              go_roundg k1
              case measure => have := HK1.out; omega
              case rel => exact ⟨(wrap64 (x6_1 - 1)), (by first | rfl | (simp; done) | (simp [*]; done)), H', ⟨by have := HK1.out; omega⟩, by repeat (first | exact Drawn0.refl _ | apply Drawn0.step)⟩
          · rw [if_neg c5] at H
            exact absurd H (by simp)
        · rw [if_neg c4] at H
          exact absurd H (by simp)
      · rw [if_neg c3] at H
        have c3b0 : decide (0 ≤ x6_1) = false := decide_eq_false c3
        clear c3
        simp only [Option.some.injEq, Prod.mk.injEq] at H
        obtain ⟨rfl, rfl⟩ := H
        go_wp2
        go_ret2
        exact ⟨by first | rfl | (simp; done) | (simp [*]; done), by repeat (first | exact Drawn0.refl _ | apply Drawn0.step)⟩

end Go.Proofs.Ytmipenoiodjbhaa.XFnLabelSets
