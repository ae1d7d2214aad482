/- A text of this session: the functions of the law FnPortsWrong, by a program that calls the kit's print and lays this session's own contracts of single functions beside. -/
import Derived.Test.YtmkpkpkcoieeiabDoorXFnPortsWrongx0
import Derived.Test.YtmkpkpkcoieeiabDoorXFnPortsWrongx2
import Derived.Test.YtmkpkpkcoieeiabDoorXFnPortsWrongx3
namespace Go.Proofs.YtmkpkpkcoieeiabDoor.XFnPortsWrong
open Go.RowKit Go.Proofs.YtmkpkpkcoieeiabDoorW.PrintWords Go.Proofs.YtmkpkpkcoieeiabDoorW.PrintLast Go.Proofs.YtmkpkpkcoieeiabDoorW.PrintMore
attribute [local go_sem] max2_int min2_int max_two min_two max_three min_three max_four min_four   -- for this text's walks alone
set_option linter.unusedVariables false
set_option linter.unusedSimpArgs false

/-! ### laws_FnPortsWrong: function 4 -/
def laws_FnPortsWrong.j0 : Nat → Int → Int → Int → Int → Bool → Option (Bool)
  | 0, _, _, _, _, _ => none
  | k + 1, x0, x1, x2, x3, x30 => if x30 = true then (some true) else ((spec_PortsText.f k 1 x0 x1).bind fun t124 => ((impl_PortsParse.f k t124).bind fun bt125 => (if x1 < x0 then (some bt125.2.2) else (if x1 > 65535 then (some bt125.2.2) else (if (wrap64 ((t124.size : Int) + 1)) = 0 then (none) else (if 0 ≤ (Int.tmod (wrap64 (x2)) (wrap64 ((t124.size : Int) + 1))) then (if (Int.tmod (wrap64 (x2)) (wrap64 ((t124.size : Int) + 1))) ≤ (t124.size : Int) then ((some (([(97 + (Int.tmod x3 26)) % 256] : List Int) : List Int)).bind fun y128 => (if (t124.extract 0 ((Int.tmod (wrap64 (x2)) (wrap64 ((t124.size : Int) + 1))) : Int).toNat).size + (strOfNums y128).size ≤ 9223372036854775807 then (if ((t124.extract 0 ((Int.tmod (wrap64 (x2)) (wrap64 ((t124.size : Int) + 1))) : Int).toNat) ++ (strOfNums y128)).size + (t124.extract ((Int.tmod (wrap64 (x2)) (wrap64 ((t124.size : Int) + 1))) : Int).toNat t124.size).size ≤ 9223372036854775807 then ((impl_PortsParse.f k (((t124.extract 0 ((Int.tmod (wrap64 (x2)) (wrap64 ((t124.size : Int) + 1))) : Int).toNat) ++ (strOfNums y128)) ++ (t124.extract ((Int.tmod (wrap64 (x2)) (wrap64 ((t124.size : Int) + 1))) : Int).toNat t124.size))).bind fun bt131 => (if bt125.2.2 = true then (some false) else (some bt131.2.2))) else (none)) else (none))) else (none)) else (none)))))))
def laws_FnPortsWrong.f (k : Nat) (a0 : Int) (a1 : Int) (a2 : Int) (a3 : Int) : Option (Bool) := if a0 < 1 then (laws_FnPortsWrong.j0 k a0 a1 a2 a3 true) else (if a1 < 1 then (laws_FnPortsWrong.j0 k a0 a1 a2 a3 true) else (if a0 > 1048576 then (laws_FnPortsWrong.j0 k a0 a1 a2 a3 true) else (laws_FnPortsWrong.j0 k a0 a1 a2 a3 (decide (a1 > 1048576)))))
theorem laws_FnPortsWrong.mono_l : ∀ k, (∀ y0 y1 y2 y3 y4, LeO (laws_FnPortsWrong.j0 k y0 y1 y2 y3 y4) (laws_FnPortsWrong.j0 (k + 1) y0 y1 y2 y3 y4))
  | 0 => fun _ _ _ _ _ r h => by simp [laws_FnPortsWrong.j0] at h
  | k + 1 => by
    have ih0 := laws_FnPortsWrong.mono_l k
    · intro y0 y1 y2 y3 y4
      unfold laws_FnPortsWrong.j0
      repeat' first
      | (with_reducible exact ih0 _ _ _ _ _)
      | (with_reducible exact impl_PortsParse.mono _ _)
      | (with_reducible exact spec_PortsText.mono _ _ _ _)
      | (with_reducible exact LeO.refl _)
      | (with_reducible exact LeO.none _)
      | (with_reducible refine LeO.ite ?_ ?_)
      | (with_reducible refine LeO.bind ?_ (fun _ => ?_))
      | exact ih0 _ _ _ _ _
      | exact impl_PortsParse.mono _ _
      | exact spec_PortsText.mono _ _ _ _
      | exact LeO.none _
      | refine LeO.ite ?_ ?_
      | refine LeO.bind ?_ (fun _ => ?_)
theorem laws_FnPortsWrong.mono : ∀ a0 a1 a2 a3 k, LeO (laws_FnPortsWrong.f k a0 a1 a2 a3) (laws_FnPortsWrong.f (k + 1) a0 a1 a2 a3) := by
  intro a0 a1 a2 a3 k
  have ih0 := laws_FnPortsWrong.mono_l k
  unfold laws_FnPortsWrong.f
  repeat' first
      | (with_reducible exact ih0 _ _ _ _ _)
      | (with_reducible exact impl_PortsParse.mono _ _)
      | (with_reducible exact spec_PortsText.mono _ _ _ _)
      | (with_reducible exact LeO.refl _)
      | (with_reducible exact LeO.none _)
      | (with_reducible refine LeO.ite ?_ ?_)
      | (with_reducible refine LeO.bind ?_ (fun _ => ?_))
      | exact ih0 _ _ _ _ _
      | exact impl_PortsParse.mono _ _
      | exact spec_PortsText.mono _ _ _ _
      | exact LeO.none _
      | refine LeO.ite ?_ ?_
      | refine LeO.bind ?_ (fun _ => ?_)
def laws_FnPortsWrong.T8 : Bool × List (List Nat × List Nat) := (true, [([], []), ([], []), ([0, 1], [0, 1]), ([], []), ([3], [3]), ([4], [4]), ([5], [5]), ([6], [6]), ([2, 7], [2, 7]), ([], []), ([], []), ([9, 10], [9, 10]), ([8, 11], [8, 11]), ([12], [12]), ([13], [13]), ([14], [14]), ([14], [14]), ([14], [14]), ([15, 13, 0, 1, 2, 3, 4, 5, 6, 7, 8, 9, 10, 11, 12, 13, 14, 15], [15]), ([16, 18, 0, 1, 2, 3, 4, 5, 6, 7, 8, 9, 10, 11, 12, 13, 14, 15, 16, 18], [16]), ([17, 19, 0, 1, 2, 3, 4, 5, 6, 7, 8, 9, 10, 11, 12, 13, 14, 15, 16, 17, 18, 19], [17])])
def laws_FnPortsWrong.B8 : List Nat := [0, 0, 3, 0, 8, 24, 56, 120, 255, 0, 0, 1536, 4095, 8191, 16383, 32767, 32767, 32767, 65535, 393215, 1048575]
theorem laws_FnPortsWrong.tab8 : rtab .any (opsOf Tryd.f4 8) = laws_FnPortsWrong.T8 := by kernel_rfl
theorem laws_FnPortsWrong.bits8 : waitsOk laws_FnPortsWrong.T8.2 laws_FnPortsWrong.B8 = true := by kernel_rfl
set_option maxHeartbeats 8000000 in
set_option maxRecDepth 100000 in
theorem laws_FnPortsWrong.calls (k : Nat) (a0 : Int) (a1 : Int) (a2 : Int) (a3 : Int) (r : Bool) (w : World) (h : laws_FnPortsWrong.f k a0 a1 a2 a3 = some r) (hV : Vars.Vars w := by first | assumption | exact Vars.Vars.below hV (by repeat (first | exact HB.out | exact HB | exact Below.refl _ _ | apply below_alloc | apply pw_below_drewN | apply below_drew1))) :
    Calls Tryd.prog 4 #[.int .i64 a0, .int .i64 a1, .int .u8 a2, .int .u8 a3] w fun e w' => e = .returned (.bool r) ∧ Below w.heap.size w w' := by
  have HB := Aside0.mk (Below.refl w.heap.size w)
  have H : (if a0 < 1 then (laws_FnPortsWrong.j0 k a0 a1 a2 a3 true) else (if a1 < 1 then (laws_FnPortsWrong.j0 k a0 a1 a2 a3 true) else (if a0 > 1048576 then (laws_FnPortsWrong.j0 k a0 a1 a2 a3 true) else (laws_FnPortsWrong.j0 k a0 a1 a2 a3 (decide (a1 > 1048576)))))) = some r := h
  clear h
  have HC5 := Aside0.mk H
  clear H
  go_enter Tryd.func4, Tryd.ntmps4
  go_upto_region 1 with (fail)
  go_cut [30] (fun v30 wc => ∃ (kq : Nat) (x30_4 : Bool), v30 = .bool x30_4 ∧ Aside0 (laws_FnPortsWrong.j0 kq a0 a1 a2 a3 x30_4 = some r) ∧ Aside0 (kq ≤ k) ∧ Aside0 (Below w.heap.size w wc))
  case first =>
    have H := HC5.out
    clear HC5
    by_cases c6 : a0 < 1
    · rw [if_pos c6] at H
      have c6b0 : decide (a0 < 1) = true := decide_eq_true c6
      clear c6
      (first | rw [c6b0] | (simp only [i64_w, i32_w]; rw [c6b0]) | skip)
      have H' := Aside0.mk H
      clear H
      go_wp2
      go_meet
      case rel => exact ⟨_, (true), (by first | rfl | (simp; done) | (simp [*]; done)), H', ⟨by first | omega | exact Nat.le_refl _⟩, ⟨by repeat (first | (with_reducible first | exact HB.out | apply below_alloc | apply pw_below_drewN | apply below_drew1) | exact HB.out)⟩⟩
    · rw [if_neg c6] at H
      have c6b0 : decide (a0 < 1) = false := decide_eq_false c6
      clear c6
      (first | rw [c6b0] | (simp only [i64_w, i32_w]; rw [c6b0]) | skip)
      by_cases c7 : a1 < 1
      · rw [if_pos c7] at H
        have c7b0 : decide (a1 < 1) = true := decide_eq_true c7
        clear c7
        have H' := Aside0.mk H
        clear H
        go_wp2
        go_meet
        case rel => exact ⟨_, (true), (by first | rfl | (simp; done) | (simp [*]; done)), H', ⟨by first | omega | exact Nat.le_refl _⟩, ⟨by repeat (first | (with_reducible first | exact HB.out | apply below_alloc | apply pw_below_drewN | apply below_drew1) | exact HB.out)⟩⟩
      · rw [if_neg c7] at H
        have c7b0 : decide (a1 < 1) = false := decide_eq_false c7
        clear c7
        by_cases c8 : a0 > 1048576
        · rw [if_pos c8] at H
          have c8b0 : decide (1048576 < a0) = true := decide_eq_true c8
          clear c8
          have H' := Aside0.mk H
          clear H
          go_wp2
          go_meet
          case rel => exact ⟨_, (true), (by first | rfl | (simp; done) | (simp [*]; done)), H', ⟨by first | omega | exact Nat.le_refl _⟩, ⟨by repeat (first | (with_reducible first | exact HB.out | apply below_alloc | apply pw_below_drewN | apply below_drew1) | exact HB.out)⟩⟩
        · rw [if_neg c8] at H
          have c8b0 : decide (1048576 < a0) = false := decide_eq_false c8
          clear c8
          have H' := Aside0.mk H
          clear H
          go_wp2
          go_meet
          case rel => exact ⟨_, (decide (a1 > 1048576)), (by first | rfl | (simp; done) | (simp [*]; done)), H', ⟨by first | omega | exact Nat.le_refl _⟩, ⟨by repeat (first | (with_reducible first | exact HB.out | apply below_alloc | apply pw_below_drewN | apply below_drew1) | exact HB.out)⟩⟩
  case rest =>
    clear HC5
    try clear p2
    try clear c4
    try clear c6
    try clear c6b0
    try clear c7
    try clear c7b0
    try clear c8
    try clear c8b0
    obtain ⟨kq, x30_4, rfl, HA, HJ4, HB⟩ := hcut
    cases kq with
    | zero => exact absurd HA.out (by simp [laws_FnPortsWrong.j0])
    | succ kj4 =>
      have H := HA.out
      clear HA
      simp only [laws_FnPortsWrong.j0] at H
      by_cases c9 : x30_4 = true
      · subst c9
        have H1 : (some true) = some r := by rw [if_pos rfl] at H; exact H
        clear H
        have H := H1
        clear H1
        obtain rfl := Option.some.inj H
        go_wp2
        go_ret
        exact ⟨by first | rfl | (simp [errW_none, errW_some] <;> rfl) | (simp [*, errW_none, errW_some] <;> rfl), by repeat (first | (with_reducible first | exact HB.out | apply below_alloc | apply pw_below_drewN | apply below_drew1) | exact HB.out)⟩
      · replace c9 := Bool.eq_false_iff.mpr c9
        subst c9
        have H1 : ((spec_PortsText.f kj4 1 a0 a1).bind fun t124 => ((impl_PortsParse.f kj4 t124).bind fun bt125 => (if a1 < a0 then (some bt125.2.2) else (if a1 > 65535 then (some bt125.2.2) else (if (wrap64 ((t124.size : Int) + 1)) = 0 then (none) else (if 0 ≤ (Int.tmod (wrap64 (a2)) (wrap64 ((t124.size : Int) + 1))) then (if (Int.tmod (wrap64 (a2)) (wrap64 ((t124.size : Int) + 1))) ≤ (t124.size : Int) then ((some (([(97 + (Int.tmod a3 26)) % 256] : List Int) : List Int)).bind fun y128 => (if (t124.extract 0 ((Int.tmod (wrap64 (a2)) (wrap64 ((t124.size : Int) + 1))) : Int).toNat).size + (strOfNums y128).size ≤ 9223372036854775807 then (if ((t124.extract 0 ((Int.tmod (wrap64 (a2)) (wrap64 ((t124.size : Int) + 1))) : Int).toNat) ++ (strOfNums y128)).size + (t124.extract ((Int.tmod (wrap64 (a2)) (wrap64 ((t124.size : Int) + 1))) : Int).toNat t124.size).size ≤ 9223372036854775807 then ((impl_PortsParse.f kj4 (((t124.extract 0 ((Int.tmod (wrap64 (a2)) (wrap64 ((t124.size : Int) + 1))) : Int).toNat) ++ (strOfNums y128)) ++ (t124.extract ((Int.tmod (wrap64 (a2)) (wrap64 ((t124.size : Int) + 1))) : Int).toNat t124.size))).bind fun bt131 => (if bt125.2.2 = true then (some false) else (some bt131.2.2))) else (none)) else (none))) else (none)) else (none))))))) = some r := by rw [if_neg (show ¬ (false = true) by decide)] at H; exact H
        clear H
        have H := H1
        clear H1
        replace H := Option.bind_eq_some_iff.mp H
        obtain ⟨t124, A100, H⟩ := H
        replace H : ((impl_PortsParse.f kj4 t124).bind fun bt125 => (if a1 < a0 then (some bt125.2.2) else (if a1 > 65535 then (some bt125.2.2) else (if (wrap64 ((t124.size : Int) + 1)) = 0 then (none) else (if 0 ≤ (Int.tmod (wrap64 (a2)) (wrap64 ((t124.size : Int) + 1))) then (if (Int.tmod (wrap64 (a2)) (wrap64 ((t124.size : Int) + 1))) ≤ (t124.size : Int) then ((some (([(97 + (Int.tmod a3 26)) % 256] : List Int) : List Int)).bind fun y128 => (if (t124.extract 0 ((Int.tmod (wrap64 (a2)) (wrap64 ((t124.size : Int) + 1))) : Int).toNat).size + (strOfNums y128).size ≤ 9223372036854775807 then (if ((t124.extract 0 ((Int.tmod (wrap64 (a2)) (wrap64 ((t124.size : Int) + 1))) : Int).toNat) ++ (strOfNums y128)).size + (t124.extract ((Int.tmod (wrap64 (a2)) (wrap64 ((t124.size : Int) + 1))) : Int).toNat t124.size).size ≤ 9223372036854775807 then ((impl_PortsParse.f kj4 (((t124.extract 0 ((Int.tmod (wrap64 (a2)) (wrap64 ((t124.size : Int) + 1))) : Int).toNat) ++ (strOfNums y128)) ++ (t124.extract ((Int.tmod (wrap64 (a2)) (wrap64 ((t124.size : Int) + 1))) : Int).toNat t124.size))).bind fun bt131 => (if bt125.2.2 = true then (some false) else (some bt131.2.2))) else (none)) else (none))) else (none)) else (none)))))) = some r := H
        have A10 := Aside0.mk A100
        clear A100
        replace H := Option.bind_eq_some_iff.mp H
        obtain ⟨⟨t125, t126, t127⟩, A110, H⟩ := H
        replace H : (if a1 < a0 then (some t127) else (if a1 > 65535 then (some t127) else (if (wrap64 ((t124.size : Int) + 1)) = 0 then (none) else (if 0 ≤ (Int.tmod (wrap64 (a2)) (wrap64 ((t124.size : Int) + 1))) then (if (Int.tmod (wrap64 (a2)) (wrap64 ((t124.size : Int) + 1))) ≤ (t124.size : Int) then ((some (([(97 + (Int.tmod a3 26)) % 256] : List Int) : List Int)).bind fun y128 => (if (t124.extract 0 ((Int.tmod (wrap64 (a2)) (wrap64 ((t124.size : Int) + 1))) : Int).toNat).size + (strOfNums y128).size ≤ 9223372036854775807 then (if ((t124.extract 0 ((Int.tmod (wrap64 (a2)) (wrap64 ((t124.size : Int) + 1))) : Int).toNat) ++ (strOfNums y128)).size + (t124.extract ((Int.tmod (wrap64 (a2)) (wrap64 ((t124.size : Int) + 1))) : Int).toNat t124.size).size ≤ 9223372036854775807 then ((impl_PortsParse.f kj4 (((t124.extract 0 ((Int.tmod (wrap64 (a2)) (wrap64 ((t124.size : Int) + 1))) : Int).toNat) ++ (strOfNums y128)) ++ (t124.extract ((Int.tmod (wrap64 (a2)) (wrap64 ((t124.size : Int) + 1))) : Int).toNat t124.size))).bind fun bt131 => (if t127 = true then (some false) else (some bt131.2.2))) else (none)) else (none))) else (none)) else (none))))) = some r := H
        have A11 := Aside0.mk A110
        clear A110
        by_cases c12 : a1 < a0
        · rw [if_pos c12] at H
          have c12b0 : decide (a1 < a0) = true := decide_eq_true c12
          clear c12
          obtain rfl := Option.some.inj H
          go_wp2_with (first | ((with_reducible refine gate_callee (f := 9) rfl ?_); refine goesL_ (some 33) rfl rfl Tryd.func9 (by kernel_rfl) rfl #[.int .i64 1, .int .i64 a0, .int .i64 a1] rfl (by (try simp only [List.map_toArray, List.map_cons, List.map_nil]); first | done | rfl | (simp only [List.length_drop, List.length_take]; rfl)) ?_; (with_reducible refine (spec_PortsText.calls kj4 1 a0 a1 t124 _ A10.out).mono ?_); rintro e w13 ⟨rfl, hb⟩; refine ⟨_, rfl, ?_⟩; have n0_ := Aside0.mk (below_step (by repeat (first | (with_reducible first | exact HB.out | apply below_alloc | apply pw_below_drewN | apply below_drew1) | exact HB.out)) hb); clear HB; have HB := n0_; clear n0_; (try clear hb); (try clear hb2); (try clear hk); (try clear hi)) | ((with_reducible refine gate_callee (f := 8) rfl ?_); refine goesL_ (some 36) rfl rfl Tryd.func8 (by kernel_rfl) rfl #[.string t124] rfl (by (try simp only [List.map_toArray, List.map_cons, List.map_nil]); first | done | rfl | (simp only [List.length_drop, List.length_take]; rfl)) ?_; (with_reducible refine (impl_PortsParse.calls kj4 t124 t125 t126 t127 _ A11.out).mono ?_); rintro e w14 ⟨rfl, hb⟩; refine ⟨_, rfl, ?_⟩; have n0_ := Aside0.mk (below_step (by repeat (first | (with_reducible first | exact HB.out | apply below_alloc | apply pw_below_drewN | apply below_drew1) | exact HB.out)) hb); clear HB; have HB := n0_; clear n0_; (try clear hb); (try clear hb2); (try clear hk); (try clear hi)))
          go_ret
          exact ⟨by first | rfl | (simp [errW_none, errW_some] <;> rfl) | (simp [*, errW_none, errW_some] <;> rfl), by repeat (first | (with_reducible first | exact HB.out | apply below_alloc | apply pw_below_drewN | apply below_drew1) | exact HB.out)⟩
        · rw [if_neg c12] at H
          have c12b0 : decide (a1 < a0) = false := decide_eq_false c12
          clear c12
          by_cases c15 : a1 > 65535
          · rw [if_pos c15] at H
            have c15b0 : decide (65535 < a1) = true := decide_eq_true c15
            clear c15
            obtain rfl := Option.some.inj H
            go_wp2_with (first | ((with_reducible refine gate_callee (f := 9) rfl ?_); refine goesL_ (some 33) rfl rfl Tryd.func9 (by kernel_rfl) rfl #[.int .i64 1, .int .i64 a0, .int .i64 a1] rfl (by (try simp only [List.map_toArray, List.map_cons, List.map_nil]); first | done | rfl | (simp only [List.length_drop, List.length_take]; rfl)) ?_; (with_reducible refine (spec_PortsText.calls kj4 1 a0 a1 t124 _ A10.out).mono ?_); rintro e w16 ⟨rfl, hb⟩; refine ⟨_, rfl, ?_⟩; have n0_ := Aside0.mk (below_step (by repeat (first | (with_reducible first | exact HB.out | apply below_alloc | apply pw_below_drewN | apply below_drew1) | exact HB.out)) hb); clear HB; have HB := n0_; clear n0_; (try clear hb); (try clear hb2); (try clear hk); (try clear hi)) | ((with_reducible refine gate_callee (f := 8) rfl ?_); refine goesL_ (some 36) rfl rfl Tryd.func8 (by kernel_rfl) rfl #[.string t124] rfl (by (try simp only [List.map_toArray, List.map_cons, List.map_nil]); first | done | rfl | (simp only [List.length_drop, List.length_take]; rfl)) ?_; (with_reducible refine (impl_PortsParse.calls kj4 t124 t125 t126 t127 _ A11.out).mono ?_); rintro e w17 ⟨rfl, hb⟩; refine ⟨_, rfl, ?_⟩; have n0_ := Aside0.mk (below_step (by repeat (first | (with_reducible first | exact HB.out | apply below_alloc | apply pw_below_drewN | apply below_drew1) | exact HB.out)) hb); clear HB; have HB := n0_; clear n0_; (try clear hb); (try clear hb2); (try clear hk); (try clear hi)))
            go_ret
            exact ⟨by first | rfl | (simp [errW_none, errW_some] <;> rfl) | (simp [*, errW_none, errW_some] <;> rfl), by repeat (first | (with_reducible first | exact HB.out | apply below_alloc | apply pw_below_drewN | apply below_drew1) | exact HB.out)⟩
          · rw [if_neg c15] at H
            have c15b0 : decide (65535 < a1) = false := decide_eq_false c15
            clear c15
            by_cases c18 : (wrap64 ((t124.size : Int) + 1)) = 0
            · rw [if_pos c18] at H
              exact absurd H (by simp)
            · rw [if_neg c18] at H
              have c18b0 : ((wrap64 ((t124.size : Int) + 1)) == 0) = false := beq_eq_false_iff_ne.mpr c18
              have c18b1 : ((wrap64 ((t124.size : Int) + 1)) != 0) = true := bne_iff_ne.mpr c18
              obtain ⟨ji19, hji19⟩ : ∃ j_ : Int, (Int.tmod (wrap64 (a2)) (wrap64 ((t124.size : Int) + 1))) = j_ := ⟨_, rfl⟩
              replace H : (if 0 ≤ (ji19) then (if (ji19) ≤ (t124.size : Int) then ((some (([(97 + (Int.tmod a3 26)) % 256] : List Int) : List Int)).bind fun y128 => (if (t124.extract 0 ((ji19) : Int).toNat).size + (strOfNums y128).size ≤ 9223372036854775807 then (if ((t124.extract 0 ((ji19) : Int).toNat) ++ (strOfNums y128)).size + (t124.extract ((ji19) : Int).toNat t124.size).size ≤ 9223372036854775807 then ((impl_PortsParse.f kj4 (((t124.extract 0 ((ji19) : Int).toNat) ++ (strOfNums y128)) ++ (t124.extract ((ji19) : Int).toNat t124.size))).bind fun bt131 => (if t127 = true then (some false) else (some bt131.2.2))) else (none)) else (none))) else (none)) else (none)) = some r := by first | (rw [hji19] at H; exact H) | (simp only [hji19] at H ⊢; exact H)
              (try rw [hji19] at A10)
              (try rw [hji19] at A11)
              by_cases c20 : 0 ≤ (ji19)
              · rw [if_pos c20] at H
                have c20b0 := eq_true c20
                have c20b1 : decide (0 ≤ (ji19)) = true := decide_eq_true c20
                clear c20
                by_cases c21 : (ji19) ≤ (t124.size : Int)
                · rw [if_pos c21] at H
                  have c21b0 := eq_true c21
                  have c21b1 : decide ((ji19) ≤ (t124.size : Int)) = true := decide_eq_true c21
                  clear c21
                  obtain ⟨y128, hy128⟩ : ∃ y_ : List Int, y_ = (([(97 + (Int.tmod a3 26)) % 256] : List Int)) := ⟨_, rfl⟩
                  replace H : (if (t124.extract 0 ((ji19) : Int).toNat).size + (strOfNums y128).size ≤ 9223372036854775807 then (if ((t124.extract 0 ((ji19) : Int).toNat) ++ (strOfNums y128)).size + (t124.extract ((ji19) : Int).toNat t124.size).size ≤ 9223372036854775807 then ((impl_PortsParse.f kj4 (((t124.extract 0 ((ji19) : Int).toNat) ++ (strOfNums y128)) ++ (t124.extract ((ji19) : Int).toNat t124.size))).bind fun bt131 => (if t127 = true then (some false) else (some bt131.2.2))) else (none)) else (none)) = some r := by first | (rw [hy128]; with_reducible exact H) | (have H2_ := (Option.bind_some _ _).symm.trans H; rw [hy128]; with_reducible exact H2_) | (have H2_ := (Option.bind_some _ _).symm.trans H; with_reducible exact H2_) | with_reducible exact H | (rw [hy128]; exact H) | exact H
                  have Ny128 := Aside0.mk hy128
                  clear hy128
                  by_cases c22 : (t124.extract 0 ((ji19) : Int).toNat).size + (strOfNums y128).size ≤ 9223372036854775807
                  · rw [if_pos c22] at H
                    have c22b0 := eq_true c22
                    have c22b1 : decide ((t124.extract 0 ((ji19) : Int).toNat).size + (strOfNums y128).size ≤ 9223372036854775807) = true := decide_eq_true c22
                    try have c22b2 : (9223372036854775807 < (t124.extract 0 ((ji19) : Int).toNat).size + (strOfNums y128).size) = False := eq_false (Nat.not_lt.2 c22)
                    have c23b0 := eq_true (of_decide_eq_true (by first | (with_reducible assumption) | assumption) : 0 ≤ (ji19))
                    have c24b0 := eq_true (of_decide_eq_true (by first | (with_reducible assumption) | assumption) : (ji19) ≤ (t124.size : Int))
                    by_cases c25 : ((t124.extract 0 ((ji19) : Int).toNat) ++ (strOfNums y128)).size + (t124.extract ((ji19) : Int).toNat t124.size).size ≤ 9223372036854775807
                    · rw [if_pos c25] at H
                      have c25b0 := eq_true c25
                      have c25b1 : decide (((t124.extract 0 ((ji19) : Int).toNat) ++ (strOfNums y128)).size + (t124.extract ((ji19) : Int).toNat t124.size).size ≤ 9223372036854775807) = true := decide_eq_true c25
                      try have c25b2 : (9223372036854775807 < ((t124.extract 0 ((ji19) : Int).toNat) ++ (strOfNums y128)).size + (t124.extract ((ji19) : Int).toNat t124.size).size) = False := eq_false (Nat.not_lt.2 c25)
                      (try (have c25b9 : (9223372036854775807 < t124.extract 0 ((ji19) : Int).toNat.size + strOfNums y128.size + (t124.extract ((ji19) : Int).toNat t124.size).size) = False := eq_false (fun hq_ => by have h_ := c25; simp only [ByteArray.size_append] at h_; omega)))
                      replace H := Option.bind_eq_some_iff.mp H
                      obtain ⟨⟨t131, t132, t133⟩, A260, H⟩ := H
                      replace H : (if t127 = true then (some false) else (some t133)) = some r := H
                      have A26 := Aside0.mk A260
                      clear A260
                      by_cases c27 : t127 = true
                      · subst c27
                        have H1 : (some false) = some r := by rw [if_pos rfl] at H; exact H
                        clear H
                        have H := H1
                        clear H1
                        obtain rfl := Option.some.inj H
                        try go_wp2_with (first | ((with_reducible refine gate_callee (f := 9) rfl ?_); refine goesL_ (some 33) rfl rfl Tryd.func9 (by kernel_rfl) rfl #[.int .i64 1, .int .i64 a0, .int .i64 a1] rfl (by (try simp only [List.map_toArray, List.map_cons, List.map_nil]); first | done | rfl | (simp only [List.length_drop, List.length_take]; rfl)) ?_; (with_reducible refine (spec_PortsText.calls kj4 1 a0 a1 t124 _ A10.out).mono ?_); rintro e w28 ⟨rfl, hb⟩; refine ⟨_, rfl, ?_⟩; have n0_ := Aside0.mk (below_step (by repeat (first | (with_reducible first | exact HB.out | apply below_alloc | apply pw_below_drewN | apply below_drew1) | exact HB.out)) hb); clear HB; have HB := n0_; clear n0_; (try clear hb); (try clear hb2); (try clear hk); (try clear hi)) | ((with_reducible refine gate_callee (f := 8) rfl ?_); refine goesL_ (some 36) rfl rfl Tryd.func8 (by kernel_rfl) rfl #[.string t124] rfl (by (try simp only [List.map_toArray, List.map_cons, List.map_nil]); first | done | rfl | (simp only [List.length_drop, List.length_take]; rfl)) ?_; (with_reducible refine (impl_PortsParse.calls kj4 t124 t125 t126 true _ A11.out).mono ?_); rintro e w29 ⟨rfl, hb⟩; refine ⟨_, rfl, ?_⟩; have n0_ := Aside0.mk (below_step (by repeat (first | (with_reducible first | exact HB.out | apply below_alloc | apply pw_below_drewN | apply below_drew1) | exact HB.out)) hb); clear HB; have HB := n0_; clear n0_; (try clear hb); (try clear hb2); (try clear hk); (try clear hi)))
                        have n0_ := Aside0.mk (below_drew1 HB.out)
                        clear HB
                        have HB := n0_
                        clear n0_
                        refine start_ (n := 21) (S := fun w' => True) (ds := []) #[false, false, false, false, false, false, false, false, false, false, false, false, false, false, false, false, false, false, false, false, false] (by kernel_rfl) rfl rfl trivial (fun hHeld => ?_); refine with_tabW laws_FnPortsWrong.tab8 laws_FnPortsWrong.bits8 (fun HT_ HW_ => ?_)
                        generalize w29.drew = w30 at HB hHeld ⊢
                        refine pure_ (i := 0) (N := some 55) (v := ?_) (a' := ?_) #[true, false, false, false, false, false, false, false, false, false, false, false, false, false, false, false, false, false, false, false, false] rfl rfl (any_of HT_.out (by kernel_rfl)) (fun _ _ _ h => h) (Or.inl ⟨by rfl, ?_⟩) ?_ ?_
                        rotate_left
                        · intro w'
                          go_simp
                          first | with_reducible rfl | (rw [if_neg (by have c22_ := c22; rw [ByteArray.size_extract] at c22_; have c21_ := of_eq_true c21b0; omega)]) | (rw [if_neg (by have c25_ := c25; rw [ByteArray.size_append, ByteArray.size_extract, ByteArray.size_extract] at c25_; have c21_ := of_eq_true c21b0; omega)])
                        rotate_left
                        · simp only [Act.put, List.setIfInBounds_toArray, List.set_cons_zero, List.set_cons_succ, i64_w, i32_w]
                          rfl
                        refine pure_ (i := 1) (N := some 56) (v := ?_) (a' := ?_) #[true, true, false, false, false, false, false, false, false, false, false, false, false, false, false, false, false, false, false, false, false] rfl rfl (any_of HT_.out (by kernel_rfl)) (fun _ _ _ h => h) (Or.inl ⟨by rfl, ?_⟩) ?_ ?_
                        rotate_left
                        · intro w'
                          go_simp
                          first | with_reducible rfl | (rw [if_neg (by have c22_ := c22; rw [ByteArray.size_extract] at c22_; have c21_ := of_eq_true c21b0; omega)]) | (rw [if_neg (by have c25_ := c25; rw [ByteArray.size_append, ByteArray.size_extract, ByteArray.size_extract] at c25_; have c21_ := of_eq_true c21b0; omega)])
                        rotate_left
                        · simp only [Act.put, List.setIfInBounds_toArray, List.set_cons_zero, List.set_cons_succ, i64_w, i32_w]
                          rfl
                        refine pure_ (i := 2) (N := some 57) (v := ?_) (a' := ?_) #[true, true, true, false, false, false, false, false, false, false, false, false, false, false, false, false, false, false, false, false, false] rfl rfl (any_of HT_.out (by kernel_rfl)) (fun _ _ _ h => h) (Or.inl ⟨by rfl, ?_⟩) ?_ ?_
                        rotate_left
                        · intro w'
                          go_simp
                          first | with_reducible rfl | (rw [if_neg (by have c22_ := c22; rw [ByteArray.size_extract] at c22_; have c21_ := of_eq_true c21b0; omega)]) | (rw [if_neg (by have c25_ := c25; rw [ByteArray.size_append, ByteArray.size_extract, ByteArray.size_extract] at c25_; have c21_ := of_eq_true c21b0; omega)])
                        rotate_left
                        · simp only [Act.put, List.setIfInBounds_toArray, List.set_cons_zero, List.set_cons_succ, i64_w, i32_w]
                          rfl
                        refine pure_ (i := 3) (N := some 58) (v := ?_) (a' := ?_) #[true, true, true, true, false, false, false, false, false, false, false, false, false, false, false, false, false, false, false, false, false] rfl rfl (any_of HT_.out (by kernel_rfl)) (fun _ _ _ h => h) (Or.inl ⟨by rfl, ?_⟩) ?_ ?_
                        rotate_left
                        · intro w'
                          go_simp
                          first | with_reducible rfl | (rw [if_neg (by have c22_ := c22; rw [ByteArray.size_extract] at c22_; have c21_ := of_eq_true c21b0; omega)]) | (rw [if_neg (by have c25_ := c25; rw [ByteArray.size_append, ByteArray.size_extract, ByteArray.size_extract] at c25_; have c21_ := of_eq_true c21b0; omega)])
                        rotate_left
                        · simp only [Act.put, List.setIfInBounds_toArray, List.set_cons_zero, List.set_cons_succ, i64_w, i32_w]
                          rfl
                        refine pure_ (i := 4) (N := some 59) (v := ?_) (a' := ?_) #[true, true, true, true, true, false, false, false, false, false, false, false, false, false, false, false, false, false, false, false, false] rfl rfl (any_of HT_.out (by kernel_rfl)) (fun _ _ _ h => h) (Or.inl ⟨by rfl, ?_⟩) ?_ ?_
                        rotate_left
                        · intro w'
                          go_simp
                          first | with_reducible rfl | (rw [if_neg (by have c22_ := c22; rw [ByteArray.size_extract] at c22_; have c21_ := of_eq_true c21b0; omega)]) | (rw [if_neg (by have c25_ := c25; rw [ByteArray.size_append, ByteArray.size_extract, ByteArray.size_extract] at c25_; have c21_ := of_eq_true c21b0; omega)])
                        rotate_left
                        · simp only [Act.put, List.setIfInBounds_toArray, List.set_cons_zero, List.set_cons_succ, i64_w, i32_w]
                          rfl
                        refine pure_ (i := 5) (N := some 60) (v := ?_) (a' := ?_) #[true, true, true, true, true, true, false, false, false, false, false, false, false, false, false, false, false, false, false, false, false] rfl rfl (any_of HT_.out (by kernel_rfl)) (fun _ _ _ h => h) (Or.inl ⟨by rfl, ?_⟩) ?_ ?_
                        rotate_left
                        · intro w'
                          go_simp
                          first | with_reducible rfl | (rw [if_neg (by have c22_ := c22; rw [ByteArray.size_extract] at c22_; have c21_ := of_eq_true c21b0; omega)]) | (rw [if_neg (by have c25_ := c25; rw [ByteArray.size_append, ByteArray.size_extract, ByteArray.size_extract] at c25_; have c21_ := of_eq_true c21b0; omega)])
                        rotate_left
                        · simp only [Act.put, List.setIfInBounds_toArray, List.set_cons_zero, List.set_cons_succ, i64_w, i32_w]
                          rfl
                        refine pure_ (i := 9) (N := some 64) (v := ?_) (a' := ?_) #[true, true, true, true, true, true, false, false, false, true, false, false, false, false, false, false, false, false, false, false, false] rfl rfl (any_of HT_.out (by kernel_rfl)) (fun _ _ _ h => h) (Or.inl ⟨by rfl, ?_⟩) ?_ ?_
                        rotate_left
                        · intro w'
                          go_simp
                          first | with_reducible rfl | (rw [if_neg (by have c22_ := c22; rw [ByteArray.size_extract] at c22_; have c21_ := of_eq_true c21b0; omega)]) | (rw [if_neg (by have c25_ := c25; rw [ByteArray.size_append, ByteArray.size_extract, ByteArray.size_extract] at c25_; have c21_ := of_eq_true c21b0; omega)])
                        rotate_left
                        · simp only [Act.put, List.setIfInBounds_toArray, List.set_cons_zero, List.set_cons_succ, i64_w, i32_w]
                          rfl
                        refine pure_ (i := 10) (N := some 65) (v := ?_) (a' := ?_) #[true, true, true, true, true, true, false, false, false, true, true, false, false, false, false, false, false, false, false, false, false] rfl rfl (any_of HT_.out (by kernel_rfl)) (fun _ _ _ h => h) (Or.inl ⟨by rfl, ?_⟩) ?_ ?_
                        rotate_left
                        · intro w'
                          go_simp
                          first | with_reducible rfl | (rw [if_neg (by have c22_ := c22; rw [ByteArray.size_extract] at c22_; have c21_ := of_eq_true c21b0; omega)]) | (rw [if_neg (by have c25_ := c25; rw [ByteArray.size_append, ByteArray.size_extract, ByteArray.size_extract] at c25_; have c21_ := of_eq_true c21b0; omega)])
                        rotate_left
                        · simp only [Act.put, List.setIfInBounds_toArray, List.set_cons_zero, List.set_cons_succ, i64_w, i32_w]
                          rfl
                        refine pure_ (i := 11) (N := some 66) (v := ?_) (a' := ?_) #[true, true, true, true, true, true, false, false, false, true, true, true, false, false, false, false, false, false, false, false, false] rfl rfl (any_of HT_.out (by kernel_rfl)) (fun _ _ _ h => h) (Or.inl ⟨by rfl, ?_⟩) ?_ ?_
                        rotate_left
                        · intro w'
                          go_simp
                          first | with_reducible rfl | (rw [if_neg (by have c22_ := c22; rw [ByteArray.size_extract] at c22_; have c21_ := of_eq_true c21b0; omega)]) | (rw [if_neg (by have c25_ := c25; rw [ByteArray.size_append, ByteArray.size_extract, ByteArray.size_extract] at c25_; have c21_ := of_eq_true c21b0; omega)])
                        rotate_left
                        · simp only [Act.put, List.setIfInBounds_toArray, List.set_cons_zero, List.set_cons_succ, i64_w, i32_w]
                          rfl
                        refine one_ (i := 6) (N := some 61) #[true, true, true, true, true, true, true, false, false, true, true, true, false, false, false, false, false, false, false, false, false] rfl rfl (one_of HT_.out (by kernel_rfl)) (by decide) (fun K hK => ?_)
                        refine Kd.R_lit_step (Kd.int .u8) _ 5 ?hg (N := 61) ?hd (xs := ([(97 + (Int.tmod a3 26)) % 256] : List Int)) (inner := [.int .u8 ((97 + (Int.tmod a3 26)) % 256)]) (ok := fun _ => True) (okp := fun _ => True) ?hr ?hp (fun _ hk => hk) trivial (Below.refl _ _) (Nat.le_refl _) (by simp) ?_; (case hd => rfl); (case hg => rfl); (case hr => first | (go_simp; done) | (go_simp; rfl) | (go_simp; simp [IntKind.wrap_u8]; done)); (case hp => exact (Reps.one (show Kd.M (Kd.int .u8) _ _ _ ((97 + (Int.tmod a3 26)) % 256) [.int .u8 ((97 + (Int.tmod a3 26)) % 256)] from rfl) (Reps.none _ _)))
                        intro v129 w31 ho32 hb hg_ hnew_
                        clear hg_ hnew_
                        (first | rw [← Ny128.out] at ho32 | (simp only [Int.reduceToNat] at ho32; rw [← Ny128.out] at ho32))
                        have n0_ := Aside0.mk (Kd.R_lower ho32 (below_size (by repeat (first | (with_reducible first | exact HB.out | apply below_alloc | apply pw_below_drewN | apply below_drew1) | exact HB.out))))
                        have n1_ := Aside0.mk (below_step (by repeat (first | (with_reducible first | exact HB.out | apply below_alloc | apply pw_below_drewN | apply below_drew1) | exact HB.out)) hb)
                        clear HB
                        have HO130 := n0_
                        have HB := n1_
                        clear n0_ n1_
                        clear hb ho32
                        refine hK.out _ _ trivial (fun hHeld => ?_)
                        clear hK K
                        refine norm_ (a' := ?_) ?_ ?_
                        rotate_left
                        · show Act.put _ (some 61) _ = _
                          simp only [Act.put, List.setIfInBounds_toArray, List.set_cons_zero, List.set_cons_succ, i64_w, i32_w]
                          rfl
                        refine one_ (i := 7) (N := some 62) #[true, true, true, true, true, true, true, true, false, true, true, true, false, false, false, false, false, false, false, false, false] rfl rfl (one_of HT_.out (by kernel_rfl)) (by decide) (fun K hK => ?_)
                        have hcv33 := own_string (P := Tryd.prog) Tryd.underlying27 Tryd.underlying5 Tryd.underlying9 (Kd.own_of_R HO130.out)
                        refine value_ (w1 := ?_) (v := ?_) (by rfl) rfl ?_ ?_
                        rotate_left 2
                        · go_simp
                          constructor
                          · rfl
                          · rfl
                        clear hcv33
                        refine hK.out _ _ trivial (fun hHeld => ?_)
                        clear hK K
                        refine norm_ (a' := ?_) ?_ ?_
                        rotate_left
                        · show Act.put _ (some 62) _ = _
                          simp only [Act.put, List.setIfInBounds_toArray, List.set_cons_zero, List.set_cons_succ, i64_w, i32_w]
                          rfl
                        refine pure_ (i := 8) (N := some 63) (v := ?_) (a' := ?_) #[true, true, true, true, true, true, true, true, true, true, true, true, false, false, false, false, false, false, false, false, false] rfl rfl (any_of HT_.out (by kernel_rfl)) (fun _ _ _ h => h) (Or.inl ⟨by rfl, ?_⟩) ?_ ?_
                        rotate_left
                        · intro w'
                          go_simp
                          first | with_reducible rfl | (rw [if_neg (by have c22_ := c22; rw [ByteArray.size_extract] at c22_; have c21_ := of_eq_true c21b0; omega)]) | (rw [if_neg (by have c25_ := c25; rw [ByteArray.size_append, ByteArray.size_extract, ByteArray.size_extract] at c25_; have c21_ := of_eq_true c21b0; omega)])
                        rotate_left
                        · simp only [Act.put, List.setIfInBounds_toArray, List.set_cons_zero, List.set_cons_succ, i64_w, i32_w]
                          rfl
                        refine pure_ (i := 12) (N := some 67) (v := ?_) (a' := ?_) #[true, true, true, true, true, true, true, true, true, true, true, true, true, false, false, false, false, false, false, false, false] rfl rfl (any_of HT_.out (by kernel_rfl)) (fun _ _ _ h => h) (Or.inl ⟨by rfl, ?_⟩) ?_ ?_
                        rotate_left
                        · intro w'
                          go_simp
                          first | with_reducible rfl | (rw [if_neg (by have c22_ := c22; rw [ByteArray.size_extract] at c22_; have c21_ := of_eq_true c21b0; omega)]) | (rw [if_neg (by have c25_ := c25; rw [ByteArray.size_append, ByteArray.size_extract, ByteArray.size_extract] at c25_; have c21_ := of_eq_true c21b0; omega)])
                        rotate_left
                        · simp only [Act.put, List.setIfInBounds_toArray, List.set_cons_zero, List.set_cons_succ, i64_w, i32_w]
                          rfl
                        refine one_ (i := 13) (N := some 68) #[true, true, true, true, true, true, true, true, true, true, true, true, true, true, false, false, false, false, false, false, false] rfl rfl (one_of HT_.out (by kernel_rfl)) (by decide) (fun K hK => ?_)
                        refine goes_ Tryd.func8 (by kernel_rfl) rfl #[.string (((t124.extract 0 ((ji19) : Int).toNat) ++ (strOfNums y128)) ++ (t124.extract ((ji19) : Int).toNat t124.size))] (by rfl) rfl rfl (by (try simp only [List.map_toArray, List.map_cons, List.map_nil]); first | done | (simp only [hji19]; rfl) | rfl | (simp only [List.length_drop, List.length_take]; rfl)) ?_
                        with_reducible refine (impl_PortsParse.calls kj4 (((t124.extract 0 ((ji19) : Int).toNat) ++ (strOfNums y128)) ++ (t124.extract ((ji19) : Int).toNat t124.size)) t131 t132 t133 _ A26.out).mono ?_
                        rintro e w34 ⟨rfl, hb⟩
                        refine ⟨_, rfl, ?_⟩
                        have n0_ := Aside0.mk (Kd.R_below (by (with_reducible repeat (first | apply Kd.R_alloc | apply Kd.R_drewN | apply Kd.R_drew)); exact HO130.out) hb)
                        have n1_ := Aside0.mk (below_step (by repeat (first | (with_reducible first | exact HB.out | apply below_alloc | apply pw_below_drewN | apply below_drew1) | exact HB.out)) hb)
                        clear HO130
                        clear HB
                        have HO130 := n0_
                        have HB := n1_
                        clear n0_ n1_
                        (try clear hb)
                        (try clear hb2)
                        (try clear hk)
                        (try clear hi)
                        refine hK.out _ _ trivial (fun hHeld => ?_)
                        clear hK K
                        refine norm_ (a' := ?_) ?_ ?_
                        rotate_left
                        · show Act.put _ (some 68) _ = _
                          simp only [Act.put, List.setIfInBounds_toArray, List.set_cons_zero, List.set_cons_succ, i64_w, i32_w]
                          rfl
                        refine pure_ (i := 14) (N := some 54) (v := ?_) (a' := ?_) #[true, true, true, true, true, true, true, true, true, true, true, true, true, true, true, false, false, false, false, false, false] rfl rfl (any_of HT_.out (by kernel_rfl)) (fun _ _ _ h => h) (Or.inl ⟨by rfl, ?_⟩) ?_ ?_
                        rotate_left
                        · intro w'
                          go_simp
                          first | with_reducible rfl | (rw [if_neg (by have c22_ := c22; rw [ByteArray.size_extract] at c22_; have c21_ := of_eq_true c21b0; omega)]) | (rw [if_neg (by have c25_ := c25; rw [ByteArray.size_append, ByteArray.size_extract, ByteArray.size_extract] at c25_; have c21_ := of_eq_true c21b0; omega)])
                        rotate_left
                        · simp only [Act.put, List.setIfInBounds_toArray, List.set_cons_zero, List.set_cons_succ, i64_w, i32_w]
                          rfl
                        refine pure_ (i := 15) (N := some 69) (v := ?_) (a' := ?_) #[true, true, true, true, true, true, true, true, true, true, true, true, true, true, true, true, false, false, false, false, false] rfl rfl (any_of HT_.out (by kernel_rfl)) (fun _ _ _ h => h) (Or.inl ⟨by rfl, ?_⟩) ?_ ?_
                        rotate_left
                        · intro w'
                          go_simp
                          first | with_reducible rfl | (rw [if_neg (by have c22_ := c22; rw [ByteArray.size_extract] at c22_; have c21_ := of_eq_true c21b0; omega)]) | (rw [if_neg (by have c25_ := c25; rw [ByteArray.size_append, ByteArray.size_extract, ByteArray.size_extract] at c25_; have c21_ := of_eq_true c21b0; omega)])
                        rotate_left
                        · simp only [Act.put, List.setIfInBounds_toArray, List.set_cons_zero, List.set_cons_succ, i64_w, i32_w]
                          rfl
                        refine pure_ (i := 16) (N := some 70) (v := ?_) (a' := ?_) #[true, true, true, true, true, true, true, true, true, true, true, true, true, true, true, true, true, false, false, false, false] rfl rfl (any_of HT_.out (by kernel_rfl)) (fun _ _ _ h => h) (Or.inl ⟨by rfl, ?_⟩) ?_ ?_
                        rotate_left
                        · intro w'
                          go_simp
                          first | with_reducible rfl | (rw [if_neg (by have c22_ := c22; rw [ByteArray.size_extract] at c22_; have c21_ := of_eq_true c21b0; omega)]) | (rw [if_neg (by have c25_ := c25; rw [ByteArray.size_append, ByteArray.size_extract, ByteArray.size_extract] at c25_; have c21_ := of_eq_true c21b0; omega)])
                        rotate_left
                        · simp only [Act.put, List.setIfInBounds_toArray, List.set_cons_zero, List.set_cons_succ, i64_w, i32_w]
                          rfl
                        refine pure_ (i := 17) (N := some 71) (v := ?_) (a' := ?_) #[true, true, true, true, true, true, true, true, true, true, true, true, true, true, true, true, true, true, false, false, false] rfl rfl (any_of HT_.out (by kernel_rfl)) (fun _ _ _ h => h) (Or.inl ⟨by rfl, ?_⟩) ?_ ?_
                        rotate_left
                        · intro w'
                          go_simp
                          first | with_reducible rfl | (rw [if_neg (by have c22_ := c22; rw [ByteArray.size_extract] at c22_; have c21_ := of_eq_true c21b0; omega)]) | (rw [if_neg (by have c25_ := c25; rw [ByteArray.size_append, ByteArray.size_extract, ByteArray.size_extract] at c25_; have c21_ := of_eq_true c21b0; omega)])
                        rotate_left
                        · simp only [Act.put, List.setIfInBounds_toArray, List.set_cons_zero, List.set_cons_succ, i64_w, i32_w]
                          rfl
                        refine pure_ (i := 18) (N := some 14) (v := ?_) (a' := ?_) #[true, true, true, true, true, true, true, true, true, true, true, true, true, true, true, true, true, true, true, false, false] rfl rfl (any_of HT_.out (by kernel_rfl)) (fun _ _ _ h => h) (Or.inl ⟨by rfl, ?_⟩) ?_ ?_
                        rotate_left
                        · intro w'
                          go_simp
                          first | with_reducible rfl | (rw [if_neg (by have c22_ := c22; rw [ByteArray.size_extract] at c22_; have c21_ := of_eq_true c21b0; omega)]) | (rw [if_neg (by have c25_ := c25; rw [ByteArray.size_append, ByteArray.size_extract, ByteArray.size_extract] at c25_; have c21_ := of_eq_true c21b0; omega)])
                        rotate_left
                        · simp only [Act.put, List.setIfInBounds_toArray, List.set_cons_zero, List.set_cons_succ, i64_w, i32_w]
                          rfl
                        refine pure_ (i := 19) (N := some 15) (v := ?_) (a' := ?_) #[true, true, true, true, true, true, true, true, true, true, true, true, true, true, true, true, true, true, true, true, false] rfl rfl (any_of HT_.out (by kernel_rfl)) (fun _ _ _ h => h) (Or.inl ⟨by rfl, ?_⟩) ?_ ?_
                        rotate_left
                        · intro w'
                          go_simp
                          first | with_reducible rfl | (rw [if_neg (by have c22_ := c22; rw [ByteArray.size_extract] at c22_; have c21_ := of_eq_true c21b0; omega)]) | (rw [if_neg (by have c25_ := c25; rw [ByteArray.size_append, ByteArray.size_extract, ByteArray.size_extract] at c25_; have c21_ := of_eq_true c21b0; omega)])
                        rotate_left
                        · simp only [Act.put, List.setIfInBounds_toArray, List.set_cons_zero, List.set_cons_succ, i64_w, i32_w]
                          rfl
                        refine pure_ (i := 20) (N := some 16) (v := ?_) (a' := ?_) #[true, true, true, true, true, true, true, true, true, true, true, true, true, true, true, true, true, true, true, true, true] rfl rfl (any_of HT_.out (by kernel_rfl)) (fun _ _ _ h => h) (Or.inl ⟨by rfl, ?_⟩) ?_ ?_
                        rotate_left
                        · intro w'
                          go_simp
                          first | with_reducible rfl | (rw [if_neg (by have c22_ := c22; rw [ByteArray.size_extract] at c22_; have c21_ := of_eq_true c21b0; omega)]) | (rw [if_neg (by have c25_ := c25; rw [ByteArray.size_append, ByteArray.size_extract, ByteArray.size_extract] at c25_; have c21_ := of_eq_true c21b0; omega)])
                        rotate_left
                        · simp only [Act.put, List.setIfInBounds_toArray, List.set_cons_zero, List.set_cons_succ, i64_w, i32_w]
                          rfl
                        refine done_ (done_of HT_.out (by kernel_rfl)) ?_
                        try go_wp2
                        go_ret
                        exact ⟨by first | rfl | (simp [errW_none, errW_some] <;> rfl) | (simp only [← hji19]; first | rfl | (simp [errW_none, errW_some] <;> rfl)) | (simp [*, errW_none, errW_some] <;> rfl), by repeat (first | (with_reducible first | exact HB.out | apply below_alloc | apply pw_below_drewN | apply below_drew1) | exact HB.out)⟩
                      · replace c27 := Bool.eq_false_iff.mpr c27
                        subst c27
                        have H1 : (some t133) = some r := by rw [if_neg (show ¬ (false = true) by decide)] at H; exact H
                        clear H
                        have H := H1
                        clear H1
                        obtain rfl := Option.some.inj H
                        try go_wp2_with (first | ((with_reducible refine gate_callee (f := 9) rfl ?_); refine goesL_ (some 33) rfl rfl Tryd.func9 (by kernel_rfl) rfl #[.int .i64 1, .int .i64 a0, .int .i64 a1] rfl (by (try simp only [List.map_toArray, List.map_cons, List.map_nil]); first | done | rfl | (simp only [List.length_drop, List.length_take]; rfl)) ?_; (with_reducible refine (spec_PortsText.calls kj4 1 a0 a1 t124 _ A10.out).mono ?_); rintro e w35 ⟨rfl, hb⟩; refine ⟨_, rfl, ?_⟩; have n0_ := Aside0.mk (below_step (by repeat (first | (with_reducible first | exact HB.out | apply below_alloc | apply pw_below_drewN | apply below_drew1) | exact HB.out)) hb); clear HB; have HB := n0_; clear n0_; (try clear hb); (try clear hb2); (try clear hk); (try clear hi)) | ((with_reducible refine gate_callee (f := 8) rfl ?_); refine goesL_ (some 36) rfl rfl Tryd.func8 (by kernel_rfl) rfl #[.string t124] rfl (by (try simp only [List.map_toArray, List.map_cons, List.map_nil]); first | done | rfl | (simp only [List.length_drop, List.length_take]; rfl)) ?_; (with_reducible refine (impl_PortsParse.calls kj4 t124 t125 t126 false _ A11.out).mono ?_); rintro e w36 ⟨rfl, hb⟩; refine ⟨_, rfl, ?_⟩; have n0_ := Aside0.mk (below_step (by repeat (first | (with_reducible first | exact HB.out | apply below_alloc | apply pw_below_drewN | apply below_drew1) | exact HB.out)) hb); clear HB; have HB := n0_; clear n0_; (try clear hb); (try clear hb2); (try clear hk); (try clear hi)))
                        have n0_ := Aside0.mk (below_drew1 HB.out)
                        clear HB
                        have HB := n0_
                        clear n0_
                        refine start_ (n := 21) (S := fun w' => True) (ds := []) #[false, false, false, false, false, false, false, false, false, false, false, false, false, false, false, false, false, false, false, false, false] (by kernel_rfl) rfl rfl trivial (fun hHeld => ?_); refine with_tabW laws_FnPortsWrong.tab8 laws_FnPortsWrong.bits8 (fun HT_ HW_ => ?_)
                        generalize w36.drew = w37 at HB hHeld ⊢
                        refine pure_ (i := 0) (N := some 55) (v := ?_) (a' := ?_) #[true, false, false, false, false, false, false, false, false, false, false, false, false, false, false, false, false, false, false, false, false] rfl rfl (any_of HT_.out (by kernel_rfl)) (fun _ _ _ h => h) (Or.inl ⟨by rfl, ?_⟩) ?_ ?_
                        rotate_left
                        · intro w'
                          go_simp
                          first | with_reducible rfl | (rw [if_neg (by have c22_ := c22; rw [ByteArray.size_extract] at c22_; have c21_ := of_eq_true c21b0; omega)]) | (rw [if_neg (by have c25_ := c25; rw [ByteArray.size_append, ByteArray.size_extract, ByteArray.size_extract] at c25_; have c21_ := of_eq_true c21b0; omega)])
                        rotate_left
                        · simp only [Act.put, List.setIfInBounds_toArray, List.set_cons_zero, List.set_cons_succ, i64_w, i32_w]
                          rfl
                        refine pure_ (i := 1) (N := some 56) (v := ?_) (a' := ?_) #[true, true, false, false, false, false, false, false, false, false, false, false, false, false, false, false, false, false, false, false, false] rfl rfl (any_of HT_.out (by kernel_rfl)) (fun _ _ _ h => h) (Or.inl ⟨by rfl, ?_⟩) ?_ ?_
                        rotate_left
                        · intro w'
                          go_simp
                          first | with_reducible rfl | (rw [if_neg (by have c22_ := c22; rw [ByteArray.size_extract] at c22_; have c21_ := of_eq_true c21b0; omega)]) | (rw [if_neg (by have c25_ := c25; rw [ByteArray.size_append, ByteArray.size_extract, ByteArray.size_extract] at c25_; have c21_ := of_eq_true c21b0; omega)])
                        rotate_left
                        · simp only [Act.put, List.setIfInBounds_toArray, List.set_cons_zero, List.set_cons_succ, i64_w, i32_w]
                          rfl
                        refine pure_ (i := 2) (N := some 57) (v := ?_) (a' := ?_) #[true, true, true, false, false, false, false, false, false, false, false, false, false, false, false, false, false, false, false, false, false] rfl rfl (any_of HT_.out (by kernel_rfl)) (fun _ _ _ h => h) (Or.inl ⟨by rfl, ?_⟩) ?_ ?_
                        rotate_left
                        · intro w'
                          go_simp
                          first | with_reducible rfl | (rw [if_neg (by have c22_ := c22; rw [ByteArray.size_extract] at c22_; have c21_ := of_eq_true c21b0; omega)]) | (rw [if_neg (by have c25_ := c25; rw [ByteArray.size_append, ByteArray.size_extract, ByteArray.size_extract] at c25_; have c21_ := of_eq_true c21b0; omega)])
                        rotate_left
                        · simp only [Act.put, List.setIfInBounds_toArray, List.set_cons_zero, List.set_cons_succ, i64_w, i32_w]
                          rfl
                        refine pure_ (i := 3) (N := some 58) (v := ?_) (a' := ?_) #[true, true, true, true, false, false, false, false, false, false, false, false, false, false, false, false, false, false, false, false, false] rfl rfl (any_of HT_.out (by kernel_rfl)) (fun _ _ _ h => h) (Or.inl ⟨by rfl, ?_⟩) ?_ ?_
                        rotate_left
                        · intro w'
                          go_simp
                          first | with_reducible rfl | (rw [if_neg (by have c22_ := c22; rw [ByteArray.size_extract] at c22_; have c21_ := of_eq_true c21b0; omega)]) | (rw [if_neg (by have c25_ := c25; rw [ByteArray.size_append, ByteArray.size_extract, ByteArray.size_extract] at c25_; have c21_ := of_eq_true c21b0; omega)])
                        rotate_left
                        · simp only [Act.put, List.setIfInBounds_toArray, List.set_cons_zero, List.set_cons_succ, i64_w, i32_w]
                          rfl
                        refine pure_ (i := 4) (N := some 59) (v := ?_) (a' := ?_) #[true, true, true, true, true, false, false, false, false, false, false, false, false, false, false, false, false, false, false, false, false] rfl rfl (any_of HT_.out (by kernel_rfl)) (fun _ _ _ h => h) (Or.inl ⟨by rfl, ?_⟩) ?_ ?_
                        rotate_left
                        · intro w'
                          go_simp
                          first | with_reducible rfl | (rw [if_neg (by have c22_ := c22; rw [ByteArray.size_extract] at c22_; have c21_ := of_eq_true c21b0; omega)]) | (rw [if_neg (by have c25_ := c25; rw [ByteArray.size_append, ByteArray.size_extract, ByteArray.size_extract] at c25_; have c21_ := of_eq_true c21b0; omega)])
                        rotate_left
                        · simp only [Act.put, List.setIfInBounds_toArray, List.set_cons_zero, List.set_cons_succ, i64_w, i32_w]
                          rfl
                        refine pure_ (i := 5) (N := some 60) (v := ?_) (a' := ?_) #[true, true, true, true, true, true, false, false, false, false, false, false, false, false, false, false, false, false, false, false, false] rfl rfl (any_of HT_.out (by kernel_rfl)) (fun _ _ _ h => h) (Or.inl ⟨by rfl, ?_⟩) ?_ ?_
                        rotate_left
                        · intro w'
                          go_simp
                          first | with_reducible rfl | (rw [if_neg (by have c22_ := c22; rw [ByteArray.size_extract] at c22_; have c21_ := of_eq_true c21b0; omega)]) | (rw [if_neg (by have c25_ := c25; rw [ByteArray.size_append, ByteArray.size_extract, ByteArray.size_extract] at c25_; have c21_ := of_eq_true c21b0; omega)])
                        rotate_left
                        · simp only [Act.put, List.setIfInBounds_toArray, List.set_cons_zero, List.set_cons_succ, i64_w, i32_w]
                          rfl
                        refine pure_ (i := 9) (N := some 64) (v := ?_) (a' := ?_) #[true, true, true, true, true, true, false, false, false, true, false, false, false, false, false, false, false, false, false, false, false] rfl rfl (any_of HT_.out (by kernel_rfl)) (fun _ _ _ h => h) (Or.inl ⟨by rfl, ?_⟩) ?_ ?_
                        rotate_left
                        · intro w'
                          go_simp
                          first | with_reducible rfl | (rw [if_neg (by have c22_ := c22; rw [ByteArray.size_extract] at c22_; have c21_ := of_eq_true c21b0; omega)]) | (rw [if_neg (by have c25_ := c25; rw [ByteArray.size_append, ByteArray.size_extract, ByteArray.size_extract] at c25_; have c21_ := of_eq_true c21b0; omega)])
                        rotate_left
                        · simp only [Act.put, List.setIfInBounds_toArray, List.set_cons_zero, List.set_cons_succ, i64_w, i32_w]
                          rfl
                        refine pure_ (i := 10) (N := some 65) (v := ?_) (a' := ?_) #[true, true, true, true, true, true, false, false, false, true, true, false, false, false, false, false, false, false, false, false, false] rfl rfl (any_of HT_.out (by kernel_rfl)) (fun _ _ _ h => h) (Or.inl ⟨by rfl, ?_⟩) ?_ ?_
                        rotate_left
                        · intro w'
                          go_simp
                          first | with_reducible rfl | (rw [if_neg (by have c22_ := c22; rw [ByteArray.size_extract] at c22_; have c21_ := of_eq_true c21b0; omega)]) | (rw [if_neg (by have c25_ := c25; rw [ByteArray.size_append, ByteArray.size_extract, ByteArray.size_extract] at c25_; have c21_ := of_eq_true c21b0; omega)])
                        rotate_left
                        · simp only [Act.put, List.setIfInBounds_toArray, List.set_cons_zero, List.set_cons_succ, i64_w, i32_w]
                          rfl
                        refine pure_ (i := 11) (N := some 66) (v := ?_) (a' := ?_) #[true, true, true, true, true, true, false, false, false, true, true, true, false, false, false, false, false, false, false, false, false] rfl rfl (any_of HT_.out (by kernel_rfl)) (fun _ _ _ h => h) (Or.inl ⟨by rfl, ?_⟩) ?_ ?_
                        rotate_left
                        · intro w'
                          go_simp
                          first | with_reducible rfl | (rw [if_neg (by have c22_ := c22; rw [ByteArray.size_extract] at c22_; have c21_ := of_eq_true c21b0; omega)]) | (rw [if_neg (by have c25_ := c25; rw [ByteArray.size_append, ByteArray.size_extract, ByteArray.size_extract] at c25_; have c21_ := of_eq_true c21b0; omega)])
                        rotate_left
                        · simp only [Act.put, List.setIfInBounds_toArray, List.set_cons_zero, List.set_cons_succ, i64_w, i32_w]
                          rfl
                        refine one_ (i := 6) (N := some 61) #[true, true, true, true, true, true, true, false, false, true, true, true, false, false, false, false, false, false, false, false, false] rfl rfl (one_of HT_.out (by kernel_rfl)) (by decide) (fun K hK => ?_)
                        refine Kd.R_lit_step (Kd.int .u8) _ 5 ?hg (N := 61) ?hd (xs := ([(97 + (Int.tmod a3 26)) % 256] : List Int)) (inner := [.int .u8 ((97 + (Int.tmod a3 26)) % 256)]) (ok := fun _ => True) (okp := fun _ => True) ?hr ?hp (fun _ hk => hk) trivial (Below.refl _ _) (Nat.le_refl _) (by simp) ?_; (case hd => rfl); (case hg => rfl); (case hr => first | (go_simp; done) | (go_simp; rfl) | (go_simp; simp [IntKind.wrap_u8]; done)); (case hp => exact (Reps.one (show Kd.M (Kd.int .u8) _ _ _ ((97 + (Int.tmod a3 26)) % 256) [.int .u8 ((97 + (Int.tmod a3 26)) % 256)] from rfl) (Reps.none _ _)))
                        intro v129 w38 ho39 hb hg_ hnew_
                        clear hg_ hnew_
                        (first | rw [← Ny128.out] at ho39 | (simp only [Int.reduceToNat] at ho39; rw [← Ny128.out] at ho39))
                        have n0_ := Aside0.mk (Kd.R_lower ho39 (below_size (by repeat (first | (with_reducible first | exact HB.out | apply below_alloc | apply pw_below_drewN | apply below_drew1) | exact HB.out))))
                        have n1_ := Aside0.mk (below_step (by repeat (first | (with_reducible first | exact HB.out | apply below_alloc | apply pw_below_drewN | apply below_drew1) | exact HB.out)) hb)
                        clear HB
                        have HO130 := n0_
                        have HB := n1_
                        clear n0_ n1_
                        clear hb ho39
                        refine hK.out _ _ trivial (fun hHeld => ?_)
                        clear hK K
                        refine norm_ (a' := ?_) ?_ ?_
                        rotate_left
                        · show Act.put _ (some 61) _ = _
                          simp only [Act.put, List.setIfInBounds_toArray, List.set_cons_zero, List.set_cons_succ, i64_w, i32_w]
                          rfl
                        refine one_ (i := 7) (N := some 62) #[true, true, true, true, true, true, true, true, false, true, true, true, false, false, false, false, false, false, false, false, false] rfl rfl (one_of HT_.out (by kernel_rfl)) (by decide) (fun K hK => ?_)
                        have hcv40 := own_string (P := Tryd.prog) Tryd.underlying27 Tryd.underlying5 Tryd.underlying9 (Kd.own_of_R HO130.out)
                        refine value_ (w1 := ?_) (v := ?_) (by rfl) rfl ?_ ?_
                        rotate_left 2
                        · go_simp
                          constructor
                          · rfl
                          · rfl
                        clear hcv40
                        refine hK.out _ _ trivial (fun hHeld => ?_)
                        clear hK K
                        refine norm_ (a' := ?_) ?_ ?_
                        rotate_left
                        · show Act.put _ (some 62) _ = _
                          simp only [Act.put, List.setIfInBounds_toArray, List.set_cons_zero, List.set_cons_succ, i64_w, i32_w]
                          rfl
                        refine pure_ (i := 8) (N := some 63) (v := ?_) (a' := ?_) #[true, true, true, true, true, true, true, true, true, true, true, true, false, false, false, false, false, false, false, false, false] rfl rfl (any_of HT_.out (by kernel_rfl)) (fun _ _ _ h => h) (Or.inl ⟨by rfl, ?_⟩) ?_ ?_
                        rotate_left
                        · intro w'
                          go_simp
                          first | with_reducible rfl | (rw [if_neg (by have c22_ := c22; rw [ByteArray.size_extract] at c22_; have c21_ := of_eq_true c21b0; omega)]) | (rw [if_neg (by have c25_ := c25; rw [ByteArray.size_append, ByteArray.size_extract, ByteArray.size_extract] at c25_; have c21_ := of_eq_true c21b0; omega)])
                        rotate_left
                        · simp only [Act.put, List.setIfInBounds_toArray, List.set_cons_zero, List.set_cons_succ, i64_w, i32_w]
                          rfl
                        refine pure_ (i := 12) (N := some 67) (v := ?_) (a' := ?_) #[true, true, true, true, true, true, true, true, true, true, true, true, true, false, false, false, false, false, false, false, false] rfl rfl (any_of HT_.out (by kernel_rfl)) (fun _ _ _ h => h) (Or.inl ⟨by rfl, ?_⟩) ?_ ?_
                        rotate_left
                        · intro w'
                          go_simp
                          first | with_reducible rfl | (rw [if_neg (by have c22_ := c22; rw [ByteArray.size_extract] at c22_; have c21_ := of_eq_true c21b0; omega)]) | (rw [if_neg (by have c25_ := c25; rw [ByteArray.size_append, ByteArray.size_extract, ByteArray.size_extract] at c25_; have c21_ := of_eq_true c21b0; omega)])
                        rotate_left
                        · simp only [Act.put, List.setIfInBounds_toArray, List.set_cons_zero, List.set_cons_succ, i64_w, i32_w]
                          rfl
                        refine one_ (i := 13) (N := some 68) #[true, true, true, true, true, true, true, true, true, true, true, true, true, true, false, false, false, false, false, false, false] rfl rfl (one_of HT_.out (by kernel_rfl)) (by decide) (fun K hK => ?_)
                        refine goes_ Tryd.func8 (by kernel_rfl) rfl #[.string (((t124.extract 0 ((ji19) : Int).toNat) ++ (strOfNums y128)) ++ (t124.extract ((ji19) : Int).toNat t124.size))] (by rfl) rfl rfl (by (try simp only [List.map_toArray, List.map_cons, List.map_nil]); first | done | (simp only [hji19]; rfl) | rfl | (simp only [List.length_drop, List.length_take]; rfl)) ?_
                        with_reducible refine (impl_PortsParse.calls kj4 (((t124.extract 0 ((ji19) : Int).toNat) ++ (strOfNums y128)) ++ (t124.extract ((ji19) : Int).toNat t124.size)) t131 t132 t133 _ A26.out).mono ?_
                        rintro e w41 ⟨rfl, hb⟩
                        refine ⟨_, rfl, ?_⟩
                        have n0_ := Aside0.mk (Kd.R_below (by (with_reducible repeat (first | apply Kd.R_alloc | apply Kd.R_drewN | apply Kd.R_drew)); exact HO130.out) hb)
                        have n1_ := Aside0.mk (below_step (by repeat (first | (with_reducible first | exact HB.out | apply below_alloc | apply pw_below_drewN | apply below_drew1) | exact HB.out)) hb)
                        clear HO130
                        clear HB
                        have HO130 := n0_
                        have HB := n1_
                        clear n0_ n1_
                        (try clear hb)
                        (try clear hb2)
                        (try clear hk)
                        (try clear hi)
                        refine hK.out _ _ trivial (fun hHeld => ?_)
                        clear hK K
                        refine norm_ (a' := ?_) ?_ ?_
                        rotate_left
                        · show Act.put _ (some 68) _ = _
                          simp only [Act.put, List.setIfInBounds_toArray, List.set_cons_zero, List.set_cons_succ, i64_w, i32_w]
                          rfl
                        refine pure_ (i := 14) (N := some 54) (v := ?_) (a' := ?_) #[true, true, true, true, true, true, true, true, true, true, true, true, true, true, true, false, false, false, false, false, false] rfl rfl (any_of HT_.out (by kernel_rfl)) (fun _ _ _ h => h) (Or.inl ⟨by rfl, ?_⟩) ?_ ?_
                        rotate_left
                        · intro w'
                          go_simp
                          first | with_reducible rfl | (rw [if_neg (by have c22_ := c22; rw [ByteArray.size_extract] at c22_; have c21_ := of_eq_true c21b0; omega)]) | (rw [if_neg (by have c25_ := c25; rw [ByteArray.size_append, ByteArray.size_extract, ByteArray.size_extract] at c25_; have c21_ := of_eq_true c21b0; omega)])
                        rotate_left
                        · simp only [Act.put, List.setIfInBounds_toArray, List.set_cons_zero, List.set_cons_succ, i64_w, i32_w]
                          rfl
                        refine pure_ (i := 15) (N := some 69) (v := ?_) (a' := ?_) #[true, true, true, true, true, true, true, true, true, true, true, true, true, true, true, true, false, false, false, false, false] rfl rfl (any_of HT_.out (by kernel_rfl)) (fun _ _ _ h => h) (Or.inl ⟨by rfl, ?_⟩) ?_ ?_
                        rotate_left
                        · intro w'
                          go_simp
                          first | with_reducible rfl | (rw [if_neg (by have c22_ := c22; rw [ByteArray.size_extract] at c22_; have c21_ := of_eq_true c21b0; omega)]) | (rw [if_neg (by have c25_ := c25; rw [ByteArray.size_append, ByteArray.size_extract, ByteArray.size_extract] at c25_; have c21_ := of_eq_true c21b0; omega)])
                        rotate_left
                        · simp only [Act.put, List.setIfInBounds_toArray, List.set_cons_zero, List.set_cons_succ, i64_w, i32_w]
                          rfl
                        refine pure_ (i := 16) (N := some 70) (v := ?_) (a' := ?_) #[true, true, true, true, true, true, true, true, true, true, true, true, true, true, true, true, true, false, false, false, false] rfl rfl (any_of HT_.out (by kernel_rfl)) (fun _ _ _ h => h) (Or.inl ⟨by rfl, ?_⟩) ?_ ?_
                        rotate_left
                        · intro w'
                          go_simp
                          first | with_reducible rfl | (rw [if_neg (by have c22_ := c22; rw [ByteArray.size_extract] at c22_; have c21_ := of_eq_true c21b0; omega)]) | (rw [if_neg (by have c25_ := c25; rw [ByteArray.size_append, ByteArray.size_extract, ByteArray.size_extract] at c25_; have c21_ := of_eq_true c21b0; omega)])
                        rotate_left
                        · simp only [Act.put, List.setIfInBounds_toArray, List.set_cons_zero, List.set_cons_succ, i64_w, i32_w]
                          rfl
                        refine pure_ (i := 17) (N := some 71) (v := ?_) (a' := ?_) #[true, true, true, true, true, true, true, true, true, true, true, true, true, true, true, true, true, true, false, false, false] rfl rfl (any_of HT_.out (by kernel_rfl)) (fun _ _ _ h => h) (Or.inl ⟨by rfl, ?_⟩) ?_ ?_
                        rotate_left
                        · intro w'
                          go_simp
                          first | with_reducible rfl | (rw [if_neg (by have c22_ := c22; rw [ByteArray.size_extract] at c22_; have c21_ := of_eq_true c21b0; omega)]) | (rw [if_neg (by have c25_ := c25; rw [ByteArray.size_append, ByteArray.size_extract, ByteArray.size_extract] at c25_; have c21_ := of_eq_true c21b0; omega)])
                        rotate_left
                        · simp only [Act.put, List.setIfInBounds_toArray, List.set_cons_zero, List.set_cons_succ, i64_w, i32_w]
                          rfl
                        refine pure_ (i := 18) (N := some 14) (v := ?_) (a' := ?_) #[true, true, true, true, true, true, true, true, true, true, true, true, true, true, true, true, true, true, true, false, false] rfl rfl (any_of HT_.out (by kernel_rfl)) (fun _ _ _ h => h) (Or.inl ⟨by rfl, ?_⟩) ?_ ?_
                        rotate_left
                        · intro w'
                          go_simp
                          first | with_reducible rfl | (rw [if_neg (by have c22_ := c22; rw [ByteArray.size_extract] at c22_; have c21_ := of_eq_true c21b0; omega)]) | (rw [if_neg (by have c25_ := c25; rw [ByteArray.size_append, ByteArray.size_extract, ByteArray.size_extract] at c25_; have c21_ := of_eq_true c21b0; omega)])
                        rotate_left
                        · simp only [Act.put, List.setIfInBounds_toArray, List.set_cons_zero, List.set_cons_succ, i64_w, i32_w]
                          rfl
                        refine pure_ (i := 19) (N := some 15) (v := ?_) (a' := ?_) #[true, true, true, true, true, true, true, true, true, true, true, true, true, true, true, true, true, true, true, true, false] rfl rfl (any_of HT_.out (by kernel_rfl)) (fun _ _ _ h => h) (Or.inl ⟨by rfl, ?_⟩) ?_ ?_
                        rotate_left
                        · intro w'
                          go_simp
                          first | with_reducible rfl | (rw [if_neg (by have c22_ := c22; rw [ByteArray.size_extract] at c22_; have c21_ := of_eq_true c21b0; omega)]) | (rw [if_neg (by have c25_ := c25; rw [ByteArray.size_append, ByteArray.size_extract, ByteArray.size_extract] at c25_; have c21_ := of_eq_true c21b0; omega)])
                        rotate_left
                        · simp only [Act.put, List.setIfInBounds_toArray, List.set_cons_zero, List.set_cons_succ, i64_w, i32_w]
                          rfl
                        refine pure_ (i := 20) (N := some 16) (v := ?_) (a' := ?_) #[true, true, true, true, true, true, true, true, true, true, true, true, true, true, true, true, true, true, true, true, true] rfl rfl (any_of HT_.out (by kernel_rfl)) (fun _ _ _ h => h) (Or.inl ⟨by rfl, ?_⟩) ?_ ?_
                        rotate_left
                        · intro w'
                          go_simp
                          first | with_reducible rfl | (rw [if_neg (by have c22_ := c22; rw [ByteArray.size_extract] at c22_; have c21_ := of_eq_true c21b0; omega)]) | (rw [if_neg (by have c25_ := c25; rw [ByteArray.size_append, ByteArray.size_extract, ByteArray.size_extract] at c25_; have c21_ := of_eq_true c21b0; omega)])
                        rotate_left
                        · simp only [Act.put, List.setIfInBounds_toArray, List.set_cons_zero, List.set_cons_succ, i64_w, i32_w]
                          rfl
                        refine done_ (done_of HT_.out (by kernel_rfl)) ?_
                        try go_wp2
                        go_ret
                        exact ⟨by first | rfl | (simp [errW_none, errW_some] <;> rfl) | (simp only [← hji19]; first | rfl | (simp [errW_none, errW_some] <;> rfl)) | (simp [*, errW_none, errW_some] <;> rfl), by repeat (first | (with_reducible first | exact HB.out | apply below_alloc | apply pw_below_drewN | apply below_drew1) | exact HB.out)⟩
                    · rw [if_neg c25] at H
                      exact absurd H (by simp)
                  · rw [if_neg c22] at H
                    exact absurd H (by simp)
                · rw [if_neg c21] at H
                  exact absurd H (by simp)
              · rw [if_neg c20] at H
                exact absurd H (by simp)

/-- THE ONE PURE STATEMENT of laws_FnPortsWrong: yours. -/
def laws_FnPortsWrong.Pure : Prop := ∀ (a0 : Int) (a1 : Int) (a2 : Int) (a3 : Int), (Lit.int .i64 a0).wf = true → (Lit.int .i64 a1).wf = true → (Lit.int .u8 a2).wf = true → (Lit.int .u8 a3).wf = true → ∃ k, laws_FnPortsWrong.f k a0 a1 a2 a3 = some true
theorem laws_FnPortsWrong.walk (P : laws_FnPortsWrong.Pure) (a0 : Int) (a1 : Int) (a2 : Int) (a3 : Int) (w : World) (w0 : (Lit.int .i64 a0).wf = true) (w1 : (Lit.int .i64 a1).wf = true) (w2 : (Lit.int .u8 a2).wf = true) (w3 : (Lit.int .u8 a3).wf = true) (hV : Vars.Vars w := by first | assumption | exact Vars.Vars.below hV (by repeat (first | exact HB.out | exact HB | exact Below.refl _ _ | apply below_alloc | apply pw_below_drewN | apply below_drew1))) :
    Calls Tryd.prog 4 #[.int .i64 a0, .int .i64 a1, .int .u8 a2, .int .u8 a3] w fun e w' => e = .returned (.bool true) ∧ Below w.heap.size w w' := by
  obtain ⟨k, h⟩ := P a0 a1 a2 a3 w0 w1 w2 w3
  refine (laws_FnPortsWrong.calls k a0 a1 a2 a3 true w h).mono ?_
  rintro e w' ⟨rfl, hd⟩
  exact ⟨rfl, hd⟩

end Go.Proofs.YtmkpkpkcoieeiabDoor.XFnPortsWrong
