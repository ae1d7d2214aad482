-- PRINTED BY print.sh 35421559b90ae4d0a3588c463048766b98c2df88dd9212a6774a882060cdf62d: not written by this session
import Derived.Test.YtehgokciafpnbaaPFnNamedBackx0
import Derived.Test.YtehgokciafpnbaaPFnNamedBackx1
import Derived.Test.YtehgokciafpnbaaPFnNamedBackx2
namespace Go.Proofs.Ytehgokciafpnbaa.PFnNamedBack
open Go.RowKit Go.Proofs.YtehgokciafpnbaaW.PrintWords Go.Proofs.YtehgokciafpnbaaW.PrintLast Go.Proofs.YtehgokciafpnbaaW.PrintMore
attribute [local go_sem] max2_int min2_int max_two min_two max_three min_three max_four min_four   -- for this text's walks alone
set_option linter.unusedVariables false
set_option linter.unusedSimpArgs false

attribute [local go_sem high] eqA26
/-! ### laws_FnNamedBack: function 5 -/
mutual
def laws_FnNamedBack.j0 : Nat → ByteArray → ByteArray → ByteArray → Bool → Option (Bool)
  | 0, _, _, _, _ => none
  | k + 1, x0, x1, x2, x22 => if x22 = true then (some true) else ((spec_KindPlain.f k x1 (⟨#[46]⟩ : ByteArray)).bind fun t118 => (if t118 = true then ((impl_GroupKindText.f x0 x1).bind fun t119 => ((impl_GroupKindParse.f k t119).bind fun bt120 => (laws_FnNamedBack.j1 k x0 x1 x2 (!(bt120.1.toList == x0.toList) || (!(bt120.2.1.toList == ([] : List UInt8)) || (!(bt120.2.2.toList == x1.toList))))))) else (laws_FnNamedBack.j1 k x0 x1 x2 false)))
def laws_FnNamedBack.j1 : Nat → ByteArray → ByteArray → ByteArray → Bool → Option (Bool)
  | 0, _, _, _, _ => none
  | k + 1, x0, x1, x2, x34 => if x34 = true then (some false) else ((spec_KindPlain.f k x1 (⟨#[46]⟩ : ByteArray)).bind fun t123 => (if t123 = true then ((impl_GroupResourceText.f x0 x1).bind fun t124 => ((impl_GroupResourceParse.f k t124).bind fun bt125 => (laws_FnNamedBack.j2 k x2 (!(bt125.1.toList == x0.toList) || (!(bt125.2.1.toList == ([] : List UInt8)) || (!(bt125.2.2.toList == x1.toList))))))) else (laws_FnNamedBack.j2 k x2 false)))
def laws_FnNamedBack.j2 : Nat → ByteArray → Bool → Option (Bool)
  | 0, _, _ => none
  | k + 1, x2, x46 => if x46 = true then (some false) else ((impl_GroupKindParse.f k x2).bind fun bt128 => ((impl_GroupResourceParse.f k x2).bind fun bt131 => (if (bt128.2.2.size : Int) = (wrap64 ((x2.size : Int) - 1)) then (if bt128.1.toList = ([] : List UInt8) then (some true) else ((impl_GroupKindText.f bt128.1 bt128.2.2).bind fun t136 => (if t136.toList = x2.toList then ((impl_GroupResourceText.f bt131.1 bt131.2.2).bind fun t137 => (some (t137.toList == x2.toList))) else (some false)))) else ((impl_GroupKindText.f bt128.1 bt128.2.2).bind fun t138 => (if t138.toList = x2.toList then ((impl_GroupResourceText.f bt131.1 bt131.2.2).bind fun t139 => (some (t139.toList == x2.toList))) else (some false))))))
end
def laws_FnNamedBack.f (k : Nat) (a0 : ByteArray) (a1 : ByteArray) (a2 : ByteArray) : Option (Bool) := if (a0.size : Int) > 2147483647 then (laws_FnNamedBack.j0 k a0 a1 a2 true) else (if (a1.size : Int) > 2147483647 then (laws_FnNamedBack.j0 k a0 a1 a2 true) else (laws_FnNamedBack.j0 k a0 a1 a2 (decide ((a2.size : Int) > 2147483647))))
theorem laws_FnNamedBack.mono_l : ∀ k, (∀ y0 y1 y2 y3, LeO (laws_FnNamedBack.j0 k y0 y1 y2 y3) (laws_FnNamedBack.j0 (k + 1) y0 y1 y2 y3)) ∧ (∀ y0 y1 y2 y3, LeO (laws_FnNamedBack.j1 k y0 y1 y2 y3) (laws_FnNamedBack.j1 (k + 1) y0 y1 y2 y3)) ∧ (∀ y0 y1, LeO (laws_FnNamedBack.j2 k y0 y1) (laws_FnNamedBack.j2 (k + 1) y0 y1))
  | 0 => ⟨fun _ _ _ _ r h => by simp [laws_FnNamedBack.j0] at h, fun _ _ _ _ r h => by simp [laws_FnNamedBack.j1] at h, fun _ _ r h => by simp [laws_FnNamedBack.j2] at h⟩
  | k + 1 => by
    obtain ⟨ih0, ih1, ih2⟩ := laws_FnNamedBack.mono_l k
    refine ⟨?_, ?_, ?_⟩
    · intro y0 y1 y2 y3
      unfold laws_FnNamedBack.j0
      repeat' first
      | (with_reducible exact ih0 _ _ _ _)
      | (with_reducible exact ih1 _ _ _ _)
      | (with_reducible exact ih2 _ _)
      | (with_reducible exact impl_GroupKindParse.mono _ _)
      | (with_reducible exact impl_GroupResourceParse.mono _ _)
      | (with_reducible exact spec_KindPlain.mono _ _ _)
      | (with_reducible exact LeO.refl _)
      | (with_reducible exact LeO.none _)
      | (with_reducible refine LeO.ite ?_ ?_)
      | (with_reducible refine LeO.bind ?_ (fun _ => ?_))
      | exact ih0 _ _ _ _
      | exact ih1 _ _ _ _
      | exact ih2 _ _
      | exact impl_GroupKindParse.mono _ _
      | exact impl_GroupResourceParse.mono _ _
      | exact spec_KindPlain.mono _ _ _
      | exact LeO.none _
      | refine LeO.ite ?_ ?_
      | refine LeO.bind ?_ (fun _ => ?_)
    · intro y0 y1 y2 y3
      unfold laws_FnNamedBack.j1
      repeat' first
      | (with_reducible exact ih0 _ _ _ _)
      | (with_reducible exact ih1 _ _ _ _)
      | (with_reducible exact ih2 _ _)
      | (with_reducible exact impl_GroupKindParse.mono _ _)
      | (with_reducible exact impl_GroupResourceParse.mono _ _)
      | (with_reducible exact spec_KindPlain.mono _ _ _)
      | (with_reducible exact LeO.refl _)
      | (with_reducible exact LeO.none _)
      | (with_reducible refine LeO.ite ?_ ?_)
      | (with_reducible refine LeO.bind ?_ (fun _ => ?_))
      | exact ih0 _ _ _ _
      | exact ih1 _ _ _ _
      | exact ih2 _ _
      | exact impl_GroupKindParse.mono _ _
      | exact impl_GroupResourceParse.mono _ _
      | exact spec_KindPlain.mono _ _ _
      | exact LeO.none _
      | refine LeO.ite ?_ ?_
      | refine LeO.bind ?_ (fun _ => ?_)
    · intro y0 y1
      unfold laws_FnNamedBack.j2
      repeat' first
      | (with_reducible exact ih0 _ _ _ _)
      | (with_reducible exact ih1 _ _ _ _)
      | (with_reducible exact ih2 _ _)
      | (with_reducible exact impl_GroupKindParse.mono _ _)
      | (with_reducible exact impl_GroupResourceParse.mono _ _)
      | (with_reducible exact spec_KindPlain.mono _ _ _)
      | (with_reducible exact LeO.refl _)
      | (with_reducible exact LeO.none _)
      | (with_reducible refine LeO.ite ?_ ?_)
      | (with_reducible refine LeO.bind ?_ (fun _ => ?_))
      | exact ih0 _ _ _ _
      | exact ih1 _ _ _ _
      | exact ih2 _ _
      | exact impl_GroupKindParse.mono _ _
      | exact impl_GroupResourceParse.mono _ _
      | exact spec_KindPlain.mono _ _ _
      | exact LeO.none _
      | refine LeO.ite ?_ ?_
      | refine LeO.bind ?_ (fun _ => ?_)
theorem laws_FnNamedBack.mono : ∀ a0 a1 a2 k, LeO (laws_FnNamedBack.f k a0 a1 a2) (laws_FnNamedBack.f (k + 1) a0 a1 a2) := by
  intro a0 a1 a2 k
  obtain ⟨ih0, ih1, ih2⟩ := laws_FnNamedBack.mono_l k
  unfold laws_FnNamedBack.f
  repeat' first
      | (with_reducible exact ih0 _ _ _ _)
      | (with_reducible exact ih1 _ _ _ _)
      | (with_reducible exact ih2 _ _)
      | (with_reducible exact impl_GroupKindParse.mono _ _)
      | (with_reducible exact impl_GroupResourceParse.mono _ _)
      | (with_reducible exact spec_KindPlain.mono _ _ _)
      | (with_reducible exact LeO.refl _)
      | (with_reducible exact LeO.none _)
      | (with_reducible refine LeO.ite ?_ ?_)
      | (with_reducible refine LeO.bind ?_ (fun _ => ?_))
      | exact ih0 _ _ _ _
      | exact ih1 _ _ _ _
      | exact ih2 _ _
      | exact impl_GroupKindParse.mono _ _
      | exact impl_GroupResourceParse.mono _ _
      | exact spec_KindPlain.mono _ _ _
      | exact LeO.none _
      | refine LeO.ite ?_ ?_
      | refine LeO.bind ?_ (fun _ => ?_)
set_option maxHeartbeats 8000000 in
set_option maxRecDepth 100000 in
theorem laws_FnNamedBack.calls (k : Nat) (a0 : ByteArray) (a1 : ByteArray) (a2 : ByteArray) (r : Bool) (w : World) (h : laws_FnNamedBack.f k a0 a1 a2 = some r) :
    Calls Try.prog 5 #[.string a0, .string a1, .string a2] w fun e w' => e = .returned (.bool r) ∧ Below w.heap.size w w' := by
  have hu26 := Try.underlying26
  have HB := Aside0.mk (Below.refl w.heap.size w)
  have H : (if (a0.size : Int) > 2147483647 then (laws_FnNamedBack.j0 k a0 a1 a2 true) else (if (a1.size : Int) > 2147483647 then (laws_FnNamedBack.j0 k a0 a1 a2 true) else (laws_FnNamedBack.j0 k a0 a1 a2 (decide ((a2.size : Int) > 2147483647))))) = some r := h
  clear h
  have HC4 := Aside0.mk H
  clear H
  go_enter Try.func5, Try.ntmps5
  go_upto_region 1 with (fail)
  go_cut [22] (fun v22 wc => ∃ (kq : Nat) (x22_3 : Bool), v22 = .bool x22_3 ∧ Aside0 (laws_FnNamedBack.j0 kq a0 a1 a2 x22_3 = some r) ∧ Aside0 (kq ≤ k) ∧ Aside0 (Below w.heap.size w wc))
  case first =>
    have H := HC4.out
    clear HC4
    by_cases c5 : (a0.size : Int) > 2147483647
    · rw [if_pos c5] at H
      have c5b0 : decide (2147483647 < (a0.size : Int)) = true := decide_eq_true c5
      have c5b1 : decide (2147483647 < a0.size) = true := decide_eq_true (by omega)
      clear c5
      (first | rw [c5b0] | (simp only [i64_w, i32_w]; rw [c5b0]) | skip)
      have H' := Aside0.mk H
      clear H
      go_wp2
      go_meet
      case rel => exact ⟨_, (true), (by first | rfl | (simp; done) | (simp [*]; done)), H', ⟨by first | omega | exact Nat.le_refl _⟩, ⟨by repeat (first | (with_reducible first | exact HB.out | apply below_alloc | apply pw_below_drewN | apply below_drew1) | exact HB.out)⟩⟩
    · rw [if_neg c5] at H
      have c5b0 : decide (2147483647 < (a0.size : Int)) = false := decide_eq_false c5
      have c5b1 : decide (2147483647 < a0.size) = false := decide_eq_false (by omega)
      clear c5
      (first | rw [c5b0] | (simp only [i64_w, i32_w]; rw [c5b0]) | skip)
      by_cases c6 : (a1.size : Int) > 2147483647
      · rw [if_pos c6] at H
        have c6b0 : decide (2147483647 < (a1.size : Int)) = true := decide_eq_true c6
        have c6b1 : decide (2147483647 < a1.size) = true := decide_eq_true (by omega)
        clear c6
        have H' := Aside0.mk H
        clear H
        go_wp2
        go_meet
        case rel => exact ⟨_, (true), (by first | rfl | (simp; done) | (simp [*]; done)), H', ⟨by first | omega | exact Nat.le_refl _⟩, ⟨by repeat (first | (with_reducible first | exact HB.out | apply below_alloc | apply pw_below_drewN | apply below_drew1) | exact HB.out)⟩⟩
      · rw [if_neg c6] at H
        have c6b0 : decide (2147483647 < (a1.size : Int)) = false := decide_eq_false c6
        have c6b1 : decide (2147483647 < a1.size) = false := decide_eq_false (by omega)
        clear c6
        have H' := Aside0.mk H
        clear H
        go_wp2
        go_meet
        case rel => exact ⟨_, (decide ((a2.size : Int) > 2147483647)), (by first | rfl | (simp; done) | (simp [*]; done)), H', ⟨by first | omega | exact Nat.le_refl _⟩, ⟨by repeat (first | (with_reducible first | exact HB.out | apply below_alloc | apply pw_below_drewN | apply below_drew1) | exact HB.out)⟩⟩
  case rest =>
    clear HC4
    try clear p2
    try clear c5
    try clear c5b0
    try clear c5b1
    try clear c6
    try clear c6b0
    try clear c6b1
    obtain ⟨kq, x22_3, rfl, HA, HJ3, HB⟩ := hcut
    cases kq with
    | zero => exact absurd HA.out (by simp [laws_FnNamedBack.j0])
    | succ kj3 =>
      have H := HA.out
      clear HA
      simp only [laws_FnNamedBack.j0] at H
      by_cases c7 : x22_3 = true
      · subst c7
        have H1 : (some true) = some r := by rw [if_pos rfl] at H; exact H
        clear H
        have H := H1
        clear H1
        obtain rfl := Option.some.inj H
        go_wp2
        go_ret
        exact ⟨by first | rfl | (simp [errW_none, errW_some] <;> rfl) | (simp [*, errW_none, errW_some] <;> rfl), by repeat (first | (with_reducible first | exact HB.out | apply below_alloc | apply pw_below_drewN | apply below_drew1) | exact HB.out)⟩
      · replace c7 := Bool.eq_false_iff.mpr c7
        subst c7
        have H1 : ((spec_KindPlain.f kj3 a1 (⟨#[46]⟩ : ByteArray)).bind fun t118 => (if t118 = true then ((impl_GroupKindText.f a0 a1).bind fun t119 => ((impl_GroupKindParse.f kj3 t119).bind fun bt120 => (laws_FnNamedBack.j1 kj3 a0 a1 a2 (!(bt120.1.toList == a0.toList) || (!(bt120.2.1.toList == ([] : List UInt8)) || (!(bt120.2.2.toList == a1.toList))))))) else (laws_FnNamedBack.j1 kj3 a0 a1 a2 false))) = some r := by rw [if_neg (show ¬ (false = true) by decide)] at H; exact H
        clear H
        have H := H1
        clear H1
        have HC8 := Aside0.mk H
        clear H
        go_upto_region 3 with (fail)
        go_cut [34] (fun v34 wc => ∃ (kq : Nat) (x34_7 : Bool), v34 = .bool x34_7 ∧ Aside0 (laws_FnNamedBack.j1 kq a0 a1 a2 x34_7 = some r) ∧ Aside0 (kq ≤ kj3) ∧ Aside0 (Below w.heap.size w wc))
        case first =>
          have H := HC8.out
          clear HC8
          replace H := Option.bind_eq_some_iff.mp H
          obtain ⟨t118, A90, H⟩ := H
          replace H : (if t118 = true then ((impl_GroupKindText.f a0 a1).bind fun t119 => ((impl_GroupKindParse.f kj3 t119).bind fun bt120 => (laws_FnNamedBack.j1 kj3 a0 a1 a2 (!(bt120.1.toList == a0.toList) || (!(bt120.2.1.toList == ([] : List UInt8)) || (!(bt120.2.2.toList == a1.toList))))))) else (laws_FnNamedBack.j1 kj3 a0 a1 a2 false)) = some r := H
          have A9 := Aside0.mk A90
          clear A90
          by_cases c10 : t118 = true
          · subst c10
            have H1 : ((impl_GroupKindText.f a0 a1).bind fun t119 => ((impl_GroupKindParse.f kj3 t119).bind fun bt120 => (laws_FnNamedBack.j1 kj3 a0 a1 a2 (!(bt120.1.toList == a0.toList) || (!(bt120.2.1.toList == ([] : List UInt8)) || (!(bt120.2.2.toList == a1.toList))))))) = some r := by rw [if_pos rfl] at H; exact H
            clear H
            have H := H1
            clear H1
            replace H := Option.bind_eq_some_iff.mp H
            obtain ⟨t119, A110, H⟩ := H
            replace H : ((impl_GroupKindParse.f kj3 t119).bind fun bt120 => (laws_FnNamedBack.j1 kj3 a0 a1 a2 (!(bt120.1.toList == a0.toList) || (!(bt120.2.1.toList == ([] : List UInt8)) || (!(bt120.2.2.toList == a1.toList)))))) = some r := H
            have A11 := Aside0.mk A110
            clear A110
            replace H := Option.bind_eq_some_iff.mp H
            obtain ⟨⟨t120, t121, t122⟩, A120, H⟩ := H
            replace H : (laws_FnNamedBack.j1 kj3 a0 a1 a2 (!(t120.toList == a0.toList) || (!(t121.toList == ([] : List UInt8)) || (!(t122.toList == a1.toList))))) = some r := H
            have A12 := Aside0.mk A120
            clear A120
            have H' := Aside0.mk H
            clear H
            go_wp2_with (first | ((with_reducible refine gate_callee (f := 13) rfl ?_); refine goesL_ (some 24) rfl rfl Try.func13 (by kernel_rfl) rfl #[.string a1, .string (⟨#[46]⟩ : ByteArray)] rfl (by (try simp only [List.map_toArray, List.map_cons, List.map_nil]); first | done | rfl | (simp only [List.length_drop, List.length_take]; rfl)) ?_; (with_reducible refine (spec_KindPlain.calls kj3 a1 (⟨#[46]⟩ : ByteArray) true _ A9.out).mono ?_); rintro e w' ⟨rfl, ⟨nd, rfl⟩⟩; refine ⟨_, rfl, ?_⟩) | (go_at_call 15; (with_reducible refine (impl_GroupKindText.calls a0 a1 t119 _ A11.out).mono ?_); rintro e w13 ⟨rfl, hb⟩; have n0_ := Aside0.mk (below_step (by repeat (first | (with_reducible first | exact HB.out | apply below_alloc | apply pw_below_drewN | apply below_drew1) | exact HB.out)) hb); clear HB; have HB := n0_; clear n0_; (try clear hb); (try clear hb2); (try clear hk); (try clear hi)) | (go_at_call 14; (with_reducible refine (impl_GroupKindParse.calls kj3 t119 t120 t121 t122 _ A12.out).mono ?_); rintro e w14 ⟨rfl, hb⟩; have n0_ := Aside0.mk (below_step (by repeat (first | (with_reducible first | exact HB.out | apply below_alloc | apply pw_below_drewN | apply below_drew1) | exact HB.out)) hb); clear HB; have HB := n0_; clear n0_; (try clear hb); (try clear hb2); (try clear hk); (try clear hi)))
            go_meet
            case rel => exact ⟨_, ((!(t120.toList == a0.toList) || (!(t121.toList == ([] : List UInt8)) || (!(t122.toList == a1.toList))))), (by first | rfl | (simp; done) | (simp [*]; done)), H', ⟨by have := HJ3.out; first | omega | exact Nat.le_refl _⟩, ⟨by repeat (first | (with_reducible first | exact HB.out | apply below_alloc | apply pw_below_drewN | apply below_drew1) | exact HB.out)⟩⟩
          · replace c10 := Bool.eq_false_iff.mpr c10
            subst c10
            have H1 : (laws_FnNamedBack.j1 kj3 a0 a1 a2 false) = some r := by rw [if_neg (show ¬ (false = true) by decide)] at H; exact H
            clear H
            have H := H1
            clear H1
            have H' := Aside0.mk H
            clear H
            go_wp2_with (first | ((with_reducible refine gate_callee (f := 13) rfl ?_); refine goesL_ (some 24) rfl rfl Try.func13 (by kernel_rfl) rfl #[.string a1, .string (⟨#[46]⟩ : ByteArray)] rfl (by (try simp only [List.map_toArray, List.map_cons, List.map_nil]); first | done | rfl | (simp only [List.length_drop, List.length_take]; rfl)) ?_; (with_reducible refine (spec_KindPlain.calls kj3 a1 (⟨#[46]⟩ : ByteArray) false _ A9.out).mono ?_); rintro e w' ⟨rfl, ⟨nd, rfl⟩⟩; refine ⟨_, rfl, ?_⟩))
            go_meet
            case rel => exact ⟨_, (false), (by first | rfl | (simp; done) | (simp [*]; done)), H', ⟨by have := HJ3.out; first | omega | exact Nat.le_refl _⟩, ⟨by repeat (first | (with_reducible first | exact HB.out | apply below_alloc | apply pw_below_drewN | apply below_drew1) | exact HB.out)⟩⟩
        case rest =>
          clear HC8
          try clear c1
          try clear p2
          try clear c5
          try clear c5b0
          try clear c5b1
          try clear c6
          try clear c6b0
          try clear c6b1
          try clear c7
          try clear c10
          try clear c13
          try clear p2
          obtain ⟨kq, x34_7, rfl, HA, HJ7, HB⟩ := hcut
          cases kq with
          | zero => exact absurd HA.out (by simp [laws_FnNamedBack.j1])
          | succ kj7 =>
            have H := HA.out
            clear HA
            simp only [laws_FnNamedBack.j1] at H
            by_cases c15 : x34_7 = true
            · subst c15
              have H1 : (some false) = some r := by rw [if_pos rfl] at H; exact H
              clear H
              have H := H1
              clear H1
              obtain rfl := Option.some.inj H
              go_wp2
              go_ret
              exact ⟨by first | rfl | (simp [errW_none, errW_some] <;> rfl) | (simp [*, errW_none, errW_some] <;> rfl), by repeat (first | (with_reducible first | exact HB.out | apply below_alloc | apply pw_below_drewN | apply below_drew1) | exact HB.out)⟩
            · replace c15 := Bool.eq_false_iff.mpr c15
              subst c15
              have H1 : ((spec_KindPlain.f kj7 a1 (⟨#[46]⟩ : ByteArray)).bind fun t123 => (if t123 = true then ((impl_GroupResourceText.f a0 a1).bind fun t124 => ((impl_GroupResourceParse.f kj7 t124).bind fun bt125 => (laws_FnNamedBack.j2 kj7 a2 (!(bt125.1.toList == a0.toList) || (!(bt125.2.1.toList == ([] : List UInt8)) || (!(bt125.2.2.toList == a1.toList))))))) else (laws_FnNamedBack.j2 kj7 a2 false))) = some r := by rw [if_neg (show ¬ (false = true) by decide)] at H; exact H
              clear H
              have H := H1
              clear H1
              have HC16 := Aside0.mk H
              clear H
              go_upto_region 5 with (fail)
              go_cut [46] (fun v46 wc => ∃ (kq : Nat) (x46_15 : Bool), v46 = .bool x46_15 ∧ Aside0 (laws_FnNamedBack.j2 kq a2 x46_15 = some r) ∧ Aside0 (kq ≤ kj7) ∧ Aside0 (Below w.heap.size w wc))
              case first =>
                have H := HC16.out
                clear HC16
                replace H := Option.bind_eq_some_iff.mp H
                obtain ⟨t123, A170, H⟩ := H
                replace H : (if t123 = true then ((impl_GroupResourceText.f a0 a1).bind fun t124 => ((impl_GroupResourceParse.f kj7 t124).bind fun bt125 => (laws_FnNamedBack.j2 kj7 a2 (!(bt125.1.toList == a0.toList) || (!(bt125.2.1.toList == ([] : List UInt8)) || (!(bt125.2.2.toList == a1.toList))))))) else (laws_FnNamedBack.j2 kj7 a2 false)) = some r := H
                have A17 := Aside0.mk A170
                clear A170
                by_cases c18 : t123 = true
                · subst c18
                  have H1 : ((impl_GroupResourceText.f a0 a1).bind fun t124 => ((impl_GroupResourceParse.f kj7 t124).bind fun bt125 => (laws_FnNamedBack.j2 kj7 a2 (!(bt125.1.toList == a0.toList) || (!(bt125.2.1.toList == ([] : List UInt8)) || (!(bt125.2.2.toList == a1.toList))))))) = some r := by rw [if_pos rfl] at H; exact H
                  clear H
                  have H := H1
                  clear H1
                  replace H := Option.bind_eq_some_iff.mp H
                  obtain ⟨t124, A190, H⟩ := H
                  replace H : ((impl_GroupResourceParse.f kj7 t124).bind fun bt125 => (laws_FnNamedBack.j2 kj7 a2 (!(bt125.1.toList == a0.toList) || (!(bt125.2.1.toList == ([] : List UInt8)) || (!(bt125.2.2.toList == a1.toList)))))) = some r := H
                  have A19 := Aside0.mk A190
                  clear A190
                  replace H := Option.bind_eq_some_iff.mp H
                  obtain ⟨⟨t125, t126, t127⟩, A200, H⟩ := H
                  replace H : (laws_FnNamedBack.j2 kj7 a2 (!(t125.toList == a0.toList) || (!(t126.toList == ([] : List UInt8)) || (!(t127.toList == a1.toList))))) = some r := H
                  have A20 := Aside0.mk A200
                  clear A200
                  have H' := Aside0.mk H
                  clear H
                  go_wp2_with (first | ((with_reducible refine gate_callee (f := 13) rfl ?_); refine goesL_ (some 36) rfl rfl Try.func13 (by kernel_rfl) rfl #[.string a1, .string (⟨#[46]⟩ : ByteArray)] rfl (by (try simp only [List.map_toArray, List.map_cons, List.map_nil]); first | done | rfl | (simp only [List.length_drop, List.length_take]; rfl)) ?_; (with_reducible refine (spec_KindPlain.calls kj7 a1 (⟨#[46]⟩ : ByteArray) true _ A17.out).mono ?_); rintro e w' ⟨rfl, ⟨nd, rfl⟩⟩; refine ⟨_, rfl, ?_⟩) | (go_at_call 17; (with_reducible refine (impl_GroupResourceText.calls a0 a1 t124 _ A19.out).mono ?_); rintro e w21 ⟨rfl, hb⟩; have n0_ := Aside0.mk (below_step (by repeat (first | (with_reducible first | exact HB.out | apply below_alloc | apply pw_below_drewN | apply below_drew1) | exact HB.out)) hb); clear HB; have HB := n0_; clear n0_; (try clear hb); (try clear hb2); (try clear hk); (try clear hi)) | (go_at_call 16; (with_reducible refine (impl_GroupResourceParse.calls kj7 t124 t125 t126 t127 _ A20.out).mono ?_); rintro e w22 ⟨rfl, hb⟩; have n0_ := Aside0.mk (below_step (by repeat (first | (with_reducible first | exact HB.out | apply below_alloc | apply pw_below_drewN | apply below_drew1) | exact HB.out)) hb); clear HB; have HB := n0_; clear n0_; (try clear hb); (try clear hb2); (try clear hk); (try clear hi)))
                  go_meet
                  case rel => exact ⟨_, ((!(t125.toList == a0.toList) || (!(t126.toList == ([] : List UInt8)) || (!(t127.toList == a1.toList))))), (by first | rfl | (simp; done) | (simp [*]; done)), H', ⟨by have := HJ3.out; have := HJ7.out; first | omega | exact Nat.le_refl _⟩, ⟨by repeat (first | (with_reducible first | exact HB.out | apply below_alloc | apply pw_below_drewN | apply below_drew1) | exact HB.out)⟩⟩
                · replace c18 := Bool.eq_false_iff.mpr c18
                  subst c18
                  have H1 : (laws_FnNamedBack.j2 kj7 a2 false) = some r := by rw [if_neg (show ¬ (false = true) by decide)] at H; exact H
                  clear H
                  have H := H1
                  clear H1
                  have H' := Aside0.mk H
                  clear H
                  go_wp2_with (first | ((with_reducible refine gate_callee (f := 13) rfl ?_); refine goesL_ (some 36) rfl rfl Try.func13 (by kernel_rfl) rfl #[.string a1, .string (⟨#[46]⟩ : ByteArray)] rfl (by (try simp only [List.map_toArray, List.map_cons, List.map_nil]); first | done | rfl | (simp only [List.length_drop, List.length_take]; rfl)) ?_; (with_reducible refine (spec_KindPlain.calls kj7 a1 (⟨#[46]⟩ : ByteArray) false _ A17.out).mono ?_); rintro e w' ⟨rfl, ⟨nd, rfl⟩⟩; refine ⟨_, rfl, ?_⟩))
                  go_meet
                  case rel => exact ⟨_, (false), (by first | rfl | (simp; done) | (simp [*]; done)), H', ⟨by have := HJ3.out; have := HJ7.out; first | omega | exact Nat.le_refl _⟩, ⟨by repeat (first | (with_reducible first | exact HB.out | apply below_alloc | apply pw_below_drewN | apply below_drew1) | exact HB.out)⟩⟩
              case rest =>
                clear HC16
                try clear c1
                try clear p2
                try clear c5
                try clear c5b0
                try clear c5b1
                try clear c6
                try clear c6b0
                try clear c6b1
                try clear c7
                try clear c10
                try clear c13
                try clear c15
                try clear c18
                try clear p2
                obtain ⟨kq, x46_15, rfl, HA, HJ15, HB⟩ := hcut
                cases kq with
                | zero => exact absurd HA.out (by simp [laws_FnNamedBack.j2])
                | succ kj15 =>
                  have H := HA.out
                  clear HA
                  simp only [laws_FnNamedBack.j2] at H
                  by_cases c23 : x46_15 = true
                  · subst c23
                    have H1 : (some false) = some r := by rw [if_pos rfl] at H; exact H
                    clear H
                    have H := H1
                    clear H1
                    obtain rfl := Option.some.inj H
                    go_wp2
                    go_ret
                    exact ⟨by first | rfl | (simp [errW_none, errW_some] <;> rfl) | (simp [*, errW_none, errW_some] <;> rfl), by repeat (first | (with_reducible first | exact HB.out | apply below_alloc | apply pw_below_drewN | apply below_drew1) | exact HB.out)⟩
                  · replace c23 := Bool.eq_false_iff.mpr c23
                    subst c23
                    have H1 : ((impl_GroupKindParse.f kj15 a2).bind fun bt128 => ((impl_GroupResourceParse.f kj15 a2).bind fun bt131 => (if (bt128.2.2.size : Int) = (wrap64 ((a2.size : Int) - 1)) then (if bt128.1.toList = ([] : List UInt8) then (some true) else ((impl_GroupKindText.f bt128.1 bt128.2.2).bind fun t136 => (if t136.toList = a2.toList then ((impl_GroupResourceText.f bt131.1 bt131.2.2).bind fun t137 => (some (t137.toList == a2.toList))) else (some false)))) else ((impl_GroupKindText.f bt128.1 bt128.2.2).bind fun t138 => (if t138.toList = a2.toList then ((impl_GroupResourceText.f bt131.1 bt131.2.2).bind fun t139 => (some (t139.toList == a2.toList))) else (some false)))))) = some r := by rw [if_neg (show ¬ (false = true) by decide)] at H; exact H
                    clear H
                    have H := H1
                    clear H1
                    replace H := Option.bind_eq_some_iff.mp H
                    obtain ⟨⟨t128, t129, t130⟩, A240, H⟩ := H
                    replace H : ((impl_GroupResourceParse.f kj15 a2).bind fun bt131 => (if (t130.size : Int) = (wrap64 ((a2.size : Int) - 1)) then (if t128.toList = ([] : List UInt8) then (some true) else ((impl_GroupKindText.f t128 t130).bind fun t136 => (if t136.toList = a2.toList then ((impl_GroupResourceText.f bt131.1 bt131.2.2).bind fun t137 => (some (t137.toList == a2.toList))) else (some false)))) else ((impl_GroupKindText.f t128 t130).bind fun t138 => (if t138.toList = a2.toList then ((impl_GroupResourceText.f bt131.1 bt131.2.2).bind fun t139 => (some (t139.toList == a2.toList))) else (some false))))) = some r := H
                    have A24 := Aside0.mk A240
                    clear A240
                    replace H := Option.bind_eq_some_iff.mp H
                    obtain ⟨⟨t131, t132, t133⟩, A250, H⟩ := H
                    replace H : (if (t130.size : Int) = (wrap64 ((a2.size : Int) - 1)) then (if t128.toList = ([] : List UInt8) then (some true) else ((impl_GroupKindText.f t128 t130).bind fun t136 => (if t136.toList = a2.toList then ((impl_GroupResourceText.f t131 t133).bind fun t137 => (some (t137.toList == a2.toList))) else (some false)))) else ((impl_GroupKindText.f t128 t130).bind fun t138 => (if t138.toList = a2.toList then ((impl_GroupResourceText.f t131 t133).bind fun t139 => (some (t139.toList == a2.toList))) else (some false)))) = some r := H
                    have A25 := Aside0.mk A250
                    clear A250
                    by_cases c26 : (t130.size : Int) = (wrap64 ((a2.size : Int) - 1))
                    · rw [if_pos c26] at H
                      have c26b0 : ((t130.size : Int) == (wrap64 ((a2.size : Int) - 1))) = true := beq_iff_eq.mpr c26
                      have c26b1 : ((t130.size : Int) != (wrap64 ((a2.size : Int) - 1))) = false := bne_eq_false_iff_eq.mpr c26
                      clear c26
                      by_cases c27 : t128.toList = ([] : List UInt8)
                      · rw [if_pos c27] at H
                        have c27b0 : (t128.toList == ([] : List UInt8)) = true := beq_iff_eq.mpr c27
                        have c27b1 : (t128.toList != ([] : List UInt8)) = false := bne_eq_false_iff_eq.mpr c27
                        clear c27
                        obtain rfl := Option.some.inj H
                        go_wp2_with (first | ((with_reducible refine gate_callee (f := 14) rfl ?_); refine goesL_ (some 48) rfl rfl Try.func14 (by kernel_rfl) rfl #[.string a2] rfl (by (try simp only [List.map_toArray, List.map_cons, List.map_nil]); first | done | rfl | (simp only [List.length_drop, List.length_take]; rfl)) ?_; (with_reducible refine (impl_GroupKindParse.calls kj15 a2 t128 t129 t130 _ A24.out).mono ?_); rintro e w28 ⟨rfl, hb⟩; refine ⟨_, rfl, ?_⟩; have n0_ := Aside0.mk (below_step (by repeat (first | (with_reducible first | exact HB.out | apply below_alloc | apply pw_below_drewN | apply below_drew1) | exact HB.out)) hb); clear HB; have HB := n0_; clear n0_; (try clear hb); (try clear hb2); (try clear hk); (try clear hi)) | ((with_reducible refine gate_callee (f := 16) rfl ?_); refine goesL_ (some 50) rfl rfl Try.func16 (by kernel_rfl) rfl #[.string a2] rfl (by (try simp only [List.map_toArray, List.map_cons, List.map_nil]); first | done | rfl | (simp only [List.length_drop, List.length_take]; rfl)) ?_; (with_reducible refine (impl_GroupResourceParse.calls kj15 a2 t131 t132 t133 _ A25.out).mono ?_); rintro e w29 ⟨rfl, hb⟩; refine ⟨_, rfl, ?_⟩; have n0_ := Aside0.mk (below_step (by repeat (first | (with_reducible first | exact HB.out | apply below_alloc | apply pw_below_drewN | apply below_drew1) | exact HB.out)) hb); clear HB; have HB := n0_; clear n0_; (try clear hb); (try clear hb2); (try clear hk); (try clear hi)) | ((with_reducible refine gate_dst (N := 7) rfl ?_); (try (refine gate_guard (by rfl) ?_; dsimp only)); refine box_event ?hg (N := 7) ?hd (cs := #[.string (⟨#[]⟩ : ByteArray), .string (⟨#[]⟩ : ByteArray), .string (⟨#[]⟩ : ByteArray)]) (t := 26) ?hr ?_; (case hd => rfl); (case hg => rfl); (case hr => first | (go_simp; done) | (go_simp; rfl)); intro gb134 hg w30 hbox hb; have n0_ := Aside0.mk (below_step (by repeat (first | (with_reducible first | exact HB.out | apply below_alloc | apply pw_below_drewN | apply below_drew1) | exact HB.out)) hb); have n1_ := Aside0.mk (hbox); have n2_ := Aside0.mk ((by rw [hg]; exact (below_size (by repeat (first | (with_reducible first | exact HB.out | apply below_alloc | apply pw_below_drewN | apply below_drew1) | exact HB.out))) : w.heap.size ≤ gb134)); have n3_ := Aside0.mk ((by rw [hg]; exact (below_size (by repeat (first | (with_reducible first | exact HB.out | apply below_alloc | apply pw_below_drewN | apply below_drew1) | exact HB.out))) : w.heap.size ≤ gb134)); clear HB; have HB := n0_; have BK134 := n1_; have GW134 := n2_; have GE134 := n3_; clear n0_ n1_ n2_ n3_; clear hb hbox hg) | ((with_reducible refine gate_dst (N := 8) rfl ?_); (try (refine gate_guard (by rfl) ?_; dsimp only)); refine box_event ?hg (N := 8) ?hd (cs := #[.string (⟨#[]⟩ : ByteArray), .string (⟨#[]⟩ : ByteArray), .string (⟨#[]⟩ : ByteArray)]) (t := 26) ?hr ?_; (case hd => rfl); (case hg => rfl); (case hr => first | (go_simp; done) | (go_simp; rfl)); intro gb135 hg w31 hbox hb; have n0_ := Aside0.mk (blk_below (g := gb134) (o := .cells #[.string (⟨#[]⟩ : ByteArray), .string (⟨#[]⟩ : ByteArray), .string (⟨#[]⟩ : ByteArray)] 26 (0, 0)) (by (with_reducible repeat (first | refine blk_drewN ?_ _ | refine blk_drew ?_ | refine blk_alloc ?_ _)); exact BK134.out) hb); have n1_ := Aside0.mk (below_step (by repeat (first | (with_reducible first | exact HB.out | apply below_alloc | apply pw_below_drewN | apply below_drew1 | refine below_set ?_ GE134.out) | exact HB.out)) hb); have n2_ := Aside0.mk (hbox); have n3_ := Aside0.mk ((by rw [hg]; exact (below_size (by repeat (first | (with_reducible first | exact HB.out | apply below_alloc | apply pw_below_drewN | apply below_drew1 | refine below_set ?_ GE134.out) | exact HB.out))) : w.heap.size ≤ gb135)); have n4_ := Aside0.mk ((by rw [hg]; exact (below_size (by repeat (first | (with_reducible first | exact HB.out | apply below_alloc | apply pw_below_drewN | apply below_drew1 | refine below_set ?_ GE134.out) | exact HB.out))) : w.heap.size ≤ gb135)); have n5_ := Aside0.mk ((by rw [hg]; exact Nat.ne_of_lt (blk_lt (g := gb134) (o := .cells #[.string (⟨#[]⟩ : ByteArray), .string (⟨#[]⟩ : ByteArray), .string (⟨#[]⟩ : ByteArray)] 26 (0, 0)) (by (with_reducible repeat (first | refine blk_drewN ?_ _ | refine blk_drew ?_ | refine blk_alloc ?_ _)); exact BK134.out)) : gb134 ≠ gb135)); have n6_ := Aside0.mk ((by rw [hg]; exact Nat.ne_of_gt (blk_lt (g := gb134) (o := .cells #[.string (⟨#[]⟩ : ByteArray), .string (⟨#[]⟩ : ByteArray), .string (⟨#[]⟩ : ByteArray)] 26 (0, 0)) (by (with_reducible repeat (first | refine blk_drewN ?_ _ | refine blk_drew ?_ | refine blk_alloc ?_ _)); exact BK134.out)) : gb135 ≠ gb134)); clear BK134; clear HB; have BK134 := n0_; have HB := n1_; have BK135 := n2_; have GW135 := n3_; have GE135 := n4_; have NB134_135 := n5_; have NB135_134 := n6_; clear n0_ n1_ n2_ n3_ n4_ n5_ n6_; clear hb hbox hg; have hnb32 := NB134_135.out; have hnc32 := NB135_134.out; have hcz33_0 : w31.cell? ⟨gb134, 0, none⟩ = some (.string (⟨#[]⟩ : ByteArray)) := (blk_cell BK134.out 0).trans rfl; have hcz33_1 : w31.cell? ⟨gb134, 1, none⟩ = some (.string (⟨#[]⟩ : ByteArray)) := (blk_cell BK134.out 1).trans rfl; have hcz33_2 : w31.cell? ⟨gb134, 2, none⟩ = some (.string (⟨#[]⟩ : ByteArray)) := (blk_cell BK134.out 2).trans rfl; have hfz33_0 := blk_frozen BK134.out 0; have hfz33_1 := blk_frozen BK134.out 1; have hfz33_2 := blk_frozen BK134.out 2; have hcz34_0 : w31.cell? ⟨gb135, 0, none⟩ = some (.string (⟨#[]⟩ : ByteArray)) := (blk_cell BK135.out 0).trans rfl; have hcz34_1 : w31.cell? ⟨gb135, 1, none⟩ = some (.string (⟨#[]⟩ : ByteArray)) := (blk_cell BK135.out 1).trans rfl; have hcz34_2 : w31.cell? ⟨gb135, 2, none⟩ = some (.string (⟨#[]⟩ : ByteArray)) := (blk_cell BK135.out 2).trans rfl; have hfz34_0 := blk_frozen BK135.out 0; have hfz34_1 := blk_frozen BK135.out 1; have hfz34_2 := blk_frozen BK135.out 2))
                        go_ret
                        exact ⟨by first | rfl | (simp [errW_none, errW_some] <;> rfl) | (simp [*, errW_none, errW_some] <;> rfl), by repeat (first | (with_reducible first | exact HB.out | apply below_alloc | apply pw_below_drewN | apply below_drew1 | refine below_set ?_ GE134.out | refine below_set ?_ GE135.out) | exact HB.out)⟩
                      · rw [if_neg c27] at H
                        have c27b0 : (t128.toList == ([] : List UInt8)) = false := beq_eq_false_iff_ne.mpr c27
                        have c27b1 : (t128.toList != ([] : List UInt8)) = true := bne_iff_ne.mpr c27
                        replace H := Option.bind_eq_some_iff.mp H
                        obtain ⟨t136, A350, H⟩ := H
                        replace H : (if t136.toList = a2.toList then ((impl_GroupResourceText.f t131 t133).bind fun t137 => (some (t137.toList == a2.toList))) else (some false)) = some r := H
                        have A35 := Aside0.mk A350
                        clear A350
                        by_cases c36 : t136.toList = a2.toList
                        · rw [if_pos c36] at H
                          have c36b0 : (t136.toList == a2.toList) = true := beq_iff_eq.mpr c36
                          have c36b1 : (t136.toList != a2.toList) = false := bne_eq_false_iff_eq.mpr c36
                          clear c36
                          replace H := Option.bind_eq_some_iff.mp H
                          obtain ⟨t137, A370, H⟩ := H
                          replace H : (some (t137.toList == a2.toList)) = some r := H
                          have A37 := Aside0.mk A370
                          clear A370
                          obtain rfl := Option.some.inj H
                          go_wp2_with (first | ((with_reducible refine gate_callee (f := 14) rfl ?_); refine goesL_ (some 48) rfl rfl Try.func14 (by kernel_rfl) rfl #[.string a2] rfl (by (try simp only [List.map_toArray, List.map_cons, List.map_nil]); first | done | rfl | (simp only [List.length_drop, List.length_take]; rfl)) ?_; (with_reducible refine (impl_GroupKindParse.calls kj15 a2 t128 t129 t130 _ A24.out).mono ?_); rintro e w38 ⟨rfl, hb⟩; refine ⟨_, rfl, ?_⟩; have n0_ := Aside0.mk (below_step (by repeat (first | (with_reducible first | exact HB.out | apply below_alloc | apply pw_below_drewN | apply below_drew1) | exact HB.out)) hb); clear HB; have HB := n0_; clear n0_; (try clear hb); (try clear hb2); (try clear hk); (try clear hi)) | ((with_reducible refine gate_callee (f := 16) rfl ?_); refine goesL_ (some 50) rfl rfl Try.func16 (by kernel_rfl) rfl #[.string a2] rfl (by (try simp only [List.map_toArray, List.map_cons, List.map_nil]); first | done | rfl | (simp only [List.length_drop, List.length_take]; rfl)) ?_; (with_reducible refine (impl_GroupResourceParse.calls kj15 a2 t131 t132 t133 _ A25.out).mono ?_); rintro e w39 ⟨rfl, hb⟩; refine ⟨_, rfl, ?_⟩; have n0_ := Aside0.mk (below_step (by repeat (first | (with_reducible first | exact HB.out | apply below_alloc | apply pw_below_drewN | apply below_drew1) | exact HB.out)) hb); clear HB; have HB := n0_; clear n0_; (try clear hb); (try clear hb2); (try clear hk); (try clear hi)) | ((with_reducible refine gate_dst (N := 7) rfl ?_); (try (refine gate_guard (by rfl) ?_; dsimp only)); refine box_event ?hg (N := 7) ?hd (cs := #[.string (⟨#[]⟩ : ByteArray), .string (⟨#[]⟩ : ByteArray), .string (⟨#[]⟩ : ByteArray)]) (t := 26) ?hr ?_; (case hd => rfl); (case hg => rfl); (case hr => first | (go_simp; done) | (go_simp; rfl)); intro gb134 hg w40 hbox hb; have n0_ := Aside0.mk (below_step (by repeat (first | (with_reducible first | exact HB.out | apply below_alloc | apply pw_below_drewN | apply below_drew1) | exact HB.out)) hb); have n1_ := Aside0.mk (hbox); have n2_ := Aside0.mk ((by rw [hg]; exact (below_size (by repeat (first | (with_reducible first | exact HB.out | apply below_alloc | apply pw_below_drewN | apply below_drew1) | exact HB.out))) : w.heap.size ≤ gb134)); have n3_ := Aside0.mk ((by rw [hg]; exact (below_size (by repeat (first | (with_reducible first | exact HB.out | apply below_alloc | apply pw_below_drewN | apply below_drew1) | exact HB.out))) : w.heap.size ≤ gb134)); clear HB; have HB := n0_; have BK134 := n1_; have GW134 := n2_; have GE134 := n3_; clear n0_ n1_ n2_ n3_; clear hb hbox hg) | ((with_reducible refine gate_dst (N := 8) rfl ?_); (try (refine gate_guard (by rfl) ?_; dsimp only)); refine box_event ?hg (N := 8) ?hd (cs := #[.string (⟨#[]⟩ : ByteArray), .string (⟨#[]⟩ : ByteArray), .string (⟨#[]⟩ : ByteArray)]) (t := 26) ?hr ?_; (case hd => rfl); (case hg => rfl); (case hr => first | (go_simp; done) | (go_simp; rfl)); intro gb135 hg w41 hbox hb; have n0_ := Aside0.mk (blk_below (g := gb134) (o := .cells #[.string (⟨#[]⟩ : ByteArray), .string (⟨#[]⟩ : ByteArray), .string (⟨#[]⟩ : ByteArray)] 26 (0, 0)) (by (with_reducible repeat (first | refine blk_drewN ?_ _ | refine blk_drew ?_ | refine blk_alloc ?_ _)); exact BK134.out) hb); have n1_ := Aside0.mk (below_step (by repeat (first | (with_reducible first | exact HB.out | apply below_alloc | apply pw_below_drewN | apply below_drew1 | refine below_set ?_ GE134.out) | exact HB.out)) hb); have n2_ := Aside0.mk (hbox); have n3_ := Aside0.mk ((by rw [hg]; exact (below_size (by repeat (first | (with_reducible first | exact HB.out | apply below_alloc | apply pw_below_drewN | apply below_drew1 | refine below_set ?_ GE134.out) | exact HB.out))) : w.heap.size ≤ gb135)); have n4_ := Aside0.mk ((by rw [hg]; exact (below_size (by repeat (first | (with_reducible first | exact HB.out | apply below_alloc | apply pw_below_drewN | apply below_drew1 | refine below_set ?_ GE134.out) | exact HB.out))) : w.heap.size ≤ gb135)); have n5_ := Aside0.mk ((by rw [hg]; exact Nat.ne_of_lt (blk_lt (g := gb134) (o := .cells #[.string (⟨#[]⟩ : ByteArray), .string (⟨#[]⟩ : ByteArray), .string (⟨#[]⟩ : ByteArray)] 26 (0, 0)) (by (with_reducible repeat (first | refine blk_drewN ?_ _ | refine blk_drew ?_ | refine blk_alloc ?_ _)); exact BK134.out)) : gb134 ≠ gb135)); have n6_ := Aside0.mk ((by rw [hg]; exact Nat.ne_of_gt (blk_lt (g := gb134) (o := .cells #[.string (⟨#[]⟩ : ByteArray), .string (⟨#[]⟩ : ByteArray), .string (⟨#[]⟩ : ByteArray)] 26 (0, 0)) (by (with_reducible repeat (first | refine blk_drewN ?_ _ | refine blk_drew ?_ | refine blk_alloc ?_ _)); exact BK134.out)) : gb135 ≠ gb134)); clear BK134; clear HB; have BK134 := n0_; have HB := n1_; have BK135 := n2_; have GW135 := n3_; have GE135 := n4_; have NB134_135 := n5_; have NB135_134 := n6_; clear n0_ n1_ n2_ n3_ n4_ n5_ n6_; clear hb hbox hg; have hnb42 := NB134_135.out; have hnc42 := NB135_134.out; have hcz43_0 : w41.cell? ⟨gb134, 0, none⟩ = some (.string (⟨#[]⟩ : ByteArray)) := (blk_cell BK134.out 0).trans rfl; have hcz43_1 : w41.cell? ⟨gb134, 1, none⟩ = some (.string (⟨#[]⟩ : ByteArray)) := (blk_cell BK134.out 1).trans rfl; have hcz43_2 : w41.cell? ⟨gb134, 2, none⟩ = some (.string (⟨#[]⟩ : ByteArray)) := (blk_cell BK134.out 2).trans rfl; have hfz43_0 := blk_frozen BK134.out 0; have hfz43_1 := blk_frozen BK134.out 1; have hfz43_2 := blk_frozen BK134.out 2; have hcz44_0 : w41.cell? ⟨gb135, 0, none⟩ = some (.string (⟨#[]⟩ : ByteArray)) := (blk_cell BK135.out 0).trans rfl; have hcz44_1 : w41.cell? ⟨gb135, 1, none⟩ = some (.string (⟨#[]⟩ : ByteArray)) := (blk_cell BK135.out 1).trans rfl; have hcz44_2 : w41.cell? ⟨gb135, 2, none⟩ = some (.string (⟨#[]⟩ : ByteArray)) := (blk_cell BK135.out 2).trans rfl; have hfz44_0 := blk_frozen BK135.out 0; have hfz44_1 := blk_frozen BK135.out 1; have hfz44_2 := blk_frozen BK135.out 2) | (go_at_call 15; (with_reducible refine (impl_GroupKindText.calls t128 t130 t136 _ A35.out).mono ?_); rintro e w45 ⟨rfl, hb⟩; have n0_ := Aside0.mk (blk_below (g := gb134) (o := .cells #[.string t128, .string t129, .string t130] 26 (0, 0)) (by (with_reducible repeat (first | refine blk_drewN ?_ _ | refine blk_drew ?_ | refine blk_alloc ?_ _)); refine blk_far ?_ NB134_135.out _; (with_reducible repeat (first | refine blk_drewN ?_ _ | refine blk_drew ?_ | refine blk_alloc ?_ _)); refine blk_far ?_ NB134_135.out _; (with_reducible repeat (first | refine blk_drewN ?_ _ | refine blk_drew ?_ | refine blk_alloc ?_ _)); refine blk_far ?_ NB134_135.out _; (with_reducible repeat (first | refine blk_drewN ?_ _ | refine blk_drew ?_ | refine blk_alloc ?_ _)); refine blk_put (cs := #[.string t128, .string t129, .string (⟨#[]⟩ : ByteArray)]) ?_ 2 _ rfl; (with_reducible repeat (first | refine blk_drewN ?_ _ | refine blk_drew ?_ | refine blk_alloc ?_ _)); refine blk_put (cs := #[.string t128, .string (⟨#[]⟩ : ByteArray), .string (⟨#[]⟩ : ByteArray)]) ?_ 1 _ rfl; (with_reducible repeat (first | refine blk_drewN ?_ _ | refine blk_drew ?_ | refine blk_alloc ?_ _)); refine blk_put (cs := #[.string (⟨#[]⟩ : ByteArray), .string (⟨#[]⟩ : ByteArray), .string (⟨#[]⟩ : ByteArray)]) ?_ 0 _ rfl; (with_reducible repeat (first | refine blk_drewN ?_ _ | refine blk_drew ?_ | refine blk_alloc ?_ _)); exact BK134.out) hb); have n1_ := Aside0.mk (blk_below (g := gb135) (o := .cells #[.string t131, .string t132, .string t133] 26 (0, 0)) (by (with_reducible repeat (first | refine blk_drewN ?_ _ | refine blk_drew ?_ | refine blk_alloc ?_ _)); refine blk_put (cs := #[.string t131, .string t132, .string (⟨#[]⟩ : ByteArray)]) ?_ 2 _ rfl; (with_reducible repeat (first | refine blk_drewN ?_ _ | refine blk_drew ?_ | refine blk_alloc ?_ _)); refine blk_put (cs := #[.string t131, .string (⟨#[]⟩ : ByteArray), .string (⟨#[]⟩ : ByteArray)]) ?_ 1 _ rfl; (with_reducible repeat (first | refine blk_drewN ?_ _ | refine blk_drew ?_ | refine blk_alloc ?_ _)); refine blk_put (cs := #[.string (⟨#[]⟩ : ByteArray), .string (⟨#[]⟩ : ByteArray), .string (⟨#[]⟩ : ByteArray)]) ?_ 0 _ rfl; (with_reducible repeat (first | refine blk_drewN ?_ _ | refine blk_drew ?_ | refine blk_alloc ?_ _)); refine blk_far ?_ NB135_134.out _; (with_reducible repeat (first | refine blk_drewN ?_ _ | refine blk_drew ?_ | refine blk_alloc ?_ _)); refine blk_far ?_ NB135_134.out _; (with_reducible repeat (first | refine blk_drewN ?_ _ | refine blk_drew ?_ | refine blk_alloc ?_ _)); refine blk_far ?_ NB135_134.out _; (with_reducible repeat (first | refine blk_drewN ?_ _ | refine blk_drew ?_ | refine blk_alloc ?_ _)); exact BK135.out) hb); have n2_ := Aside0.mk (below_step (by repeat (first | (with_reducible first | exact HB.out | apply below_alloc | apply pw_below_drewN | apply below_drew1 | refine below_set ?_ GE134.out | refine below_set ?_ GE135.out) | exact HB.out)) hb); clear BK134; clear BK135; clear HB; have BK134 := n0_; have BK135 := n1_; have HB := n2_; clear n0_ n1_ n2_; (try clear hb); (try clear hb2); (try clear hk); (try clear hi); have hcz46_0 : w45.cell? ⟨gb135, 0, none⟩ = some (.string t131) := (blk_cell BK135.out 0).trans rfl; have hcz46_1 : w45.cell? ⟨gb135, 1, none⟩ = some (.string t132) := (blk_cell BK135.out 1).trans rfl; have hcz46_2 : w45.cell? ⟨gb135, 2, none⟩ = some (.string t133) := (blk_cell BK135.out 2).trans rfl; have hfz46_0 := blk_frozen BK135.out 0; have hfz46_1 := blk_frozen BK135.out 1; have hfz46_2 := blk_frozen BK135.out 2) | (go_at_call 17; (with_reducible refine (impl_GroupResourceText.calls t131 t133 t137 _ A37.out).mono ?_); rintro e w47 ⟨rfl, hb⟩; have n0_ := Aside0.mk (blk_below (g := gb134) (o := .cells #[.string t128, .string t129, .string t130] 26 (0, 0)) (by (with_reducible repeat (first | refine blk_drewN ?_ _ | refine blk_drew ?_ | refine blk_alloc ?_ _)); exact BK134.out) hb); have n1_ := Aside0.mk (blk_below (g := gb135) (o := .cells #[.string t131, .string t132, .string t133] 26 (0, 0)) (by (with_reducible repeat (first | refine blk_drewN ?_ _ | refine blk_drew ?_ | refine blk_alloc ?_ _)); exact BK135.out) hb); have n2_ := Aside0.mk (below_step (by repeat (first | (with_reducible first | exact HB.out | apply below_alloc | apply pw_below_drewN | apply below_drew1 | refine below_set ?_ GE134.out | refine below_set ?_ GE135.out) | exact HB.out)) hb); clear BK134; clear BK135; clear HB; have BK134 := n0_; have BK135 := n1_; have HB := n2_; clear n0_ n1_ n2_; (try clear hb); (try clear hb2); (try clear hk); (try clear hi)))
                          go_ret
                          exact ⟨by first | rfl | (simp [errW_none, errW_some] <;> rfl) | (simp [*, errW_none, errW_some] <;> rfl), by repeat (first | (with_reducible first | exact HB.out | apply below_alloc | apply pw_below_drewN | apply below_drew1 | refine below_set ?_ GE134.out | refine below_set ?_ GE135.out) | exact HB.out)⟩
                        · rw [if_neg c36] at H
                          have c36b0 : (t136.toList == a2.toList) = false := beq_eq_false_iff_ne.mpr c36
                          have c36b1 : (t136.toList != a2.toList) = true := bne_iff_ne.mpr c36
                          obtain rfl := Option.some.inj H
                          go_wp2_with (first | ((with_reducible refine gate_callee (f := 14) rfl ?_); refine goesL_ (some 48) rfl rfl Try.func14 (by kernel_rfl) rfl #[.string a2] rfl (by (try simp only [List.map_toArray, List.map_cons, List.map_nil]); first | done | rfl | (simp only [List.length_drop, List.length_take]; rfl)) ?_; (with_reducible refine (impl_GroupKindParse.calls kj15 a2 t128 t129 t130 _ A24.out).mono ?_); rintro e w48 ⟨rfl, hb⟩; refine ⟨_, rfl, ?_⟩; have n0_ := Aside0.mk (below_step (by repeat (first | (with_reducible first | exact HB.out | apply below_alloc | apply pw_below_drewN | apply below_drew1) | exact HB.out)) hb); clear HB; have HB := n0_; clear n0_; (try clear hb); (try clear hb2); (try clear hk); (try clear hi)) | ((with_reducible refine gate_callee (f := 16) rfl ?_); refine goesL_ (some 50) rfl rfl Try.func16 (by kernel_rfl) rfl #[.string a2] rfl (by (try simp only [List.map_toArray, List.map_cons, List.map_nil]); first | done | rfl | (simp only [List.length_drop, List.length_take]; rfl)) ?_; (with_reducible refine (impl_GroupResourceParse.calls kj15 a2 t131 t132 t133 _ A25.out).mono ?_); rintro e w49 ⟨rfl, hb⟩; refine ⟨_, rfl, ?_⟩; have n0_ := Aside0.mk (below_step (by repeat (first | (with_reducible first | exact HB.out | apply below_alloc | apply pw_below_drewN | apply below_drew1) | exact HB.out)) hb); clear HB; have HB := n0_; clear n0_; (try clear hb); (try clear hb2); (try clear hk); (try clear hi)) | ((with_reducible refine gate_dst (N := 7) rfl ?_); (try (refine gate_guard (by rfl) ?_; dsimp only)); refine box_event ?hg (N := 7) ?hd (cs := #[.string (⟨#[]⟩ : ByteArray), .string (⟨#[]⟩ : ByteArray), .string (⟨#[]⟩ : ByteArray)]) (t := 26) ?hr ?_; (case hd => rfl); (case hg => rfl); (case hr => first | (go_simp; done) | (go_simp; rfl)); intro gb134 hg w50 hbox hb; have n0_ := Aside0.mk (below_step (by repeat (first | (with_reducible first | exact HB.out | apply below_alloc | apply pw_below_drewN | apply below_drew1) | exact HB.out)) hb); have n1_ := Aside0.mk (hbox); have n2_ := Aside0.mk ((by rw [hg]; exact (below_size (by repeat (first | (with_reducible first | exact HB.out | apply below_alloc | apply pw_below_drewN | apply below_drew1) | exact HB.out))) : w.heap.size ≤ gb134)); have n3_ := Aside0.mk ((by rw [hg]; exact (below_size (by repeat (first | (with_reducible first | exact HB.out | apply below_alloc | apply pw_below_drewN | apply below_drew1) | exact HB.out))) : w.heap.size ≤ gb134)); clear HB; have HB := n0_; have BK134 := n1_; have GW134 := n2_; have GE134 := n3_; clear n0_ n1_ n2_ n3_; clear hb hbox hg) | ((with_reducible refine gate_dst (N := 8) rfl ?_); (try (refine gate_guard (by rfl) ?_; dsimp only)); refine box_event ?hg (N := 8) ?hd (cs := #[.string (⟨#[]⟩ : ByteArray), .string (⟨#[]⟩ : ByteArray), .string (⟨#[]⟩ : ByteArray)]) (t := 26) ?hr ?_; (case hd => rfl); (case hg => rfl); (case hr => first | (go_simp; done) | (go_simp; rfl)); intro gb135 hg w51 hbox hb; have n0_ := Aside0.mk (blk_below (g := gb134) (o := .cells #[.string (⟨#[]⟩ : ByteArray), .string (⟨#[]⟩ : ByteArray), .string (⟨#[]⟩ : ByteArray)] 26 (0, 0)) (by (with_reducible repeat (first | refine blk_drewN ?_ _ | refine blk_drew ?_ | refine blk_alloc ?_ _)); exact BK134.out) hb); have n1_ := Aside0.mk (below_step (by repeat (first | (with_reducible first | exact HB.out | apply below_alloc | apply pw_below_drewN | apply below_drew1 | refine below_set ?_ GE134.out) | exact HB.out)) hb); have n2_ := Aside0.mk (hbox); have n3_ := Aside0.mk ((by rw [hg]; exact (below_size (by repeat (first | (with_reducible first | exact HB.out | apply below_alloc | apply pw_below_drewN | apply below_drew1 | refine below_set ?_ GE134.out) | exact HB.out))) : w.heap.size ≤ gb135)); have n4_ := Aside0.mk ((by rw [hg]; exact (below_size (by repeat (first | (with_reducible first | exact HB.out | apply below_alloc | apply pw_below_drewN | apply below_drew1 | refine below_set ?_ GE134.out) | exact HB.out))) : w.heap.size ≤ gb135)); have n5_ := Aside0.mk ((by rw [hg]; exact Nat.ne_of_lt (blk_lt (g := gb134) (o := .cells #[.string (⟨#[]⟩ : ByteArray), .string (⟨#[]⟩ : ByteArray), .string (⟨#[]⟩ : ByteArray)] 26 (0, 0)) (by (with_reducible repeat (first | refine blk_drewN ?_ _ | refine blk_drew ?_ | refine blk_alloc ?_ _)); exact BK134.out)) : gb134 ≠ gb135)); have n6_ := Aside0.mk ((by rw [hg]; exact Nat.ne_of_gt (blk_lt (g := gb134) (o := .cells #[.string (⟨#[]⟩ : ByteArray), .string (⟨#[]⟩ : ByteArray), .string (⟨#[]⟩ : ByteArray)] 26 (0, 0)) (by (with_reducible repeat (first | refine blk_drewN ?_ _ | refine blk_drew ?_ | refine blk_alloc ?_ _)); exact BK134.out)) : gb135 ≠ gb134)); clear BK134; clear HB; have BK134 := n0_; have HB := n1_; have BK135 := n2_; have GW135 := n3_; have GE135 := n4_; have NB134_135 := n5_; have NB135_134 := n6_; clear n0_ n1_ n2_ n3_ n4_ n5_ n6_; clear hb hbox hg; have hnb52 := NB134_135.out; have hnc52 := NB135_134.out; have hcz53_0 : w51.cell? ⟨gb134, 0, none⟩ = some (.string (⟨#[]⟩ : ByteArray)) := (blk_cell BK134.out 0).trans rfl; have hcz53_1 : w51.cell? ⟨gb134, 1, none⟩ = some (.string (⟨#[]⟩ : ByteArray)) := (blk_cell BK134.out 1).trans rfl; have hcz53_2 : w51.cell? ⟨gb134, 2, none⟩ = some (.string (⟨#[]⟩ : ByteArray)) := (blk_cell BK134.out 2).trans rfl; have hfz53_0 := blk_frozen BK134.out 0; have hfz53_1 := blk_frozen BK134.out 1; have hfz53_2 := blk_frozen BK134.out 2; have hcz54_0 : w51.cell? ⟨gb135, 0, none⟩ = some (.string (⟨#[]⟩ : ByteArray)) := (blk_cell BK135.out 0).trans rfl; have hcz54_1 : w51.cell? ⟨gb135, 1, none⟩ = some (.string (⟨#[]⟩ : ByteArray)) := (blk_cell BK135.out 1).trans rfl; have hcz54_2 : w51.cell? ⟨gb135, 2, none⟩ = some (.string (⟨#[]⟩ : ByteArray)) := (blk_cell BK135.out 2).trans rfl; have hfz54_0 := blk_frozen BK135.out 0; have hfz54_1 := blk_frozen BK135.out 1; have hfz54_2 := blk_frozen BK135.out 2) | (go_at_call 15; (with_reducible refine (impl_GroupKindText.calls t128 t130 t136 _ A35.out).mono ?_); rintro e w55 ⟨rfl, hb⟩; have n0_ := Aside0.mk (blk_below (g := gb134) (o := .cells #[.string t128, .string t129, .string t130] 26 (0, 0)) (by (with_reducible repeat (first | refine blk_drewN ?_ _ | refine blk_drew ?_ | refine blk_alloc ?_ _)); refine blk_far ?_ NB134_135.out _; (with_reducible repeat (first | refine blk_drewN ?_ _ | refine blk_drew ?_ | refine blk_alloc ?_ _)); refine blk_far ?_ NB134_135.out _; (with_reducible repeat (first | refine blk_drewN ?_ _ | refine blk_drew ?_ | refine blk_alloc ?_ _)); refine blk_far ?_ NB134_135.out _; (with_reducible repeat (first | refine blk_drewN ?_ _ | refine blk_drew ?_ | refine blk_alloc ?_ _)); refine blk_put (cs := #[.string t128, .string t129, .string (⟨#[]⟩ : ByteArray)]) ?_ 2 _ rfl; (with_reducible repeat (first | refine blk_drewN ?_ _ | refine blk_drew ?_ | refine blk_alloc ?_ _)); refine blk_put (cs := #[.string t128, .string (⟨#[]⟩ : ByteArray), .string (⟨#[]⟩ : ByteArray)]) ?_ 1 _ rfl; (with_reducible repeat (first | refine blk_drewN ?_ _ | refine blk_drew ?_ | refine blk_alloc ?_ _)); refine blk_put (cs := #[.string (⟨#[]⟩ : ByteArray), .string (⟨#[]⟩ : ByteArray), .string (⟨#[]⟩ : ByteArray)]) ?_ 0 _ rfl; (with_reducible repeat (first | refine blk_drewN ?_ _ | refine blk_drew ?_ | refine blk_alloc ?_ _)); exact BK134.out) hb); have n1_ := Aside0.mk (blk_below (g := gb135) (o := .cells #[.string t131, .string t132, .string t133] 26 (0, 0)) (by (with_reducible repeat (first | refine blk_drewN ?_ _ | refine blk_drew ?_ | refine blk_alloc ?_ _)); refine blk_put (cs := #[.string t131, .string t132, .string (⟨#[]⟩ : ByteArray)]) ?_ 2 _ rfl; (with_reducible repeat (first | refine blk_drewN ?_ _ | refine blk_drew ?_ | refine blk_alloc ?_ _)); refine blk_put (cs := #[.string t131, .string (⟨#[]⟩ : ByteArray), .string (⟨#[]⟩ : ByteArray)]) ?_ 1 _ rfl; (with_reducible repeat (first | refine blk_drewN ?_ _ | refine blk_drew ?_ | refine blk_alloc ?_ _)); refine blk_put (cs := #[.string (⟨#[]⟩ : ByteArray), .string (⟨#[]⟩ : ByteArray), .string (⟨#[]⟩ : ByteArray)]) ?_ 0 _ rfl; (with_reducible repeat (first | refine blk_drewN ?_ _ | refine blk_drew ?_ | refine blk_alloc ?_ _)); refine blk_far ?_ NB135_134.out _; (with_reducible repeat (first | refine blk_drewN ?_ _ | refine blk_drew ?_ | refine blk_alloc ?_ _)); refine blk_far ?_ NB135_134.out _; (with_reducible repeat (first | refine blk_drewN ?_ _ | refine blk_drew ?_ | refine blk_alloc ?_ _)); refine blk_far ?_ NB135_134.out _; (with_reducible repeat (first | refine blk_drewN ?_ _ | refine blk_drew ?_ | refine blk_alloc ?_ _)); exact BK135.out) hb); have n2_ := Aside0.mk (below_step (by repeat (first | (with_reducible first | exact HB.out | apply below_alloc | apply pw_below_drewN | apply below_drew1 | refine below_set ?_ GE134.out | refine below_set ?_ GE135.out) | exact HB.out)) hb); clear BK134; clear BK135; clear HB; have BK134 := n0_; have BK135 := n1_; have HB := n2_; clear n0_ n1_ n2_; (try clear hb); (try clear hb2); (try clear hk); (try clear hi)))
                          go_ret
                          exact ⟨by first | rfl | (simp [errW_none, errW_some] <;> rfl) | (simp [*, errW_none, errW_some] <;> rfl), by repeat (first | (with_reducible first | exact HB.out | apply below_alloc | apply pw_below_drewN | apply below_drew1 | refine below_set ?_ GE134.out | refine below_set ?_ GE135.out) | exact HB.out)⟩
                    · rw [if_neg c26] at H
                      have c26b0 : ((t130.size : Int) == (wrap64 ((a2.size : Int) - 1))) = false := beq_eq_false_iff_ne.mpr c26
                      have c26b1 : ((t130.size : Int) != (wrap64 ((a2.size : Int) - 1))) = true := bne_iff_ne.mpr c26
                      replace H := Option.bind_eq_some_iff.mp H
                      obtain ⟨t138, A560, H⟩ := H
                      replace H : (if t138.toList = a2.toList then ((impl_GroupResourceText.f t131 t133).bind fun t139 => (some (t139.toList == a2.toList))) else (some false)) = some r := H
                      have A56 := Aside0.mk A560
                      clear A560
                      by_cases c57 : t138.toList = a2.toList
                      · rw [if_pos c57] at H
                        have c57b0 : (t138.toList == a2.toList) = true := beq_iff_eq.mpr c57
                        have c57b1 : (t138.toList != a2.toList) = false := bne_eq_false_iff_eq.mpr c57
                        clear c57
                        replace H := Option.bind_eq_some_iff.mp H
                        obtain ⟨t139, A580, H⟩ := H
                        replace H : (some (t139.toList == a2.toList)) = some r := H
                        have A58 := Aside0.mk A580
                        clear A580
                        obtain rfl := Option.some.inj H
                        go_wp2_with (first | ((with_reducible refine gate_callee (f := 14) rfl ?_); refine goesL_ (some 48) rfl rfl Try.func14 (by kernel_rfl) rfl #[.string a2] rfl (by (try simp only [List.map_toArray, List.map_cons, List.map_nil]); first | done | rfl | (simp only [List.length_drop, List.length_take]; rfl)) ?_; (with_reducible refine (impl_GroupKindParse.calls kj15 a2 t128 t129 t130 _ A24.out).mono ?_); rintro e w59 ⟨rfl, hb⟩; refine ⟨_, rfl, ?_⟩; have n0_ := Aside0.mk (below_step (by repeat (first | (with_reducible first | exact HB.out | apply below_alloc | apply pw_below_drewN | apply below_drew1) | exact HB.out)) hb); clear HB; have HB := n0_; clear n0_; (try clear hb); (try clear hb2); (try clear hk); (try clear hi)) | ((with_reducible refine gate_callee (f := 16) rfl ?_); refine goesL_ (some 50) rfl rfl Try.func16 (by kernel_rfl) rfl #[.string a2] rfl (by (try simp only [List.map_toArray, List.map_cons, List.map_nil]); first | done | rfl | (simp only [List.length_drop, List.length_take]; rfl)) ?_; (with_reducible refine (impl_GroupResourceParse.calls kj15 a2 t131 t132 t133 _ A25.out).mono ?_); rintro e w60 ⟨rfl, hb⟩; refine ⟨_, rfl, ?_⟩; have n0_ := Aside0.mk (below_step (by repeat (first | (with_reducible first | exact HB.out | apply below_alloc | apply pw_below_drewN | apply below_drew1) | exact HB.out)) hb); clear HB; have HB := n0_; clear n0_; (try clear hb); (try clear hb2); (try clear hk); (try clear hi)) | ((with_reducible refine gate_dst (N := 7) rfl ?_); (try (refine gate_guard (by rfl) ?_; dsimp only)); refine box_event ?hg (N := 7) ?hd (cs := #[.string (⟨#[]⟩ : ByteArray), .string (⟨#[]⟩ : ByteArray), .string (⟨#[]⟩ : ByteArray)]) (t := 26) ?hr ?_; (case hd => rfl); (case hg => rfl); (case hr => first | (go_simp; done) | (go_simp; rfl)); intro gb134 hg w61 hbox hb; have n0_ := Aside0.mk (below_step (by repeat (first | (with_reducible first | exact HB.out | apply below_alloc | apply pw_below_drewN | apply below_drew1) | exact HB.out)) hb); have n1_ := Aside0.mk (hbox); have n2_ := Aside0.mk ((by rw [hg]; exact (below_size (by repeat (first | (with_reducible first | exact HB.out | apply below_alloc | apply pw_below_drewN | apply below_drew1) | exact HB.out))) : w.heap.size ≤ gb134)); have n3_ := Aside0.mk ((by rw [hg]; exact (below_size (by repeat (first | (with_reducible first | exact HB.out | apply below_alloc | apply pw_below_drewN | apply below_drew1) | exact HB.out))) : w.heap.size ≤ gb134)); clear HB; have HB := n0_; have BK134 := n1_; have GW134 := n2_; have GE134 := n3_; clear n0_ n1_ n2_ n3_; clear hb hbox hg) | ((with_reducible refine gate_dst (N := 8) rfl ?_); (try (refine gate_guard (by rfl) ?_; dsimp only)); refine box_event ?hg (N := 8) ?hd (cs := #[.string (⟨#[]⟩ : ByteArray), .string (⟨#[]⟩ : ByteArray), .string (⟨#[]⟩ : ByteArray)]) (t := 26) ?hr ?_; (case hd => rfl); (case hg => rfl); (case hr => first | (go_simp; done) | (go_simp; rfl)); intro gb135 hg w62 hbox hb; have n0_ := Aside0.mk (blk_below (g := gb134) (o := .cells #[.string (⟨#[]⟩ : ByteArray), .string (⟨#[]⟩ : ByteArray), .string (⟨#[]⟩ : ByteArray)] 26 (0, 0)) (by (with_reducible repeat (first | refine blk_drewN ?_ _ | refine blk_drew ?_ | refine blk_alloc ?_ _)); exact BK134.out) hb); have n1_ := Aside0.mk (below_step (by repeat (first | (with_reducible first | exact HB.out | apply below_alloc | apply pw_below_drewN | apply below_drew1 | refine below_set ?_ GE134.out) | exact HB.out)) hb); have n2_ := Aside0.mk (hbox); have n3_ := Aside0.mk ((by rw [hg]; exact (below_size (by repeat (first | (with_reducible first | exact HB.out | apply below_alloc | apply pw_below_drewN | apply below_drew1 | refine below_set ?_ GE134.out) | exact HB.out))) : w.heap.size ≤ gb135)); have n4_ := Aside0.mk ((by rw [hg]; exact (below_size (by repeat (first | (with_reducible first | exact HB.out | apply below_alloc | apply pw_below_drewN | apply below_drew1 | refine below_set ?_ GE134.out) | exact HB.out))) : w.heap.size ≤ gb135)); have n5_ := Aside0.mk ((by rw [hg]; exact Nat.ne_of_lt (blk_lt (g := gb134) (o := .cells #[.string (⟨#[]⟩ : ByteArray), .string (⟨#[]⟩ : ByteArray), .string (⟨#[]⟩ : ByteArray)] 26 (0, 0)) (by (with_reducible repeat (first | refine blk_drewN ?_ _ | refine blk_drew ?_ | refine blk_alloc ?_ _)); exact BK134.out)) : gb134 ≠ gb135)); have n6_ := Aside0.mk ((by rw [hg]; exact Nat.ne_of_gt (blk_lt (g := gb134) (o := .cells #[.string (⟨#[]⟩ : ByteArray), .string (⟨#[]⟩ : ByteArray), .string (⟨#[]⟩ : ByteArray)] 26 (0, 0)) (by (with_reducible repeat (first | refine blk_drewN ?_ _ | refine blk_drew ?_ | refine blk_alloc ?_ _)); exact BK134.out)) : gb135 ≠ gb134)); clear BK134; clear HB; have BK134 := n0_; have HB := n1_; have BK135 := n2_; have GW135 := n3_; have GE135 := n4_; have NB134_135 := n5_; have NB135_134 := n6_; clear n0_ n1_ n2_ n3_ n4_ n5_ n6_; clear hb hbox hg; have hnb63 := NB134_135.out; have hnc63 := NB135_134.out; have hcz64_0 : w62.cell? ⟨gb134, 0, none⟩ = some (.string (⟨#[]⟩ : ByteArray)) := (blk_cell BK134.out 0).trans rfl; have hcz64_1 : w62.cell? ⟨gb134, 1, none⟩ = some (.string (⟨#[]⟩ : ByteArray)) := (blk_cell BK134.out 1).trans rfl; have hcz64_2 : w62.cell? ⟨gb134, 2, none⟩ = some (.string (⟨#[]⟩ : ByteArray)) := (blk_cell BK134.out 2).trans rfl; have hfz64_0 := blk_frozen BK134.out 0; have hfz64_1 := blk_frozen BK134.out 1; have hfz64_2 := blk_frozen BK134.out 2; have hcz65_0 : w62.cell? ⟨gb135, 0, none⟩ = some (.string (⟨#[]⟩ : ByteArray)) := (blk_cell BK135.out 0).trans rfl; have hcz65_1 : w62.cell? ⟨gb135, 1, none⟩ = some (.string (⟨#[]⟩ : ByteArray)) := (blk_cell BK135.out 1).trans rfl; have hcz65_2 : w62.cell? ⟨gb135, 2, none⟩ = some (.string (⟨#[]⟩ : ByteArray)) := (blk_cell BK135.out 2).trans rfl; have hfz65_0 := blk_frozen BK135.out 0; have hfz65_1 := blk_frozen BK135.out 1; have hfz65_2 := blk_frozen BK135.out 2) | (go_at_call 15; (with_reducible refine (impl_GroupKindText.calls t128 t130 t138 _ A56.out).mono ?_); rintro e w66 ⟨rfl, hb⟩; have n0_ := Aside0.mk (blk_below (g := gb134) (o := .cells #[.string t128, .string t129, .string t130] 26 (0, 0)) (by (with_reducible repeat (first | refine blk_drewN ?_ _ | refine blk_drew ?_ | refine blk_alloc ?_ _)); refine blk_far ?_ NB134_135.out _; (with_reducible repeat (first | refine blk_drewN ?_ _ | refine blk_drew ?_ | refine blk_alloc ?_ _)); refine blk_far ?_ NB134_135.out _; (with_reducible repeat (first | refine blk_drewN ?_ _ | refine blk_drew ?_ | refine blk_alloc ?_ _)); refine blk_far ?_ NB134_135.out _; (with_reducible repeat (first | refine blk_drewN ?_ _ | refine blk_drew ?_ | refine blk_alloc ?_ _)); refine blk_put (cs := #[.string t128, .string t129, .string (⟨#[]⟩ : ByteArray)]) ?_ 2 _ rfl; (with_reducible repeat (first | refine blk_drewN ?_ _ | refine blk_drew ?_ | refine blk_alloc ?_ _)); refine blk_put (cs := #[.string t128, .string (⟨#[]⟩ : ByteArray), .string (⟨#[]⟩ : ByteArray)]) ?_ 1 _ rfl; (with_reducible repeat (first | refine blk_drewN ?_ _ | refine blk_drew ?_ | refine blk_alloc ?_ _)); refine blk_put (cs := #[.string (⟨#[]⟩ : ByteArray), .string (⟨#[]⟩ : ByteArray), .string (⟨#[]⟩ : ByteArray)]) ?_ 0 _ rfl; (with_reducible repeat (first | refine blk_drewN ?_ _ | refine blk_drew ?_ | refine blk_alloc ?_ _)); exact BK134.out) hb); have n1_ := Aside0.mk (blk_below (g := gb135) (o := .cells #[.string t131, .string t132, .string t133] 26 (0, 0)) (by (with_reducible repeat (first | refine blk_drewN ?_ _ | refine blk_drew ?_ | refine blk_alloc ?_ _)); refine blk_put (cs := #[.string t131, .string t132, .string (⟨#[]⟩ : ByteArray)]) ?_ 2 _ rfl; (with_reducible repeat (first | refine blk_drewN ?_ _ | refine blk_drew ?_ | refine blk_alloc ?_ _)); refine blk_put (cs := #[.string t131, .string (⟨#[]⟩ : ByteArray), .string (⟨#[]⟩ : ByteArray)]) ?_ 1 _ rfl; (with_reducible repeat (first | refine blk_drewN ?_ _ | refine blk_drew ?_ | refine blk_alloc ?_ _)); refine blk_put (cs := #[.string (⟨#[]⟩ : ByteArray), .string (⟨#[]⟩ : ByteArray), .string (⟨#[]⟩ : ByteArray)]) ?_ 0 _ rfl; (with_reducible repeat (first | refine blk_drewN ?_ _ | refine blk_drew ?_ | refine blk_alloc ?_ _)); refine blk_far ?_ NB135_134.out _; (with_reducible repeat (first | refine blk_drewN ?_ _ | refine blk_drew ?_ | refine blk_alloc ?_ _)); refine blk_far ?_ NB135_134.out _; (with_reducible repeat (first | refine blk_drewN ?_ _ | refine blk_drew ?_ | refine blk_alloc ?_ _)); refine blk_far ?_ NB135_134.out _; (with_reducible repeat (first | refine blk_drewN ?_ _ | refine blk_drew ?_ | refine blk_alloc ?_ _)); exact BK135.out) hb); have n2_ := Aside0.mk (below_step (by repeat (first | (with_reducible first | exact HB.out | apply below_alloc | apply pw_below_drewN | apply below_drew1 | refine below_set ?_ GE134.out | refine below_set ?_ GE135.out) | exact HB.out)) hb); clear BK134; clear BK135; clear HB; have BK134 := n0_; have BK135 := n1_; have HB := n2_; clear n0_ n1_ n2_; (try clear hb); (try clear hb2); (try clear hk); (try clear hi); have hcz67_0 : w66.cell? ⟨gb135, 0, none⟩ = some (.string t131) := (blk_cell BK135.out 0).trans rfl; have hcz67_1 : w66.cell? ⟨gb135, 1, none⟩ = some (.string t132) := (blk_cell BK135.out 1).trans rfl; have hcz67_2 : w66.cell? ⟨gb135, 2, none⟩ = some (.string t133) := (blk_cell BK135.out 2).trans rfl; have hfz67_0 := blk_frozen BK135.out 0; have hfz67_1 := blk_frozen BK135.out 1; have hfz67_2 := blk_frozen BK135.out 2) | (go_at_call 17; (with_reducible refine (impl_GroupResourceText.calls t131 t133 t139 _ A58.out).mono ?_); rintro e w68 ⟨rfl, hb⟩; have n0_ := Aside0.mk (blk_below (g := gb134) (o := .cells #[.string t128, .string t129, .string t130] 26 (0, 0)) (by (with_reducible repeat (first | refine blk_drewN ?_ _ | refine blk_drew ?_ | refine blk_alloc ?_ _)); exact BK134.out) hb); have n1_ := Aside0.mk (blk_below (g := gb135) (o := .cells #[.string t131, .string t132, .string t133] 26 (0, 0)) (by (with_reducible repeat (first | refine blk_drewN ?_ _ | refine blk_drew ?_ | refine blk_alloc ?_ _)); exact BK135.out) hb); have n2_ := Aside0.mk (below_step (by repeat (first | (with_reducible first | exact HB.out | apply below_alloc | apply pw_below_drewN | apply below_drew1 | refine below_set ?_ GE134.out | refine below_set ?_ GE135.out) | exact HB.out)) hb); clear BK134; clear BK135; clear HB; have BK134 := n0_; have BK135 := n1_; have HB := n2_; clear n0_ n1_ n2_; (try clear hb); (try clear hb2); (try clear hk); (try clear hi)))
                        go_ret
                        exact ⟨by first | rfl | (simp [errW_none, errW_some] <;> rfl) | (simp [*, errW_none, errW_some] <;> rfl), by repeat (first | (with_reducible first | exact HB.out | apply below_alloc | apply pw_below_drewN | apply below_drew1 | refine below_set ?_ GE134.out | refine below_set ?_ GE135.out) | exact HB.out)⟩
                      · rw [if_neg c57] at H
                        have c57b0 : (t138.toList == a2.toList) = false := beq_eq_false_iff_ne.mpr c57
                        have c57b1 : (t138.toList != a2.toList) = true := bne_iff_ne.mpr c57
                        obtain rfl := Option.some.inj H
                        go_wp2_with (first | ((with_reducible refine gate_callee (f := 14) rfl ?_); refine goesL_ (some 48) rfl rfl Try.func14 (by kernel_rfl) rfl #[.string a2] rfl (by (try simp only [List.map_toArray, List.map_cons, List.map_nil]); first | done | rfl | (simp only [List.length_drop, List.length_take]; rfl)) ?_; (with_reducible refine (impl_GroupKindParse.calls kj15 a2 t128 t129 t130 _ A24.out).mono ?_); rintro e w69 ⟨rfl, hb⟩; refine ⟨_, rfl, ?_⟩; have n0_ := Aside0.mk (below_step (by repeat (first | (with_reducible first | exact HB.out | apply below_alloc | apply pw_below_drewN | apply below_drew1) | exact HB.out)) hb); clear HB; have HB := n0_; clear n0_; (try clear hb); (try clear hb2); (try clear hk); (try clear hi)) | ((with_reducible refine gate_callee (f := 16) rfl ?_); refine goesL_ (some 50) rfl rfl Try.func16 (by kernel_rfl) rfl #[.string a2] rfl (by (try simp only [List.map_toArray, List.map_cons, List.map_nil]); first | done | rfl | (simp only [List.length_drop, List.length_take]; rfl)) ?_; (with_reducible refine (impl_GroupResourceParse.calls kj15 a2 t131 t132 t133 _ A25.out).mono ?_); rintro e w70 ⟨rfl, hb⟩; refine ⟨_, rfl, ?_⟩; have n0_ := Aside0.mk (below_step (by repeat (first | (with_reducible first | exact HB.out | apply below_alloc | apply pw_below_drewN | apply below_drew1) | exact HB.out)) hb); clear HB; have HB := n0_; clear n0_; (try clear hb); (try clear hb2); (try clear hk); (try clear hi)) | ((with_reducible refine gate_dst (N := 7) rfl ?_); (try (refine gate_guard (by rfl) ?_; dsimp only)); refine box_event ?hg (N := 7) ?hd (cs := #[.string (⟨#[]⟩ : ByteArray), .string (⟨#[]⟩ : ByteArray), .string (⟨#[]⟩ : ByteArray)]) (t := 26) ?hr ?_; (case hd => rfl); (case hg => rfl); (case hr => first | (go_simp; done) | (go_simp; rfl)); intro gb134 hg w71 hbox hb; have n0_ := Aside0.mk (below_step (by repeat (first | (with_reducible first | exact HB.out | apply below_alloc | apply pw_below_drewN | apply below_drew1) | exact HB.out)) hb); have n1_ := Aside0.mk (hbox); have n2_ := Aside0.mk ((by rw [hg]; exact (below_size (by repeat (first | (with_reducible first | exact HB.out | apply below_alloc | apply pw_below_drewN | apply below_drew1) | exact HB.out))) : w.heap.size ≤ gb134)); have n3_ := Aside0.mk ((by rw [hg]; exact (below_size (by repeat (first | (with_reducible first | exact HB.out | apply below_alloc | apply pw_below_drewN | apply below_drew1) | exact HB.out))) : w.heap.size ≤ gb134)); clear HB; have HB := n0_; have BK134 := n1_; have GW134 := n2_; have GE134 := n3_; clear n0_ n1_ n2_ n3_; clear hb hbox hg) | ((with_reducible refine gate_dst (N := 8) rfl ?_); (try (refine gate_guard (by rfl) ?_; dsimp only)); refine box_event ?hg (N := 8) ?hd (cs := #[.string (⟨#[]⟩ : ByteArray), .string (⟨#[]⟩ : ByteArray), .string (⟨#[]⟩ : ByteArray)]) (t := 26) ?hr ?_; (case hd => rfl); (case hg => rfl); (case hr => first | (go_simp; done) | (go_simp; rfl)); intro gb135 hg w72 hbox hb; have n0_ := Aside0.mk (blk_below (g := gb134) (o := .cells #[.string (⟨#[]⟩ : ByteArray), .string (⟨#[]⟩ : ByteArray), .string (⟨#[]⟩ : ByteArray)] 26 (0, 0)) (by (with_reducible repeat (first | refine blk_drewN ?_ _ | refine blk_drew ?_ | refine blk_alloc ?_ _)); exact BK134.out) hb); have n1_ := Aside0.mk (below_step (by repeat (first | (with_reducible first | exact HB.out | apply below_alloc | apply pw_below_drewN | apply below_drew1 | refine below_set ?_ GE134.out) | exact HB.out)) hb); have n2_ := Aside0.mk (hbox); have n3_ := Aside0.mk ((by rw [hg]; exact (below_size (by repeat (first | (with_reducible first | exact HB.out | apply below_alloc | apply pw_below_drewN | apply below_drew1 | refine below_set ?_ GE134.out) | exact HB.out))) : w.heap.size ≤ gb135)); have n4_ := Aside0.mk ((by rw [hg]; exact (below_size (by repeat (first | (with_reducible first | exact HB.out | apply below_alloc | apply pw_below_drewN | apply below_drew1 | refine below_set ?_ GE134.out) | exact HB.out))) : w.heap.size ≤ gb135)); have n5_ := Aside0.mk ((by rw [hg]; exact Nat.ne_of_lt (blk_lt (g := gb134) (o := .cells #[.string (⟨#[]⟩ : ByteArray), .string (⟨#[]⟩ : ByteArray), .string (⟨#[]⟩ : ByteArray)] 26 (0, 0)) (by (with_reducible repeat (first | refine blk_drewN ?_ _ | refine blk_drew ?_ | refine blk_alloc ?_ _)); exact BK134.out)) : gb134 ≠ gb135)); have n6_ := Aside0.mk ((by rw [hg]; exact Nat.ne_of_gt (blk_lt (g := gb134) (o := .cells #[.string (⟨#[]⟩ : ByteArray), .string (⟨#[]⟩ : ByteArray), .string (⟨#[]⟩ : ByteArray)] 26 (0, 0)) (by (with_reducible repeat (first | refine blk_drewN ?_ _ | refine blk_drew ?_ | refine blk_alloc ?_ _)); exact BK134.out)) : gb135 ≠ gb134)); clear BK134; clear HB; have BK134 := n0_; have HB := n1_; have BK135 := n2_; have GW135 := n3_; have GE135 := n4_; have NB134_135 := n5_; have NB135_134 := n6_; clear n0_ n1_ n2_ n3_ n4_ n5_ n6_; clear hb hbox hg; have hnb73 := NB134_135.out; have hnc73 := NB135_134.out; have hcz74_0 : w72.cell? ⟨gb134, 0, none⟩ = some (.string (⟨#[]⟩ : ByteArray)) := (blk_cell BK134.out 0).trans rfl; have hcz74_1 : w72.cell? ⟨gb134, 1, none⟩ = some (.string (⟨#[]⟩ : ByteArray)) := (blk_cell BK134.out 1).trans rfl; have hcz74_2 : w72.cell? ⟨gb134, 2, none⟩ = some (.string (⟨#[]⟩ : ByteArray)) := (blk_cell BK134.out 2).trans rfl; have hfz74_0 := blk_frozen BK134.out 0; have hfz74_1 := blk_frozen BK134.out 1; have hfz74_2 := blk_frozen BK134.out 2; have hcz75_0 : w72.cell? ⟨gb135, 0, none⟩ = some (.string (⟨#[]⟩ : ByteArray)) := (blk_cell BK135.out 0).trans rfl; have hcz75_1 : w72.cell? ⟨gb135, 1, none⟩ = some (.string (⟨#[]⟩ : ByteArray)) := (blk_cell BK135.out 1).trans rfl; have hcz75_2 : w72.cell? ⟨gb135, 2, none⟩ = some (.string (⟨#[]⟩ : ByteArray)) := (blk_cell BK135.out 2).trans rfl; have hfz75_0 := blk_frozen BK135.out 0; have hfz75_1 := blk_frozen BK135.out 1; have hfz75_2 := blk_frozen BK135.out 2) | (go_at_call 15; (with_reducible refine (impl_GroupKindText.calls t128 t130 t138 _ A56.out).mono ?_); rintro e w76 ⟨rfl, hb⟩; have n0_ := Aside0.mk (blk_below (g := gb134) (o := .cells #[.string t128, .string t129, .string t130] 26 (0, 0)) (by (with_reducible repeat (first | refine blk_drewN ?_ _ | refine blk_drew ?_ | refine blk_alloc ?_ _)); refine blk_far ?_ NB134_135.out _; (with_reducible repeat (first | refine blk_drewN ?_ _ | refine blk_drew ?_ | refine blk_alloc ?_ _)); refine blk_far ?_ NB134_135.out _; (with_reducible repeat (first | refine blk_drewN ?_ _ | refine blk_drew ?_ | refine blk_alloc ?_ _)); refine blk_far ?_ NB134_135.out _; (with_reducible repeat (first | refine blk_drewN ?_ _ | refine blk_drew ?_ | refine blk_alloc ?_ _)); refine blk_put (cs := #[.string t128, .string t129, .string (⟨#[]⟩ : ByteArray)]) ?_ 2 _ rfl; (with_reducible repeat (first | refine blk_drewN ?_ _ | refine blk_drew ?_ | refine blk_alloc ?_ _)); refine blk_put (cs := #[.string t128, .string (⟨#[]⟩ : ByteArray), .string (⟨#[]⟩ : ByteArray)]) ?_ 1 _ rfl; (with_reducible repeat (first | refine blk_drewN ?_ _ | refine blk_drew ?_ | refine blk_alloc ?_ _)); refine blk_put (cs := #[.string (⟨#[]⟩ : ByteArray), .string (⟨#[]⟩ : ByteArray), .string (⟨#[]⟩ : ByteArray)]) ?_ 0 _ rfl; (with_reducible repeat (first | refine blk_drewN ?_ _ | refine blk_drew ?_ | refine blk_alloc ?_ _)); exact BK134.out) hb); have n1_ := Aside0.mk (blk_below (g := gb135) (o := .cells #[.string t131, .string t132, .string t133] 26 (0, 0)) (by (with_reducible repeat (first | refine blk_drewN ?_ _ | refine blk_drew ?_ | refine blk_alloc ?_ _)); refine blk_put (cs := #[.string t131, .string t132, .string (⟨#[]⟩ : ByteArray)]) ?_ 2 _ rfl; (with_reducible repeat (first | refine blk_drewN ?_ _ | refine blk_drew ?_ | refine blk_alloc ?_ _)); refine blk_put (cs := #[.string t131, .string (⟨#[]⟩ : ByteArray), .string (⟨#[]⟩ : ByteArray)]) ?_ 1 _ rfl; (with_reducible repeat (first | refine blk_drewN ?_ _ | refine blk_drew ?_ | refine blk_alloc ?_ _)); refine blk_put (cs := #[.string (⟨#[]⟩ : ByteArray), .string (⟨#[]⟩ : ByteArray), .string (⟨#[]⟩ : ByteArray)]) ?_ 0 _ rfl; (with_reducible repeat (first | refine blk_drewN ?_ _ | refine blk_drew ?_ | refine blk_alloc ?_ _)); refine blk_far ?_ NB135_134.out _; (with_reducible repeat (first | refine blk_drewN ?_ _ | refine blk_drew ?_ | refine blk_alloc ?_ _)); refine blk_far ?_ NB135_134.out _; (with_reducible repeat (first | refine blk_drewN ?_ _ | refine blk_drew ?_ | refine blk_alloc ?_ _)); refine blk_far ?_ NB135_134.out _; (with_reducible repeat (first | refine blk_drewN ?_ _ | refine blk_drew ?_ | refine blk_alloc ?_ _)); exact BK135.out) hb); have n2_ := Aside0.mk (below_step (by repeat (first | (with_reducible first | exact HB.out | apply below_alloc | apply pw_below_drewN | apply below_drew1 | refine below_set ?_ GE134.out | refine below_set ?_ GE135.out) | exact HB.out)) hb); clear BK134; clear BK135; clear HB; have BK134 := n0_; have BK135 := n1_; have HB := n2_; clear n0_ n1_ n2_; (try clear hb); (try clear hb2); (try clear hk); (try clear hi)))
                        go_ret
                        exact ⟨by first | rfl | (simp [errW_none, errW_some] <;> rfl) | (simp [*, errW_none, errW_some] <;> rfl), by repeat (first | (with_reducible first | exact HB.out | apply below_alloc | apply pw_below_drewN | apply below_drew1 | refine below_set ?_ GE134.out | refine below_set ?_ GE135.out) | exact HB.out)⟩

/-- THE ONE PURE STATEMENT of laws_FnNamedBack: yours. -/
def laws_FnNamedBack.Pure : Prop := ∀ (a0 : ByteArray) (a1 : ByteArray) (a2 : ByteArray), a0.size ≤ 140737488351232 → a1.size ≤ 140737488351232 → a2.size ≤ 140737488351232 → ∃ k, laws_FnNamedBack.f k a0 a1 a2 = some true
theorem laws_FnNamedBack.walk (P : laws_FnNamedBack.Pure) (a0 : ByteArray) (a1 : ByteArray) (a2 : ByteArray) (w : World) (w0 : a0.size ≤ 140737488351232) (w1 : a1.size ≤ 140737488351232) (w2 : a2.size ≤ 140737488351232) :
    Calls Try.prog 5 #[.string a0, .string a1, .string a2] w fun e w' => e = .returned (.bool true) ∧ Below w.heap.size w w' := by
  obtain ⟨k, h⟩ := P a0 a1 a2 w0 w1 w2
  refine (laws_FnNamedBack.calls k a0 a1 a2 true w h).mono ?_
  rintro e w' ⟨rfl, hd⟩
  exact ⟨rfl, hd⟩

end Go.Proofs.Ytehgokciafpnbaa.PFnNamedBack
