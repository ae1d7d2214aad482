/- A text of this session: the functions of the law FnKindForAny, by a program that calls the kit's print and lays this session's own contracts of single functions beside. -/
import Derived.Test.YtehgokciafpnbaaXFnKindForAnyx0
import Derived.Test.YtehgokciafpnbaaXFnKindForAnyx1
import Derived.Test.YtehgokciafpnbaaXFnKindForAnyx3
import Derived.Test.YtehgokciafpnbaaXFnKindForAnyx4
namespace Go.Proofs.Ytehgokciafpnbaa.XFnKindForAny
open Go.RowKit Go.Proofs.YtehgokciafpnbaaW.PrintWords Go.Proofs.YtehgokciafpnbaaW.PrintLast Go.Proofs.YtehgokciafpnbaaW.PrintMore
attribute [local go_sem] max2_int min2_int max_two min_two max_three min_three max_four min_four   -- for this text's walks alone
set_option linter.unusedVariables false
set_option linter.unusedSimpArgs false

attribute [local go_sem high] eqA26
/-! ### laws_FnKindForAny: function 8 -/
mutual
def laws_FnKindForAny.j0 : Nat → List (S26) → List (S26) → Bool → Option (Bool)
  | 0, _, _, _ => none
  | k + 1, x0, x1, x19 => if x19 = true then (some true) else ((impl_KindForAny.f k x0 x1).bind fun bt168 => (laws_FnKindForAny.l0 k x0 x1 bt168.2.2.2 false false 0 bt168.1 bt168.2.1 bt168.2.2.1))
def laws_FnKindForAny.l0 : Nat → List (S26) → List (S26) → Bool → Bool → Bool → Int → ByteArray → ByteArray → ByteArray → Option (Bool)
  | 0, _, _, _, _, _, _, _, _, _ => none
  | k + 1, x0, x1, x6, x7, x8, x9, x173000, x173001, x173002 => if x9 < (x0.length : Int) then (if 0 ≤ x9 then ((spec_KindHas.f k ((rd_T26 x0 x9).f0) ((rd_T26 x0 x9).f1) x1).bind fun bt175 => (if x7 = true then (if x8 = true then (laws_FnKindForAny.l0 k x0 x1 x6 true true (wrap64 (x9 + 1)) x173000 x173001 x173002) else (if bt175.1 = true then (laws_FnKindForAny.l0 k x0 x1 x6 true (x173000.toList == ((rd_T26 x0 x9).f0).toList) (wrap64 (x9 + 1)) x173000 x173001 x173002) else (laws_FnKindForAny.l0 k x0 x1 x6 true false (wrap64 (x9 + 1)) x173000 x173001 x173002))) else (if x8 = true then (laws_FnKindForAny.l0 k x0 x1 x6 bt175.1 true (wrap64 (x9 + 1)) x173000 x173001 x173002) else (if bt175.1 = true then (laws_FnKindForAny.l0 k x0 x1 x6 bt175.1 (x173000.toList == ((rd_T26 x0 x9).f0).toList) (wrap64 (x9 + 1)) x173000 x173001 x173002) else (laws_FnKindForAny.l0 k x0 x1 x6 bt175.1 false (wrap64 (x9 + 1)) x173000 x173001 x173002))))) else (none)) else (if (x6 == x7) = true then (if x6 = true then (some x8) else (if (x173000.toList == ([] : List UInt8) && (x173001.toList == ([] : List UInt8) && (x173002.toList == ([] : List UInt8)))) = true then (some true) else (some false))) else (some false))
end
def laws_FnKindForAny.f (k : Nat) (l0 : List (S26)) (l1 : List (S26)) : Option (Bool) := (laws_zzFits9.f k l0).bind fun t166 => (if t166 = true then ((laws_zzFits9.f k l1).bind fun t167 => (laws_FnKindForAny.j0 k l0 l1 (!t167))) else (laws_FnKindForAny.j0 k l0 l1 true))
theorem laws_FnKindForAny.mono_l : ∀ k, (∀ y0 y1 y2, LeO (laws_FnKindForAny.j0 k y0 y1 y2) (laws_FnKindForAny.j0 (k + 1) y0 y1 y2)) ∧ (∀ y0 y1 y2 y3 y4 y5 y6 y7 y8, LeO (laws_FnKindForAny.l0 k y0 y1 y2 y3 y4 y5 y6 y7 y8) (laws_FnKindForAny.l0 (k + 1) y0 y1 y2 y3 y4 y5 y6 y7 y8))
  | 0 => ⟨fun _ _ _ r h => by simp [laws_FnKindForAny.j0] at h, fun _ _ _ _ _ _ _ _ _ r h => by simp [laws_FnKindForAny.l0] at h⟩
  | k + 1 => by
    obtain ⟨ih0, ih1⟩ := laws_FnKindForAny.mono_l k
    refine ⟨?_, ?_⟩
    · intro y0 y1 y2
      unfold laws_FnKindForAny.j0
      repeat' first
      | (with_reducible exact ih0 _ _ _)
      | (with_reducible exact ih1 _ _ _ _ _ _ _ _ _)
      | (with_reducible exact impl_KindForAny.mono _ _ _)
      | (with_reducible exact laws_zzFits9.mono _ _)
      | (with_reducible exact spec_KindHas.mono _ _ _ _)
      | (with_reducible exact LeO.refl _)
      | (with_reducible exact LeO.none _)
      | (with_reducible refine LeO.ite ?_ ?_)
      | (with_reducible refine LeO.bind ?_ (fun _ => ?_))
      | exact ih0 _ _ _
      | exact ih1 _ _ _ _ _ _ _ _ _
      | exact impl_KindForAny.mono _ _ _
      | exact laws_zzFits9.mono _ _
      | exact spec_KindHas.mono _ _ _ _
      | exact LeO.none _
      | refine LeO.ite ?_ ?_
      | refine LeO.bind ?_ (fun _ => ?_)
    · intro y0 y1 y2 y3 y4 y5 y6 y7 y8
      unfold laws_FnKindForAny.l0
      repeat' first
      | (with_reducible exact ih0 _ _ _)
      | (with_reducible exact ih1 _ _ _ _ _ _ _ _ _)
      | (with_reducible exact impl_KindForAny.mono _ _ _)
      | (with_reducible exact laws_zzFits9.mono _ _)
      | (with_reducible exact spec_KindHas.mono _ _ _ _)
      | (with_reducible exact LeO.refl _)
      | (with_reducible exact LeO.none _)
      | (with_reducible refine LeO.ite ?_ ?_)
      | (with_reducible refine LeO.bind ?_ (fun _ => ?_))
      | exact ih0 _ _ _
      | exact ih1 _ _ _ _ _ _ _ _ _
      | exact impl_KindForAny.mono _ _ _
      | exact laws_zzFits9.mono _ _
      | exact spec_KindHas.mono _ _ _ _
      | exact LeO.none _
      | refine LeO.ite ?_ ?_
      | refine LeO.bind ?_ (fun _ => ?_)
theorem laws_FnKindForAny.mono : ∀ a0 a1 k, LeO (laws_FnKindForAny.f k a0 a1) (laws_FnKindForAny.f (k + 1) a0 a1) := by
  intro a0 a1 k
  obtain ⟨ih0, ih1⟩ := laws_FnKindForAny.mono_l k
  unfold laws_FnKindForAny.f
  repeat' first
      | (with_reducible exact ih0 _ _ _)
      | (with_reducible exact ih1 _ _ _ _ _ _ _ _ _)
      | (with_reducible exact impl_KindForAny.mono _ _ _)
      | (with_reducible exact laws_zzFits9.mono _ _)
      | (with_reducible exact spec_KindHas.mono _ _ _ _)
      | (with_reducible exact LeO.refl _)
      | (with_reducible exact LeO.none _)
      | (with_reducible refine LeO.ite ?_ ?_)
      | (with_reducible refine LeO.bind ?_ (fun _ => ?_))
      | exact ih0 _ _ _
      | exact ih1 _ _ _ _ _ _ _ _ _
      | exact impl_KindForAny.mono _ _ _
      | exact laws_zzFits9.mono _ _
      | exact spec_KindHas.mono _ _ _ _
      | exact LeO.none _
      | refine LeO.ite ?_ ?_
      | refine LeO.bind ?_ (fun _ => ?_)
set_option maxHeartbeats 8000000 in
set_option maxRecDepth 100000 in
theorem laws_FnKindForAny.calls (k : Nat) (A0 : Option Addr) (c0 : Nat) (l0 : List (S26)) (A1 : Option Addr) (c1 : Nat) (l1 : List (S26)) (r : Bool) (w : World) (hr0 : Kd.C k26 w A0 l0.length l0) (hc0 : l0.length ≤ c0) (hr1 : Kd.C k26 w A1 l1.length l1) (hc1 : l1.length ≤ c1) (h : laws_FnKindForAny.f k l0 l1 = some r) :
    Calls Try.prog 8 #[.slice A0 l0.length c0, .slice A1 l1.length c1] w fun e w' => e = .returned (.bool r) ∧ Below w.heap.size w w' := by
  have hu26 := Try.underlying26
  have HR0 := Aside0.mk hr0
  have HC0 := Aside0.mk hc0
  clear hr0 hc0
  have HR1 := Aside0.mk hr1
  have HC1 := Aside0.mk hc1
  clear hr1 hc1
  have HB := Aside0.mk (Below.refl w.heap.size w)
  have H : ((laws_zzFits9.f k l0).bind fun t166 => (if t166 = true then ((laws_zzFits9.f k l1).bind fun t167 => (laws_FnKindForAny.j0 k l0 l1 (!t167))) else (laws_FnKindForAny.j0 k l0 l1 true))) = some r := h
  clear h
  have HC3 := Aside0.mk H
  clear H
  go_enter Try.func8, Try.ntmps8
  go_upto_region 1 with (fail)
  repeat (go_quiet (fail); go_upto_region 1 with (fail))
  go_cut [19] (fun v19 wc => ∃ (kq : Nat) (x19_2 : Bool), v19 = .bool x19_2 ∧ Aside0 (laws_FnKindForAny.j0 kq l0 l1 x19_2 = some r) ∧ Aside0 (kq ≤ k) ∧ Aside0 (Below w.heap.size w wc))
  case first =>
    have H := HC3.out
    clear HC3
    replace H := Option.bind_eq_some_iff.mp H
    obtain ⟨t166, A40, H⟩ := H
    replace H : (if t166 = true then ((laws_zzFits9.f k l1).bind fun t167 => (laws_FnKindForAny.j0 k l0 l1 (!t167))) else (laws_FnKindForAny.j0 k l0 l1 true)) = some r := H
    have A4 := Aside0.mk A40
    clear A40
    by_cases c5 : t166 = true
    · subst c5
      have H1 : ((laws_zzFits9.f k l1).bind fun t167 => (laws_FnKindForAny.j0 k l0 l1 (!t167))) = some r := by rw [if_pos rfl] at H; exact H
      clear H
      have H := H1
      clear H1
      replace H := Option.bind_eq_some_iff.mp H
      obtain ⟨t167, A60, H⟩ := H
      replace H : (laws_FnKindForAny.j0 k l0 l1 (!t167)) = some r := H
      have A6 := Aside0.mk A60
      clear A60
      have H' := Aside0.mk H
      clear H
      go_wp2_with (first | (go_at_call 22; (with_reducible refine (laws_zzFits9.calls k _ _ l0 true _ ?side1 ?side2 A4.out).mono ?_); (case side1 => repeat (first | exact (Kd.C_below HR0.out HB.out) | (with_reducible refine Kd.C_alloc ?_ _) | (with_reducible refine Kd.C_drewN ?_ _) | (with_reducible refine Kd.C_drew ?_))); (case side2 => exact HC0.out); rintro e w7 ⟨rfl, hb⟩; have n0_ := Aside0.mk (below_step (by repeat (first | (with_reducible first | exact HB.out | apply below_alloc | apply pw_below_drewN | apply below_drew1) | exact HB.out)) hb); clear HB; have HB := n0_; clear n0_; (try clear hb); (try clear hb2); (try clear hk); (try clear hi)) | (go_at_call 22; (with_reducible refine (laws_zzFits9.calls k _ _ l1 t167 _ ?side1 ?side2 A6.out).mono ?_); (case side1 => repeat (first | exact (Kd.C_below HR1.out HB.out) | (with_reducible refine Kd.C_alloc ?_ _) | (with_reducible refine Kd.C_drewN ?_ _) | (with_reducible refine Kd.C_drew ?_))); (case side2 => exact HC1.out); rintro e w8 ⟨rfl, hb⟩; have n0_ := Aside0.mk (below_step (by repeat (first | (with_reducible first | exact HB.out | apply below_alloc | apply pw_below_drewN | apply below_drew1) | exact HB.out)) hb); clear HB; have HB := n0_; clear n0_; (try clear hb); (try clear hb2); (try clear hk); (try clear hi)))
      repeat (go_quiet (first | (go_at_call 22; (with_reducible refine (laws_zzFits9.calls k _ _ l0 true _ ?side1 ?side2 A4.out).mono ?_); (case side1 => repeat (first | exact (Kd.C_below HR0.out HB.out) | (with_reducible refine Kd.C_alloc ?_ _) | (with_reducible refine Kd.C_drewN ?_ _) | (with_reducible refine Kd.C_drew ?_))); (case side2 => exact HC0.out); rintro e w7 ⟨rfl, hb⟩; have n0_ := Aside0.mk (below_step (by repeat (first | (with_reducible first | exact HB.out | apply below_alloc | apply pw_below_drewN | apply below_drew1) | exact HB.out)) hb); clear HB; have HB := n0_; clear n0_; (try clear hb); (try clear hb2); (try clear hk); (try clear hi)) | (go_at_call 22; (with_reducible refine (laws_zzFits9.calls k _ _ l1 t167 _ ?side1 ?side2 A6.out).mono ?_); (case side1 => repeat (first | exact (Kd.C_below HR1.out HB.out) | (with_reducible refine Kd.C_alloc ?_ _) | (with_reducible refine Kd.C_drewN ?_ _) | (with_reducible refine Kd.C_drew ?_))); (case side2 => exact HC1.out); rintro e w8 ⟨rfl, hb⟩; have n0_ := Aside0.mk (below_step (by repeat (first | (with_reducible first | exact HB.out | apply below_alloc | apply pw_below_drewN | apply below_drew1) | exact HB.out)) hb); clear HB; have HB := n0_; clear n0_; (try clear hb); (try clear hb2); (try clear hk); (try clear hi))); try go_wp2_with (first | (go_at_call 22; (with_reducible refine (laws_zzFits9.calls k _ _ l0 true _ ?side1 ?side2 A4.out).mono ?_); (case side1 => repeat (first | exact (Kd.C_below HR0.out HB.out) | (with_reducible refine Kd.C_alloc ?_ _) | (with_reducible refine Kd.C_drewN ?_ _) | (with_reducible refine Kd.C_drew ?_))); (case side2 => exact HC0.out); rintro e w7 ⟨rfl, hb⟩; have n0_ := Aside0.mk (below_step (by repeat (first | (with_reducible first | exact HB.out | apply below_alloc | apply pw_below_drewN | apply below_drew1) | exact HB.out)) hb); clear HB; have HB := n0_; clear n0_; (try clear hb); (try clear hb2); (try clear hk); (try clear hi)) | (go_at_call 22; (with_reducible refine (laws_zzFits9.calls k _ _ l1 t167 _ ?side1 ?side2 A6.out).mono ?_); (case side1 => repeat (first | exact (Kd.C_below HR1.out HB.out) | (with_reducible refine Kd.C_alloc ?_ _) | (with_reducible refine Kd.C_drewN ?_ _) | (with_reducible refine Kd.C_drew ?_))); (case side2 => exact HC1.out); rintro e w8 ⟨rfl, hb⟩; have n0_ := Aside0.mk (below_step (by repeat (first | (with_reducible first | exact HB.out | apply below_alloc | apply pw_below_drewN | apply below_drew1) | exact HB.out)) hb); clear HB; have HB := n0_; clear n0_; (try clear hb); (try clear hb2); (try clear hk); (try clear hi))))
      go_meet
      case rel => exact ⟨_, (!t167), (by first | rfl | (simp; done) | (simp [*]; done)), H', ⟨by first | omega | exact Nat.le_refl _⟩, ⟨by repeat (first | (with_reducible first | exact HB.out | apply below_alloc | apply pw_below_drewN | apply below_drew1) | exact HB.out)⟩⟩
    · replace c5 := Bool.eq_false_iff.mpr c5
      subst c5
      have H1 : (laws_FnKindForAny.j0 k l0 l1 true) = some r := by rw [if_neg (show ¬ (false = true) by decide)] at H; exact H
      clear H
      have H := H1
      clear H1
      have H' := Aside0.mk H
      clear H
      go_wp2_with (first | (go_at_call 22; (with_reducible refine (laws_zzFits9.calls k _ _ l0 false _ ?side1 ?side2 A4.out).mono ?_); (case side1 => repeat (first | exact (Kd.C_below HR0.out HB.out) | (with_reducible refine Kd.C_alloc ?_ _) | (with_reducible refine Kd.C_drewN ?_ _) | (with_reducible refine Kd.C_drew ?_))); (case side2 => exact HC0.out); rintro e w9 ⟨rfl, hb⟩; have n0_ := Aside0.mk (below_step (by repeat (first | (with_reducible first | exact HB.out | apply below_alloc | apply pw_below_drewN | apply below_drew1) | exact HB.out)) hb); clear HB; have HB := n0_; clear n0_; (try clear hb); (try clear hb2); (try clear hk); (try clear hi)))
      repeat (go_quiet (first | (go_at_call 22; (with_reducible refine (laws_zzFits9.calls k _ _ l0 false _ ?side1 ?side2 A4.out).mono ?_); (case side1 => repeat (first | exact (Kd.C_below HR0.out HB.out) | (with_reducible refine Kd.C_alloc ?_ _) | (with_reducible refine Kd.C_drewN ?_ _) | (with_reducible refine Kd.C_drew ?_))); (case side2 => exact HC0.out); rintro e w9 ⟨rfl, hb⟩; have n0_ := Aside0.mk (below_step (by repeat (first | (with_reducible first | exact HB.out | apply below_alloc | apply pw_below_drewN | apply below_drew1) | exact HB.out)) hb); clear HB; have HB := n0_; clear n0_; (try clear hb); (try clear hb2); (try clear hk); (try clear hi))); try go_wp2_with (first | (go_at_call 22; (with_reducible refine (laws_zzFits9.calls k _ _ l0 false _ ?side1 ?side2 A4.out).mono ?_); (case side1 => repeat (first | exact (Kd.C_below HR0.out HB.out) | (with_reducible refine Kd.C_alloc ?_ _) | (with_reducible refine Kd.C_drewN ?_ _) | (with_reducible refine Kd.C_drew ?_))); (case side2 => exact HC0.out); rintro e w9 ⟨rfl, hb⟩; have n0_ := Aside0.mk (below_step (by repeat (first | (with_reducible first | exact HB.out | apply below_alloc | apply pw_below_drewN | apply below_drew1) | exact HB.out)) hb); clear HB; have HB := n0_; clear n0_; (try clear hb); (try clear hb2); (try clear hk); (try clear hi))))
      go_meet
      case rel => exact ⟨_, (true), (by first | rfl | (simp; done) | (simp [*]; done)), H', ⟨by first | omega | exact Nat.le_refl _⟩, ⟨by repeat (first | (with_reducible first | exact HB.out | apply below_alloc | apply pw_below_drewN | apply below_drew1) | exact HB.out)⟩⟩
  case rest =>
    clear HC3
    try clear c1
    try clear p2
    try clear c5
    try clear c8
    obtain ⟨kq, x19_2, rfl, HA, HJ2, HB⟩ := hcut
    cases kq with
    | zero => exact absurd HA.out (by simp [laws_FnKindForAny.j0])
    | succ kj2 =>
      have H := HA.out
      clear HA
      simp only [laws_FnKindForAny.j0] at H
      by_cases c10 : x19_2 = true
      · subst c10
        have H1 : (some true) = some r := by rw [if_pos rfl] at H; exact H
        clear H
        have H := H1
        clear H1
        obtain rfl := Option.some.inj H
        go_wp2
        repeat (go_quiet (fail); try go_wp2)
        go_ret
        exact ⟨by first | rfl | (simp [errW_none, errW_some] <;> rfl) | (simp [*, errW_none, errW_some] <;> rfl), by repeat (first | (with_reducible first | exact HB.out | apply below_alloc | apply pw_below_drewN | apply below_drew1) | exact HB.out)⟩
      · replace c10 := Bool.eq_false_iff.mpr c10
        subst c10
        have H1 : ((impl_KindForAny.f kj2 l0 l1).bind fun bt168 => (laws_FnKindForAny.l0 kj2 l0 l1 bt168.2.2.2 false false 0 bt168.1 bt168.2.1 bt168.2.2.1)) = some r := by rw [if_neg (show ¬ (false = true) by decide)] at H; exact H
        clear H
        have H := H1
        clear H1
        replace H := Option.bind_eq_some_iff.mp H
        obtain ⟨⟨t168, t169, t170, t171⟩, A110, H⟩ := H
        replace H : (laws_FnKindForAny.l0 kj2 l0 l1 t171 false false 0 t168 t169 t170) = some r := H
        have A11 := Aside0.mk A110
        clear A110
        have H' := Aside0.mk H
        clear H
        go_wp2_with (first | (go_at_call 23; (with_reducible refine (impl_KindForAny.calls kj2 _ _ l0 _ _ l1 t168 t169 t170 t171 _ ?side1 ?side2 ?side3 ?side4 A11.out).mono ?_); (case side1 => repeat (first | exact (Kd.C_below HR0.out HB.out) | (with_reducible refine Kd.C_alloc ?_ _) | (with_reducible refine Kd.C_drewN ?_ _) | (with_reducible refine Kd.C_drew ?_))); (case side2 => exact HC0.out); (case side3 => repeat (first | exact (Kd.C_below HR1.out HB.out) | (with_reducible refine Kd.C_alloc ?_ _) | (with_reducible refine Kd.C_drewN ?_ _) | (with_reducible refine Kd.C_drew ?_))); (case side4 => exact HC1.out); rintro e w12 ⟨rfl, hb⟩; have n0_ := Aside0.mk (below_step (by repeat (first | (with_reducible first | exact HB.out | apply below_alloc | apply pw_below_drewN | apply below_drew1) | exact HB.out)) hb); clear HB; have HB := n0_; clear n0_; (try clear hb); (try clear hb2); (try clear hk); (try clear hi)) | ((with_reducible refine gate_dst (N := 5) rfl ?_); refine box_event ?hg (N := 5) ?hd (cs := #[.string (⟨#[]⟩ : ByteArray), .string (⟨#[]⟩ : ByteArray), .string (⟨#[]⟩ : ByteArray)]) (t := 26) ?hr ?_; (case hd => rfl); (case hg => rfl); (case hr => first | (go_simp; done) | (go_simp; rfl)); intro gb172 hg w13 hbox hb; have n0_ := Aside0.mk (below_step (by repeat (first | (with_reducible first | exact HB.out | apply below_alloc | apply pw_below_drewN | apply below_drew1) | exact HB.out)) hb); have n1_ := Aside0.mk (hbox); have n2_ := Aside0.mk ((by rw [hg]; exact (below_size (by repeat (first | (with_reducible first | exact HB.out | apply below_alloc | apply pw_below_drewN | apply below_drew1) | exact HB.out))) : w.heap.size ≤ gb172)); have n3_ := Aside0.mk ((by rw [hg]; exact (below_size (by repeat (first | (with_reducible first | exact HB.out | apply below_alloc | apply pw_below_drewN | apply below_drew1) | exact HB.out))) : w.heap.size ≤ gb172)); clear HB; have HB := n0_; have BK172 := n1_; have GW172 := n2_; have GE172 := n3_; clear n0_ n1_ n2_ n3_; clear hb hbox hg; have hcz14_0 : w13.cell? ⟨gb172, 0, none⟩ = some (.string (⟨#[]⟩ : ByteArray)) := (blk_cell BK172.out 0).trans rfl; have hcz14_1 : w13.cell? ⟨gb172, 1, none⟩ = some (.string (⟨#[]⟩ : ByteArray)) := (blk_cell BK172.out 1).trans rfl; have hcz14_2 : w13.cell? ⟨gb172, 2, none⟩ = some (.string (⟨#[]⟩ : ByteArray)) := (blk_cell BK172.out 2).trans rfl; have hfz14_0 := blk_frozen BK172.out 0; have hfz14_1 := blk_frozen BK172.out 1; have hfz14_2 := blk_frozen BK172.out 2))
        repeat (go_quiet (first | (go_at_call 23; (with_reducible refine (impl_KindForAny.calls kj2 _ _ l0 _ _ l1 t168 t169 t170 t171 _ ?side1 ?side2 ?side3 ?side4 A11.out).mono ?_); (case side1 => repeat (first | exact (Kd.C_below HR0.out HB.out) | (with_reducible refine Kd.C_alloc ?_ _) | (with_reducible refine Kd.C_drewN ?_ _) | (with_reducible refine Kd.C_drew ?_))); (case side2 => exact HC0.out); (case side3 => repeat (first | exact (Kd.C_below HR1.out HB.out) | (with_reducible refine Kd.C_alloc ?_ _) | (with_reducible refine Kd.C_drewN ?_ _) | (with_reducible refine Kd.C_drew ?_))); (case side4 => exact HC1.out); rintro e w12 ⟨rfl, hb⟩; have n0_ := Aside0.mk (below_step (by repeat (first | (with_reducible first | exact HB.out | apply below_alloc | apply pw_below_drewN | apply below_drew1) | exact HB.out)) hb); clear HB; have HB := n0_; clear n0_; (try clear hb); (try clear hb2); (try clear hk); (try clear hi)) | ((with_reducible refine gate_dst (N := 5) rfl ?_); refine box_event ?hg (N := 5) ?hd (cs := #[.string (⟨#[]⟩ : ByteArray), .string (⟨#[]⟩ : ByteArray), .string (⟨#[]⟩ : ByteArray)]) (t := 26) ?hr ?_; (case hd => rfl); (case hg => rfl); (case hr => first | (go_simp; done) | (go_simp; rfl)); intro gb172 hg w13 hbox hb; have n0_ := Aside0.mk (below_step (by repeat (first | (with_reducible first | exact HB.out | apply below_alloc | apply pw_below_drewN | apply below_drew1) | exact HB.out)) hb); have n1_ := Aside0.mk (hbox); have n2_ := Aside0.mk ((by rw [hg]; exact (below_size (by repeat (first | (with_reducible first | exact HB.out | apply below_alloc | apply pw_below_drewN | apply below_drew1) | exact HB.out))) : w.heap.size ≤ gb172)); have n3_ := Aside0.mk ((by rw [hg]; exact (below_size (by repeat (first | (with_reducible first | exact HB.out | apply below_alloc | apply pw_below_drewN | apply below_drew1) | exact HB.out))) : w.heap.size ≤ gb172)); clear HB; have HB := n0_; have BK172 := n1_; have GW172 := n2_; have GE172 := n3_; clear n0_ n1_ n2_ n3_; clear hb hbox hg; have hcz14_0 : w13.cell? ⟨gb172, 0, none⟩ = some (.string (⟨#[]⟩ : ByteArray)) := (blk_cell BK172.out 0).trans rfl; have hcz14_1 : w13.cell? ⟨gb172, 1, none⟩ = some (.string (⟨#[]⟩ : ByteArray)) := (blk_cell BK172.out 1).trans rfl; have hcz14_2 : w13.cell? ⟨gb172, 2, none⟩ = some (.string (⟨#[]⟩ : ByteArray)) := (blk_cell BK172.out 2).trans rfl; have hfz14_0 := blk_frozen BK172.out 0; have hfz14_1 := blk_frozen BK172.out 1; have hfz14_2 := blk_frozen BK172.out 2)); try go_wp2_with (first | (go_at_call 23; (with_reducible refine (impl_KindForAny.calls kj2 _ _ l0 _ _ l1 t168 t169 t170 t171 _ ?side1 ?side2 ?side3 ?side4 A11.out).mono ?_); (case side1 => repeat (first | exact (Kd.C_below HR0.out HB.out) | (with_reducible refine Kd.C_alloc ?_ _) | (with_reducible refine Kd.C_drewN ?_ _) | (with_reducible refine Kd.C_drew ?_))); (case side2 => exact HC0.out); (case side3 => repeat (first | exact (Kd.C_below HR1.out HB.out) | (with_reducible refine Kd.C_alloc ?_ _) | (with_reducible refine Kd.C_drewN ?_ _) | (with_reducible refine Kd.C_drew ?_))); (case side4 => exact HC1.out); rintro e w12 ⟨rfl, hb⟩; have n0_ := Aside0.mk (below_step (by repeat (first | (with_reducible first | exact HB.out | apply below_alloc | apply pw_below_drewN | apply below_drew1) | exact HB.out)) hb); clear HB; have HB := n0_; clear n0_; (try clear hb); (try clear hb2); (try clear hk); (try clear hi)) | ((with_reducible refine gate_dst (N := 5) rfl ?_); refine box_event ?hg (N := 5) ?hd (cs := #[.string (⟨#[]⟩ : ByteArray), .string (⟨#[]⟩ : ByteArray), .string (⟨#[]⟩ : ByteArray)]) (t := 26) ?hr ?_; (case hd => rfl); (case hg => rfl); (case hr => first | (go_simp; done) | (go_simp; rfl)); intro gb172 hg w13 hbox hb; have n0_ := Aside0.mk (below_step (by repeat (first | (with_reducible first | exact HB.out | apply below_alloc | apply pw_below_drewN | apply below_drew1) | exact HB.out)) hb); have n1_ := Aside0.mk (hbox); have n2_ := Aside0.mk ((by rw [hg]; exact (below_size (by repeat (first | (with_reducible first | exact HB.out | apply below_alloc | apply pw_below_drewN | apply below_drew1) | exact HB.out))) : w.heap.size ≤ gb172)); have n3_ := Aside0.mk ((by rw [hg]; exact (below_size (by repeat (first | (with_reducible first | exact HB.out | apply below_alloc | apply pw_below_drewN | apply below_drew1) | exact HB.out))) : w.heap.size ≤ gb172)); clear HB; have HB := n0_; have BK172 := n1_; have GW172 := n2_; have GE172 := n3_; clear n0_ n1_ n2_ n3_; clear hb hbox hg; have hcz14_0 : w13.cell? ⟨gb172, 0, none⟩ = some (.string (⟨#[]⟩ : ByteArray)) := (blk_cell BK172.out 0).trans rfl; have hcz14_1 : w13.cell? ⟨gb172, 1, none⟩ = some (.string (⟨#[]⟩ : ByteArray)) := (blk_cell BK172.out 1).trans rfl; have hcz14_2 : w13.cell? ⟨gb172, 2, none⟩ = some (.string (⟨#[]⟩ : ByteArray)) := (blk_cell BK172.out 2).trans rfl; have hfz14_0 := blk_frozen BK172.out 0; have hfz14_1 := blk_frozen BK172.out 1; have hfz14_2 := blk_frozen BK172.out 2)))
        go_loopg [7, 8, 9] kj2 (fun kq v7 v8 v9 w' => ∃ (x7_2 : Bool) (x8_2 : Bool) (x9_2 : Int), v7 = .bool x7_2 ∧ v8 = .bool x8_2 ∧ v9 = .int .i64 x9_2 ∧ Aside0 (laws_FnKindForAny.l0 kq l0 l1 t171 x7_2 x8_2 x9_2 t168 t169 t170 = some r) ∧ Aside0 (kq ≤ kj2) ∧ Aside0 (w'.heap[gb172]? = some (.cells #[.string t168, .string t169, .string t170] 26 (0, 0))) ∧ Aside0 (Below w.heap.size w w'))
        case atStart => exact ⟨(false), (false), (0), (by first | rfl | (simp; done) | (simp [*]; done)), (by first | rfl | (simp; done) | (simp [*]; done)), (by first | rfl | (simp; done) | (simp [*]; done)), H', ⟨Nat.le_refl _⟩, ⟨by (with_reducible repeat (first | refine blk_drewN ?_ _ | refine blk_drew ?_ | refine blk_alloc ?_ _)); refine blk_put (cs := #[.string t168, .string t169, .string (⟨#[]⟩ : ByteArray)]) ?_ 2 _ rfl; (with_reducible repeat (first | refine blk_drewN ?_ _ | refine blk_drew ?_ | refine blk_alloc ?_ _)); refine blk_put (cs := #[.string t168, .string (⟨#[]⟩ : ByteArray), .string (⟨#[]⟩ : ByteArray)]) ?_ 1 _ rfl; (with_reducible repeat (first | refine blk_drewN ?_ _ | refine blk_drew ?_ | refine blk_alloc ?_ _)); refine blk_put (cs := #[.string (⟨#[]⟩ : ByteArray), .string (⟨#[]⟩ : ByteArray), .string (⟨#[]⟩ : ByteArray)]) ?_ 0 _ rfl; (with_reducible repeat (first | refine blk_drewN ?_ _ | refine blk_drew ?_ | refine blk_alloc ?_ _)); exact BK172.out⟩, ⟨by repeat (first | (with_reducible first | exact HB.out | apply below_alloc | apply pw_below_drewN | apply below_drew1 | refine below_set ?_ GE172.out) | exact HB.out)⟩⟩
        case round =>
          clear H'
          try clear c1
          try clear p2
          try clear c5
          try clear c8
          try clear c10
          try clear hcz14_0
          try clear hcz14_1
          try clear hcz14_2
          try clear hfz14_0
          try clear hfz14_1
          try clear hfz14_2
          try clear p2
          obtain ⟨x7_2, x8_2, x9_2, rfl, rfl, rfl, HA, HK2, BK172, HB⟩ := hrel
          cases gk with
          | zero => exact absurd HA.out (by simp [laws_FnKindForAny.l0])
          | succ k2 =>
            have H := HA.out
            clear HA
            simp only [laws_FnKindForAny.l0] at H
            by_cases c15 : x9_2 < (l0.length : Int)
            · rw [if_pos c15] at H
              have c15b0 : decide (x9_2 < (l0.length : Int)) = true := decide_eq_true c15
              clear c15
              by_cases c16 : 0 ≤ x9_2
              · rw [if_pos c16] at H
                have c16b0 : decide (0 ≤ x9_2) = true := decide_eq_true c16
                clear c16
                replace H := Option.bind_eq_some_iff.mp H
                obtain ⟨⟨t175, t176⟩, A170, H⟩ := H
                replace H : (if x7_2 = true then (if x8_2 = true then (laws_FnKindForAny.l0 k2 l0 l1 t171 true true (wrap64 (x9_2 + 1)) t168 t169 t170) else (if t175 = true then (laws_FnKindForAny.l0 k2 l0 l1 t171 true (t168.toList == ((rd_T26 l0 x9_2).f0).toList) (wrap64 (x9_2 + 1)) t168 t169 t170) else (laws_FnKindForAny.l0 k2 l0 l1 t171 true false (wrap64 (x9_2 + 1)) t168 t169 t170))) else (if x8_2 = true then (laws_FnKindForAny.l0 k2 l0 l1 t171 t175 true (wrap64 (x9_2 + 1)) t168 t169 t170) else (if t175 = true then (laws_FnKindForAny.l0 k2 l0 l1 t171 t175 (t168.toList == ((rd_T26 l0 x9_2).f0).toList) (wrap64 (x9_2 + 1)) t168 t169 t170) else (laws_FnKindForAny.l0 k2 l0 l1 t171 t175 false (wrap64 (x9_2 + 1)) t168 t169 t170)))) = some r := H
                have A17 := Aside0.mk A170
                clear A170
                by_cases c18 : x7_2 = true
                · subst c18
                  have H1 : (if x8_2 = true then (laws_FnKindForAny.l0 k2 l0 l1 t171 true true (wrap64 (x9_2 + 1)) t168 t169 t170) else (if t175 = true then (laws_FnKindForAny.l0 k2 l0 l1 t171 true (t168.toList == ((rd_T26 l0 x9_2).f0).toList) (wrap64 (x9_2 + 1)) t168 t169 t170) else (laws_FnKindForAny.l0 k2 l0 l1 t171 true false (wrap64 (x9_2 + 1)) t168 t169 t170))) = some r := by rw [if_pos rfl] at H; exact H
                  clear H
                  have H := H1
                  clear H1
                  by_cases c19 : x8_2 = true
                  · subst c19
                    have H1 : (laws_FnKindForAny.l0 k2 l0 l1 t171 true true (wrap64 (x9_2 + 1)) t168 t169 t170) = some r := by rw [if_pos rfl] at H; exact H
                    clear H
                    have H := H1
                    clear H1
                    have H' := Aside0.mk H
                    clear H
                    have p173 : 0 ≤ (x9_2 : Int) := of_decide_eq_true (by first | (with_reducible assumption) | assumption)
                    have q173 : x9_2 < (l0.length : Int) := of_decide_eq_true (by first | (with_reducible assumption) | assumption)
                    obtain ⟨ad173, e173, hx173_0, hx173_1, hx173_2⟩ := at_T26 HR0.out x9_2 p173 q173
                    cases e173
                    replace hx173_0 := (HB.out.cell (World.block_lt_of_cell? w _ hx173_0)).trans hx173_0
                    replace hx173_1 := (HB.out.cell (World.block_lt_of_cell? w _ hx173_1)).trans hx173_1
                    replace hx173_2 := (HB.out.cell (World.block_lt_of_cell? w _ hx173_2)).trans hx173_2
                    replace p173 := eq_true p173
                    replace q173 := eq_true q173
                    have p174 : 0 ≤ (x9_2 : Int) := of_decide_eq_true (by first | (with_reducible assumption) | assumption)
                    have q174 : x9_2 < (l0.length : Int) := of_decide_eq_true (by first | (with_reducible assumption) | assumption)
                    obtain ⟨ad174, e174, hx174_0, hx174_1, hx174_2⟩ := at_T26 HR0.out x9_2 p174 q174
                    obtain rfl : ad173 = ad174 := (by injection e174)
                    replace hx174_0 := (HB.out.cell (World.block_lt_of_cell? w _ hx174_0)).trans hx174_0
                    replace hx174_1 := (HB.out.cell (World.block_lt_of_cell? w _ hx174_1)).trans hx174_1
                    replace hx174_2 := (HB.out.cell (World.block_lt_of_cell? w _ hx174_2)).trans hx174_2
                    replace p174 := eq_true p174
                    replace q174 := eq_true q174
                    go_wp2_with (first | (go_at_call 24; (with_reducible refine (spec_KindHas.calls k2 ((rd_T26 l0 x9_2).f0) ((rd_T26 l0 x9_2).f1) _ _ l1 t175 t176 _ ?side1 ?side2 A17.out).mono ?_); (case side1 => repeat (first | exact (Kd.C_below HR1.out HB.out) | (with_reducible refine Kd.C_alloc ?_ _) | (with_reducible refine Kd.C_drewN ?_ _) | (with_reducible refine Kd.C_drew ?_))); (case side2 => exact HC1.out); rintro e w' ⟨rfl, ⟨nd, rfl⟩⟩; (try first | exact ⟨rfl, _, World.drewN_drewN _ _ _⟩ | exact ⟨rfl, _, Eq.trans (World.drewN_drewN _ _ _) (congrArg (World.drewN _) (Nat.add_assoc _ _ _))⟩)))
                    repeat (go_quiet (first | (go_at_call 24; (with_reducible refine (spec_KindHas.calls k2 ((rd_T26 l0 x9_2).f0) ((rd_T26 l0 x9_2).f1) _ _ l1 t175 t176 _ ?side1 ?side2 A17.out).mono ?_); (case side1 => repeat (first | exact (Kd.C_below HR1.out HB.out) | (with_reducible refine Kd.C_alloc ?_ _) | (with_reducible refine Kd.C_drewN ?_ _) | (with_reducible refine Kd.C_drew ?_))); (case side2 => exact HC1.out); rintro e w' ⟨rfl, ⟨nd, rfl⟩⟩; (try first | exact ⟨rfl, _, World.drewN_drewN _ _ _⟩ | exact ⟨rfl, _, Eq.trans (World.drewN_drewN _ _ _) (congrArg (World.drewN _) (Nat.add_assoc _ _ _))⟩))); try go_wp2_with (first | (go_at_call 24; (with_reducible refine (spec_KindHas.calls k2 ((rd_T26 l0 x9_2).f0) ((rd_T26 l0 x9_2).f1) _ _ l1 t175 t176 _ ?side1 ?side2 A17.out).mono ?_); (case side1 => repeat (first | exact (Kd.C_below HR1.out HB.out) | (with_reducible refine Kd.C_alloc ?_ _) | (with_reducible refine Kd.C_drewN ?_ _) | (with_reducible refine Kd.C_drew ?_))); (case side2 => exact HC1.out); rintro e w' ⟨rfl, ⟨nd, rfl⟩⟩; (try first | exact ⟨rfl, _, World.drewN_drewN _ _ _⟩ | exact ⟨rfl, _, Eq.trans (World.drewN_drewN _ _ _) (congrArg (World.drewN _) (Nat.add_assoc _ _ _))⟩))))
                    go_roundg k2
                    case measure => have := HJ2.out; have := HK2.out; omega
                    case rel => exact ⟨(true), (true), (wrap64 (x9_2 + 1)), (by first | rfl | (simp; done) | (simp [*]; done)), (by first | rfl | (simp; done) | (simp [*]; done)), (by first | rfl | (simp; done) | (simp [*]; done)), H', ⟨by have := HJ2.out; have := HK2.out; omega⟩, ⟨by (with_reducible repeat (first | refine blk_drewN ?_ _ | refine blk_drew ?_ | refine blk_alloc ?_ _)); exact BK172.out⟩, ⟨by repeat (first | (with_reducible first | exact HB.out | apply below_alloc | apply pw_below_drewN | apply below_drew1 | refine below_set ?_ GE172.out) | exact HB.out)⟩⟩
                  · replace c19 := Bool.eq_false_iff.mpr c19
                    subst c19
                    have H1 : (if t175 = true then (laws_FnKindForAny.l0 k2 l0 l1 t171 true (t168.toList == ((rd_T26 l0 x9_2).f0).toList) (wrap64 (x9_2 + 1)) t168 t169 t170) else (laws_FnKindForAny.l0 k2 l0 l1 t171 true false (wrap64 (x9_2 + 1)) t168 t169 t170)) = some r := by rw [if_neg (show ¬ (false = true) by decide)] at H; exact H
                    clear H
                    have H := H1
                    clear H1
                    by_cases c20 : t175 = true
                    · subst c20
                      have H1 : (laws_FnKindForAny.l0 k2 l0 l1 t171 true (t168.toList == ((rd_T26 l0 x9_2).f0).toList) (wrap64 (x9_2 + 1)) t168 t169 t170) = some r := by rw [if_pos rfl] at H; exact H
                      clear H
                      have H := H1
                      clear H1
                      have H' := Aside0.mk H
                      clear H
                      have p173 : 0 ≤ (x9_2 : Int) := of_decide_eq_true (by first | (with_reducible assumption) | assumption)
                      have q173 : x9_2 < (l0.length : Int) := of_decide_eq_true (by first | (with_reducible assumption) | assumption)
                      obtain ⟨ad173, e173, hx173_0, hx173_1, hx173_2⟩ := at_T26 HR0.out x9_2 p173 q173
                      cases e173
                      replace hx173_0 := (HB.out.cell (World.block_lt_of_cell? w _ hx173_0)).trans hx173_0
                      replace hx173_1 := (HB.out.cell (World.block_lt_of_cell? w _ hx173_1)).trans hx173_1
                      replace hx173_2 := (HB.out.cell (World.block_lt_of_cell? w _ hx173_2)).trans hx173_2
                      replace p173 := eq_true p173
                      replace q173 := eq_true q173
                      have p174 : 0 ≤ (x9_2 : Int) := of_decide_eq_true (by first | (with_reducible assumption) | assumption)
                      have q174 : x9_2 < (l0.length : Int) := of_decide_eq_true (by first | (with_reducible assumption) | assumption)
                      obtain ⟨ad174, e174, hx174_0, hx174_1, hx174_2⟩ := at_T26 HR0.out x9_2 p174 q174
                      obtain rfl : ad173 = ad174 := (by injection e174)
                      replace hx174_0 := (HB.out.cell (World.block_lt_of_cell? w _ hx174_0)).trans hx174_0
                      replace hx174_1 := (HB.out.cell (World.block_lt_of_cell? w _ hx174_1)).trans hx174_1
                      replace hx174_2 := (HB.out.cell (World.block_lt_of_cell? w _ hx174_2)).trans hx174_2
                      replace p174 := eq_true p174
                      replace q174 := eq_true q174
                      go_wp2_with (first | (go_at_call 24; (with_reducible refine (spec_KindHas.calls k2 ((rd_T26 l0 x9_2).f0) ((rd_T26 l0 x9_2).f1) _ _ l1 true t176 _ ?side1 ?side2 A17.out).mono ?_); (case side1 => repeat (first | exact (Kd.C_below HR1.out HB.out) | (with_reducible refine Kd.C_alloc ?_ _) | (with_reducible refine Kd.C_drewN ?_ _) | (with_reducible refine Kd.C_drew ?_))); (case side2 => exact HC1.out); rintro e w' ⟨rfl, ⟨nd, rfl⟩⟩; (try first | exact ⟨rfl, _, World.drewN_drewN _ _ _⟩ | exact ⟨rfl, _, Eq.trans (World.drewN_drewN _ _ _) (congrArg (World.drewN _) (Nat.add_assoc _ _ _))⟩); have hcz21_0 : wr.cell? ⟨gb172, 0, none⟩ = some (.string t168) := (blk_cell BK172.out 0).trans rfl; have hcz21_1 : wr.cell? ⟨gb172, 1, none⟩ = some (.string t169) := (blk_cell BK172.out 1).trans rfl; have hcz21_2 : wr.cell? ⟨gb172, 2, none⟩ = some (.string t170) := (blk_cell BK172.out 2).trans rfl; have hfz21_0 := blk_frozen BK172.out 0; have hfz21_1 := blk_frozen BK172.out 1; have hfz21_2 := blk_frozen BK172.out 2; have p177 : 0 ≤ (x9_2 : Int) := of_decide_eq_true (by first | (with_reducible assumption) | assumption); have q177 : x9_2 < (l0.length : Int) := of_decide_eq_true (by first | (with_reducible assumption) | assumption); obtain ⟨ad177, e177, hx177_0, hx177_1, hx177_2⟩ := at_T26 HR0.out x9_2 p177 q177; obtain rfl : ad173 = ad177 := (by injection e177); replace hx177_0 := (HB.out.cell (World.block_lt_of_cell? w _ hx177_0)).trans hx177_0; replace hx177_1 := (HB.out.cell (World.block_lt_of_cell? w _ hx177_1)).trans hx177_1; replace hx177_2 := (HB.out.cell (World.block_lt_of_cell? w _ hx177_2)).trans hx177_2; replace p177 := eq_true p177; replace q177 := eq_true q177))
                      repeat (go_quiet (first | (go_at_call 24; (with_reducible refine (spec_KindHas.calls k2 ((rd_T26 l0 x9_2).f0) ((rd_T26 l0 x9_2).f1) _ _ l1 true t176 _ ?side1 ?side2 A17.out).mono ?_); (case side1 => repeat (first | exact (Kd.C_below HR1.out HB.out) | (with_reducible refine Kd.C_alloc ?_ _) | (with_reducible refine Kd.C_drewN ?_ _) | (with_reducible refine Kd.C_drew ?_))); (case side2 => exact HC1.out); rintro e w' ⟨rfl, ⟨nd, rfl⟩⟩; (try first | exact ⟨rfl, _, World.drewN_drewN _ _ _⟩ | exact ⟨rfl, _, Eq.trans (World.drewN_drewN _ _ _) (congrArg (World.drewN _) (Nat.add_assoc _ _ _))⟩); have hcz21_0 : wr.cell? ⟨gb172, 0, none⟩ = some (.string t168) := (blk_cell BK172.out 0).trans rfl; have hcz21_1 : wr.cell? ⟨gb172, 1, none⟩ = some (.string t169) := (blk_cell BK172.out 1).trans rfl; have hcz21_2 : wr.cell? ⟨gb172, 2, none⟩ = some (.string t170) := (blk_cell BK172.out 2).trans rfl; have hfz21_0 := blk_frozen BK172.out 0; have hfz21_1 := blk_frozen BK172.out 1; have hfz21_2 := blk_frozen BK172.out 2; have p177 : 0 ≤ (x9_2 : Int) := of_decide_eq_true (by first | (with_reducible assumption) | assumption); have q177 : x9_2 < (l0.length : Int) := of_decide_eq_true (by first | (with_reducible assumption) | assumption); obtain ⟨ad177, e177, hx177_0, hx177_1, hx177_2⟩ := at_T26 HR0.out x9_2 p177 q177; obtain rfl : ad173 = ad177 := (by injection e177); replace hx177_0 := (HB.out.cell (World.block_lt_of_cell? w _ hx177_0)).trans hx177_0; replace hx177_1 := (HB.out.cell (World.block_lt_of_cell? w _ hx177_1)).trans hx177_1; replace hx177_2 := (HB.out.cell (World.block_lt_of_cell? w _ hx177_2)).trans hx177_2; replace p177 := eq_true p177; replace q177 := eq_true q177)); try go_wp2_with (first | (go_at_call 24; (with_reducible refine (spec_KindHas.calls k2 ((rd_T26 l0 x9_2).f0) ((rd_T26 l0 x9_2).f1) _ _ l1 true t176 _ ?side1 ?side2 A17.out).mono ?_); (case side1 => repeat (first | exact (Kd.C_below HR1.out HB.out) | (with_reducible refine Kd.C_alloc ?_ _) | (with_reducible refine Kd.C_drewN ?_ _) | (with_reducible refine Kd.C_drew ?_))); (case side2 => exact HC1.out); rintro e w' ⟨rfl, ⟨nd, rfl⟩⟩; (try first | exact ⟨rfl, _, World.drewN_drewN _ _ _⟩ | exact ⟨rfl, _, Eq.trans (World.drewN_drewN _ _ _) (congrArg (World.drewN _) (Nat.add_assoc _ _ _))⟩); have hcz21_0 : wr.cell? ⟨gb172, 0, none⟩ = some (.string t168) := (blk_cell BK172.out 0).trans rfl; have hcz21_1 : wr.cell? ⟨gb172, 1, none⟩ = some (.string t169) := (blk_cell BK172.out 1).trans rfl; have hcz21_2 : wr.cell? ⟨gb172, 2, none⟩ = some (.string t170) := (blk_cell BK172.out 2).trans rfl; have hfz21_0 := blk_frozen BK172.out 0; have hfz21_1 := blk_frozen BK172.out 1; have hfz21_2 := blk_frozen BK172.out 2; have p177 : 0 ≤ (x9_2 : Int) := of_decide_eq_true (by first | (with_reducible assumption) | assumption); have q177 : x9_2 < (l0.length : Int) := of_decide_eq_true (by first | (with_reducible assumption) | assumption); obtain ⟨ad177, e177, hx177_0, hx177_1, hx177_2⟩ := at_T26 HR0.out x9_2 p177 q177; obtain rfl : ad173 = ad177 := (by injection e177); replace hx177_0 := (HB.out.cell (World.block_lt_of_cell? w _ hx177_0)).trans hx177_0; replace hx177_1 := (HB.out.cell (World.block_lt_of_cell? w _ hx177_1)).trans hx177_1; replace hx177_2 := (HB.out.cell (World.block_lt_of_cell? w _ hx177_2)).trans hx177_2; replace p177 := eq_true p177; replace q177 := eq_true q177)))
                      go_roundg k2
                      case measure => have := HJ2.out; have := HK2.out; omega
                      case rel => exact ⟨(true), ((t168.toList == ((rd_T26 l0 x9_2).f0).toList)), (wrap64 (x9_2 + 1)), (by first | rfl | (simp; done) | (simp [*]; done)), (by first | rfl | (simp; done) | (simp [*]; done)), (by first | rfl | (simp; done) | (simp [*]; done)), H', ⟨by have := HJ2.out; have := HK2.out; omega⟩, ⟨by (with_reducible repeat (first | refine blk_drewN ?_ _ | refine blk_drew ?_ | refine blk_alloc ?_ _)); exact BK172.out⟩, ⟨by repeat (first | (with_reducible first | exact HB.out | apply below_alloc | apply pw_below_drewN | apply below_drew1 | refine below_set ?_ GE172.out) | exact HB.out)⟩⟩
                    · replace c20 := Bool.eq_false_iff.mpr c20
                      subst c20
                      have H1 : (laws_FnKindForAny.l0 k2 l0 l1 t171 true false (wrap64 (x9_2 + 1)) t168 t169 t170) = some r := by rw [if_neg (show ¬ (false = true) by decide)] at H; exact H
                      clear H
                      have H := H1
                      clear H1
                      have H' := Aside0.mk H
                      clear H
                      have p173 : 0 ≤ (x9_2 : Int) := of_decide_eq_true (by first | (with_reducible assumption) | assumption)
                      have q173 : x9_2 < (l0.length : Int) := of_decide_eq_true (by first | (with_reducible assumption) | assumption)
                      obtain ⟨ad173, e173, hx173_0, hx173_1, hx173_2⟩ := at_T26 HR0.out x9_2 p173 q173
                      cases e173
                      replace hx173_0 := (HB.out.cell (World.block_lt_of_cell? w _ hx173_0)).trans hx173_0
                      replace hx173_1 := (HB.out.cell (World.block_lt_of_cell? w _ hx173_1)).trans hx173_1
                      replace hx173_2 := (HB.out.cell (World.block_lt_of_cell? w _ hx173_2)).trans hx173_2
                      replace p173 := eq_true p173
                      replace q173 := eq_true q173
                      have p174 : 0 ≤ (x9_2 : Int) := of_decide_eq_true (by first | (with_reducible assumption) | assumption)
                      have q174 : x9_2 < (l0.length : Int) := of_decide_eq_true (by first | (with_reducible assumption) | assumption)
                      obtain ⟨ad174, e174, hx174_0, hx174_1, hx174_2⟩ := at_T26 HR0.out x9_2 p174 q174
                      obtain rfl : ad173 = ad174 := (by injection e174)
                      replace hx174_0 := (HB.out.cell (World.block_lt_of_cell? w _ hx174_0)).trans hx174_0
                      replace hx174_1 := (HB.out.cell (World.block_lt_of_cell? w _ hx174_1)).trans hx174_1
                      replace hx174_2 := (HB.out.cell (World.block_lt_of_cell? w _ hx174_2)).trans hx174_2
                      replace p174 := eq_true p174
                      replace q174 := eq_true q174
                      go_wp2_with (first | (go_at_call 24; (with_reducible refine (spec_KindHas.calls k2 ((rd_T26 l0 x9_2).f0) ((rd_T26 l0 x9_2).f1) _ _ l1 false t176 _ ?side1 ?side2 A17.out).mono ?_); (case side1 => repeat (first | exact (Kd.C_below HR1.out HB.out) | (with_reducible refine Kd.C_alloc ?_ _) | (with_reducible refine Kd.C_drewN ?_ _) | (with_reducible refine Kd.C_drew ?_))); (case side2 => exact HC1.out); rintro e w' ⟨rfl, ⟨nd, rfl⟩⟩; (try first | exact ⟨rfl, _, World.drewN_drewN _ _ _⟩ | exact ⟨rfl, _, Eq.trans (World.drewN_drewN _ _ _) (congrArg (World.drewN _) (Nat.add_assoc _ _ _))⟩)))
                      repeat (go_quiet (first | (go_at_call 24; (with_reducible refine (spec_KindHas.calls k2 ((rd_T26 l0 x9_2).f0) ((rd_T26 l0 x9_2).f1) _ _ l1 false t176 _ ?side1 ?side2 A17.out).mono ?_); (case side1 => repeat (first | exact (Kd.C_below HR1.out HB.out) | (with_reducible refine Kd.C_alloc ?_ _) | (with_reducible refine Kd.C_drewN ?_ _) | (with_reducible refine Kd.C_drew ?_))); (case side2 => exact HC1.out); rintro e w' ⟨rfl, ⟨nd, rfl⟩⟩; (try first | exact ⟨rfl, _, World.drewN_drewN _ _ _⟩ | exact ⟨rfl, _, Eq.trans (World.drewN_drewN _ _ _) (congrArg (World.drewN _) (Nat.add_assoc _ _ _))⟩))); try go_wp2_with (first | (go_at_call 24; (with_reducible refine (spec_KindHas.calls k2 ((rd_T26 l0 x9_2).f0) ((rd_T26 l0 x9_2).f1) _ _ l1 false t176 _ ?side1 ?side2 A17.out).mono ?_); (case side1 => repeat (first | exact (Kd.C_below HR1.out HB.out) | (with_reducible refine Kd.C_alloc ?_ _) | (with_reducible refine Kd.C_drewN ?_ _) | (with_reducible refine Kd.C_drew ?_))); (case side2 => exact HC1.out); rintro e w' ⟨rfl, ⟨nd, rfl⟩⟩; (try first | exact ⟨rfl, _, World.drewN_drewN _ _ _⟩ | exact ⟨rfl, _, Eq.trans (World.drewN_drewN _ _ _) (congrArg (World.drewN _) (Nat.add_assoc _ _ _))⟩))))
                      go_roundg k2
                      case measure => have := HJ2.out; have := HK2.out; omega
                      case rel => exact ⟨(true), (false), (wrap64 (x9_2 + 1)), (by first | rfl | (simp; done) | (simp [*]; done)), (by first | rfl | (simp; done) | (simp [*]; done)), (by first | rfl | (simp; done) | (simp [*]; done)), H', ⟨by have := HJ2.out; have := HK2.out; omega⟩, ⟨by (with_reducible repeat (first | refine blk_drewN ?_ _ | refine blk_drew ?_ | refine blk_alloc ?_ _)); exact BK172.out⟩, ⟨by repeat (first | (with_reducible first | exact HB.out | apply below_alloc | apply pw_below_drewN | apply below_drew1 | refine below_set ?_ GE172.out) | exact HB.out)⟩⟩
                · replace c18 := Bool.eq_false_iff.mpr c18
                  subst c18
                  have H1 : (if x8_2 = true then (laws_FnKindForAny.l0 k2 l0 l1 t171 t175 true (wrap64 (x9_2 + 1)) t168 t169 t170) else (if t175 = true then (laws_FnKindForAny.l0 k2 l0 l1 t171 t175 (t168.toList == ((rd_T26 l0 x9_2).f0).toList) (wrap64 (x9_2 + 1)) t168 t169 t170) else (laws_FnKindForAny.l0 k2 l0 l1 t171 t175 false (wrap64 (x9_2 + 1)) t168 t169 t170))) = some r := by rw [if_neg (show ¬ (false = true) by decide)] at H; exact H
                  clear H
                  have H := H1
                  clear H1
                  by_cases c22 : x8_2 = true
                  · subst c22
                    have H1 : (laws_FnKindForAny.l0 k2 l0 l1 t171 t175 true (wrap64 (x9_2 + 1)) t168 t169 t170) = some r := by rw [if_pos rfl] at H; exact H
                    clear H
                    have H := H1
                    clear H1
                    have H' := Aside0.mk H
                    clear H
                    have p173 : 0 ≤ (x9_2 : Int) := of_decide_eq_true (by first | (with_reducible assumption) | assumption)
                    have q173 : x9_2 < (l0.length : Int) := of_decide_eq_true (by first | (with_reducible assumption) | assumption)
                    obtain ⟨ad173, e173, hx173_0, hx173_1, hx173_2⟩ := at_T26 HR0.out x9_2 p173 q173
                    cases e173
                    replace hx173_0 := (HB.out.cell (World.block_lt_of_cell? w _ hx173_0)).trans hx173_0
                    replace hx173_1 := (HB.out.cell (World.block_lt_of_cell? w _ hx173_1)).trans hx173_1
                    replace hx173_2 := (HB.out.cell (World.block_lt_of_cell? w _ hx173_2)).trans hx173_2
                    replace p173 := eq_true p173
                    replace q173 := eq_true q173
                    have p174 : 0 ≤ (x9_2 : Int) := of_decide_eq_true (by first | (with_reducible assumption) | assumption)
                    have q174 : x9_2 < (l0.length : Int) := of_decide_eq_true (by first | (with_reducible assumption) | assumption)
                    obtain ⟨ad174, e174, hx174_0, hx174_1, hx174_2⟩ := at_T26 HR0.out x9_2 p174 q174
                    obtain rfl : ad173 = ad174 := (by injection e174)
                    replace hx174_0 := (HB.out.cell (World.block_lt_of_cell? w _ hx174_0)).trans hx174_0
                    replace hx174_1 := (HB.out.cell (World.block_lt_of_cell? w _ hx174_1)).trans hx174_1
                    replace hx174_2 := (HB.out.cell (World.block_lt_of_cell? w _ hx174_2)).trans hx174_2
                    replace p174 := eq_true p174
                    replace q174 := eq_true q174
                    go_wp2_with (first | (go_at_call 24; (with_reducible refine (spec_KindHas.calls k2 ((rd_T26 l0 x9_2).f0) ((rd_T26 l0 x9_2).f1) _ _ l1 t175 t176 _ ?side1 ?side2 A17.out).mono ?_); (case side1 => repeat (first | exact (Kd.C_below HR1.out HB.out) | (with_reducible refine Kd.C_alloc ?_ _) | (with_reducible refine Kd.C_drewN ?_ _) | (with_reducible refine Kd.C_drew ?_))); (case side2 => exact HC1.out); rintro e w' ⟨rfl, ⟨nd, rfl⟩⟩; (try first | exact ⟨rfl, _, World.drewN_drewN _ _ _⟩ | exact ⟨rfl, _, Eq.trans (World.drewN_drewN _ _ _) (congrArg (World.drewN _) (Nat.add_assoc _ _ _))⟩)))
                    repeat (go_quiet (first | (go_at_call 24; (with_reducible refine (spec_KindHas.calls k2 ((rd_T26 l0 x9_2).f0) ((rd_T26 l0 x9_2).f1) _ _ l1 t175 t176 _ ?side1 ?side2 A17.out).mono ?_); (case side1 => repeat (first | exact (Kd.C_below HR1.out HB.out) | (with_reducible refine Kd.C_alloc ?_ _) | (with_reducible refine Kd.C_drewN ?_ _) | (with_reducible refine Kd.C_drew ?_))); (case side2 => exact HC1.out); rintro e w' ⟨rfl, ⟨nd, rfl⟩⟩; (try first | exact ⟨rfl, _, World.drewN_drewN _ _ _⟩ | exact ⟨rfl, _, Eq.trans (World.drewN_drewN _ _ _) (congrArg (World.drewN _) (Nat.add_assoc _ _ _))⟩))); try go_wp2_with (first | (go_at_call 24; (with_reducible refine (spec_KindHas.calls k2 ((rd_T26 l0 x9_2).f0) ((rd_T26 l0 x9_2).f1) _ _ l1 t175 t176 _ ?side1 ?side2 A17.out).mono ?_); (case side1 => repeat (first | exact (Kd.C_below HR1.out HB.out) | (with_reducible refine Kd.C_alloc ?_ _) | (with_reducible refine Kd.C_drewN ?_ _) | (with_reducible refine Kd.C_drew ?_))); (case side2 => exact HC1.out); rintro e w' ⟨rfl, ⟨nd, rfl⟩⟩; (try first | exact ⟨rfl, _, World.drewN_drewN _ _ _⟩ | exact ⟨rfl, _, Eq.trans (World.drewN_drewN _ _ _) (congrArg (World.drewN _) (Nat.add_assoc _ _ _))⟩))))
                    go_roundg k2
                    case measure => have := HJ2.out; have := HK2.out; omega
                    case rel => exact ⟨(t175), (true), (wrap64 (x9_2 + 1)), (by first | rfl | (simp; done) | (simp [*]; done)), (by first | rfl | (simp; done) | (simp [*]; done)), (by first | rfl | (simp; done) | (simp [*]; done)), H', ⟨by have := HJ2.out; have := HK2.out; omega⟩, ⟨by (with_reducible repeat (first | refine blk_drewN ?_ _ | refine blk_drew ?_ | refine blk_alloc ?_ _)); exact BK172.out⟩, ⟨by repeat (first | (with_reducible first | exact HB.out | apply below_alloc | apply pw_below_drewN | apply below_drew1 | refine below_set ?_ GE172.out) | exact HB.out)⟩⟩
                  · replace c22 := Bool.eq_false_iff.mpr c22
                    subst c22
                    have H1 : (if t175 = true then (laws_FnKindForAny.l0 k2 l0 l1 t171 t175 (t168.toList == ((rd_T26 l0 x9_2).f0).toList) (wrap64 (x9_2 + 1)) t168 t169 t170) else (laws_FnKindForAny.l0 k2 l0 l1 t171 t175 false (wrap64 (x9_2 + 1)) t168 t169 t170)) = some r := by rw [if_neg (show ¬ (false = true) by decide)] at H; exact H
                    clear H
                    have H := H1
                    clear H1
                    by_cases c23 : t175 = true
                    · subst c23
                      have H1 : (laws_FnKindForAny.l0 k2 l0 l1 t171 true (t168.toList == ((rd_T26 l0 x9_2).f0).toList) (wrap64 (x9_2 + 1)) t168 t169 t170) = some r := by rw [if_pos rfl] at H; exact H
                      clear H
                      have H := H1
                      clear H1
                      have H' := Aside0.mk H
                      clear H
                      have p173 : 0 ≤ (x9_2 : Int) := of_decide_eq_true (by first | (with_reducible assumption) | assumption)
                      have q173 : x9_2 < (l0.length : Int) := of_decide_eq_true (by first | (with_reducible assumption) | assumption)
                      obtain ⟨ad173, e173, hx173_0, hx173_1, hx173_2⟩ := at_T26 HR0.out x9_2 p173 q173
                      cases e173
                      replace hx173_0 := (HB.out.cell (World.block_lt_of_cell? w _ hx173_0)).trans hx173_0
                      replace hx173_1 := (HB.out.cell (World.block_lt_of_cell? w _ hx173_1)).trans hx173_1
                      replace hx173_2 := (HB.out.cell (World.block_lt_of_cell? w _ hx173_2)).trans hx173_2
                      replace p173 := eq_true p173
                      replace q173 := eq_true q173
                      have p174 : 0 ≤ (x9_2 : Int) := of_decide_eq_true (by first | (with_reducible assumption) | assumption)
                      have q174 : x9_2 < (l0.length : Int) := of_decide_eq_true (by first | (with_reducible assumption) | assumption)
                      obtain ⟨ad174, e174, hx174_0, hx174_1, hx174_2⟩ := at_T26 HR0.out x9_2 p174 q174
                      obtain rfl : ad173 = ad174 := (by injection e174)
                      replace hx174_0 := (HB.out.cell (World.block_lt_of_cell? w _ hx174_0)).trans hx174_0
                      replace hx174_1 := (HB.out.cell (World.block_lt_of_cell? w _ hx174_1)).trans hx174_1
                      replace hx174_2 := (HB.out.cell (World.block_lt_of_cell? w _ hx174_2)).trans hx174_2
                      replace p174 := eq_true p174
                      replace q174 := eq_true q174
                      go_wp2_with (first | (go_at_call 24; (with_reducible refine (spec_KindHas.calls k2 ((rd_T26 l0 x9_2).f0) ((rd_T26 l0 x9_2).f1) _ _ l1 true t176 _ ?side1 ?side2 A17.out).mono ?_); (case side1 => repeat (first | exact (Kd.C_below HR1.out HB.out) | (with_reducible refine Kd.C_alloc ?_ _) | (with_reducible refine Kd.C_drewN ?_ _) | (with_reducible refine Kd.C_drew ?_))); (case side2 => exact HC1.out); rintro e w' ⟨rfl, ⟨nd, rfl⟩⟩; (try first | exact ⟨rfl, _, World.drewN_drewN _ _ _⟩ | exact ⟨rfl, _, Eq.trans (World.drewN_drewN _ _ _) (congrArg (World.drewN _) (Nat.add_assoc _ _ _))⟩); have hcz24_0 : wr.cell? ⟨gb172, 0, none⟩ = some (.string t168) := (blk_cell BK172.out 0).trans rfl; have hcz24_1 : wr.cell? ⟨gb172, 1, none⟩ = some (.string t169) := (blk_cell BK172.out 1).trans rfl; have hcz24_2 : wr.cell? ⟨gb172, 2, none⟩ = some (.string t170) := (blk_cell BK172.out 2).trans rfl; have hfz24_0 := blk_frozen BK172.out 0; have hfz24_1 := blk_frozen BK172.out 1; have hfz24_2 := blk_frozen BK172.out 2; have p178 : 0 ≤ (x9_2 : Int) := of_decide_eq_true (by first | (with_reducible assumption) | assumption); have q178 : x9_2 < (l0.length : Int) := of_decide_eq_true (by first | (with_reducible assumption) | assumption); obtain ⟨ad178, e178, hx178_0, hx178_1, hx178_2⟩ := at_T26 HR0.out x9_2 p178 q178; obtain rfl : ad173 = ad178 := (by injection e178); replace hx178_0 := (HB.out.cell (World.block_lt_of_cell? w _ hx178_0)).trans hx178_0; replace hx178_1 := (HB.out.cell (World.block_lt_of_cell? w _ hx178_1)).trans hx178_1; replace hx178_2 := (HB.out.cell (World.block_lt_of_cell? w _ hx178_2)).trans hx178_2; replace p178 := eq_true p178; replace q178 := eq_true q178))
                      repeat (go_quiet (first | (go_at_call 24; (with_reducible refine (spec_KindHas.calls k2 ((rd_T26 l0 x9_2).f0) ((rd_T26 l0 x9_2).f1) _ _ l1 true t176 _ ?side1 ?side2 A17.out).mono ?_); (case side1 => repeat (first | exact (Kd.C_below HR1.out HB.out) | (with_reducible refine Kd.C_alloc ?_ _) | (with_reducible refine Kd.C_drewN ?_ _) | (with_reducible refine Kd.C_drew ?_))); (case side2 => exact HC1.out); rintro e w' ⟨rfl, ⟨nd, rfl⟩⟩; (try first | exact ⟨rfl, _, World.drewN_drewN _ _ _⟩ | exact ⟨rfl, _, Eq.trans (World.drewN_drewN _ _ _) (congrArg (World.drewN _) (Nat.add_assoc _ _ _))⟩); have hcz24_0 : wr.cell? ⟨gb172, 0, none⟩ = some (.string t168) := (blk_cell BK172.out 0).trans rfl; have hcz24_1 : wr.cell? ⟨gb172, 1, none⟩ = some (.string t169) := (blk_cell BK172.out 1).trans rfl; have hcz24_2 : wr.cell? ⟨gb172, 2, none⟩ = some (.string t170) := (blk_cell BK172.out 2).trans rfl; have hfz24_0 := blk_frozen BK172.out 0; have hfz24_1 := blk_frozen BK172.out 1; have hfz24_2 := blk_frozen BK172.out 2; have p178 : 0 ≤ (x9_2 : Int) := of_decide_eq_true (by first | (with_reducible assumption) | assumption); have q178 : x9_2 < (l0.length : Int) := of_decide_eq_true (by first | (with_reducible assumption) | assumption); obtain ⟨ad178, e178, hx178_0, hx178_1, hx178_2⟩ := at_T26 HR0.out x9_2 p178 q178; obtain rfl : ad173 = ad178 := (by injection e178); replace hx178_0 := (HB.out.cell (World.block_lt_of_cell? w _ hx178_0)).trans hx178_0; replace hx178_1 := (HB.out.cell (World.block_lt_of_cell? w _ hx178_1)).trans hx178_1; replace hx178_2 := (HB.out.cell (World.block_lt_of_cell? w _ hx178_2)).trans hx178_2; replace p178 := eq_true p178; replace q178 := eq_true q178)); try go_wp2_with (first | (go_at_call 24; (with_reducible refine (spec_KindHas.calls k2 ((rd_T26 l0 x9_2).f0) ((rd_T26 l0 x9_2).f1) _ _ l1 true t176 _ ?side1 ?side2 A17.out).mono ?_); (case side1 => repeat (first | exact (Kd.C_below HR1.out HB.out) | (with_reducible refine Kd.C_alloc ?_ _) | (with_reducible refine Kd.C_drewN ?_ _) | (with_reducible refine Kd.C_drew ?_))); (case side2 => exact HC1.out); rintro e w' ⟨rfl, ⟨nd, rfl⟩⟩; (try first | exact ⟨rfl, _, World.drewN_drewN _ _ _⟩ | exact ⟨rfl, _, Eq.trans (World.drewN_drewN _ _ _) (congrArg (World.drewN _) (Nat.add_assoc _ _ _))⟩); have hcz24_0 : wr.cell? ⟨gb172, 0, none⟩ = some (.string t168) := (blk_cell BK172.out 0).trans rfl; have hcz24_1 : wr.cell? ⟨gb172, 1, none⟩ = some (.string t169) := (blk_cell BK172.out 1).trans rfl; have hcz24_2 : wr.cell? ⟨gb172, 2, none⟩ = some (.string t170) := (blk_cell BK172.out 2).trans rfl; have hfz24_0 := blk_frozen BK172.out 0; have hfz24_1 := blk_frozen BK172.out 1; have hfz24_2 := blk_frozen BK172.out 2; have p178 : 0 ≤ (x9_2 : Int) := of_decide_eq_true (by first | (with_reducible assumption) | assumption); have q178 : x9_2 < (l0.length : Int) := of_decide_eq_true (by first | (with_reducible assumption) | assumption); obtain ⟨ad178, e178, hx178_0, hx178_1, hx178_2⟩ := at_T26 HR0.out x9_2 p178 q178; obtain rfl : ad173 = ad178 := (by injection e178); replace hx178_0 := (HB.out.cell (World.block_lt_of_cell? w _ hx178_0)).trans hx178_0; replace hx178_1 := (HB.out.cell (World.block_lt_of_cell? w _ hx178_1)).trans hx178_1; replace hx178_2 := (HB.out.cell (World.block_lt_of_cell? w _ hx178_2)).trans hx178_2; replace p178 := eq_true p178; replace q178 := eq_true q178)))
                      go_roundg k2
                      case measure => have := HJ2.out; have := HK2.out; omega
                      case rel => exact ⟨(true), ((t168.toList == ((rd_T26 l0 x9_2).f0).toList)), (wrap64 (x9_2 + 1)), (by first | rfl | (simp; done) | (simp [*]; done)), (by first | rfl | (simp; done) | (simp [*]; done)), (by first | rfl | (simp; done) | (simp [*]; done)), H', ⟨by have := HJ2.out; have := HK2.out; omega⟩, ⟨by (with_reducible repeat (first | refine blk_drewN ?_ _ | refine blk_drew ?_ | refine blk_alloc ?_ _)); exact BK172.out⟩, ⟨by repeat (first | (with_reducible first | exact HB.out | apply below_alloc | apply pw_below_drewN | apply below_drew1 | refine below_set ?_ GE172.out) | exact HB.out)⟩⟩
                    · replace c23 := Bool.eq_false_iff.mpr c23
                      subst c23
                      have H1 : (laws_FnKindForAny.l0 k2 l0 l1 t171 false false (wrap64 (x9_2 + 1)) t168 t169 t170) = some r := by rw [if_neg (show ¬ (false = true) by decide)] at H; exact H
                      clear H
                      have H := H1
                      clear H1
                      have H' := Aside0.mk H
                      clear H
                      have p173 : 0 ≤ (x9_2 : Int) := of_decide_eq_true (by first | (with_reducible assumption) | assumption)
                      have q173 : x9_2 < (l0.length : Int) := of_decide_eq_true (by first | (with_reducible assumption) | assumption)
                      obtain ⟨ad173, e173, hx173_0, hx173_1, hx173_2⟩ := at_T26 HR0.out x9_2 p173 q173
                      cases e173
                      replace hx173_0 := (HB.out.cell (World.block_lt_of_cell? w _ hx173_0)).trans hx173_0
                      replace hx173_1 := (HB.out.cell (World.block_lt_of_cell? w _ hx173_1)).trans hx173_1
                      replace hx173_2 := (HB.out.cell (World.block_lt_of_cell? w _ hx173_2)).trans hx173_2
                      replace p173 := eq_true p173
                      replace q173 := eq_true q173
                      have p174 : 0 ≤ (x9_2 : Int) := of_decide_eq_true (by first | (with_reducible assumption) | assumption)
                      have q174 : x9_2 < (l0.length : Int) := of_decide_eq_true (by first | (with_reducible assumption) | assumption)
                      obtain ⟨ad174, e174, hx174_0, hx174_1, hx174_2⟩ := at_T26 HR0.out x9_2 p174 q174
                      obtain rfl : ad173 = ad174 := (by injection e174)
                      replace hx174_0 := (HB.out.cell (World.block_lt_of_cell? w _ hx174_0)).trans hx174_0
                      replace hx174_1 := (HB.out.cell (World.block_lt_of_cell? w _ hx174_1)).trans hx174_1
                      replace hx174_2 := (HB.out.cell (World.block_lt_of_cell? w _ hx174_2)).trans hx174_2
                      replace p174 := eq_true p174
                      replace q174 := eq_true q174
                      go_wp2_with (first | (go_at_call 24; (with_reducible refine (spec_KindHas.calls k2 ((rd_T26 l0 x9_2).f0) ((rd_T26 l0 x9_2).f1) _ _ l1 false t176 _ ?side1 ?side2 A17.out).mono ?_); (case side1 => repeat (first | exact (Kd.C_below HR1.out HB.out) | (with_reducible refine Kd.C_alloc ?_ _) | (with_reducible refine Kd.C_drewN ?_ _) | (with_reducible refine Kd.C_drew ?_))); (case side2 => exact HC1.out); rintro e w' ⟨rfl, ⟨nd, rfl⟩⟩; (try first | exact ⟨rfl, _, World.drewN_drewN _ _ _⟩ | exact ⟨rfl, _, Eq.trans (World.drewN_drewN _ _ _) (congrArg (World.drewN _) (Nat.add_assoc _ _ _))⟩)))
                      repeat (go_quiet (first | (go_at_call 24; (with_reducible refine (spec_KindHas.calls k2 ((rd_T26 l0 x9_2).f0) ((rd_T26 l0 x9_2).f1) _ _ l1 false t176 _ ?side1 ?side2 A17.out).mono ?_); (case side1 => repeat (first | exact (Kd.C_below HR1.out HB.out) | (with_reducible refine Kd.C_alloc ?_ _) | (with_reducible refine Kd.C_drewN ?_ _) | (with_reducible refine Kd.C_drew ?_))); (case side2 => exact HC1.out); rintro e w' ⟨rfl, ⟨nd, rfl⟩⟩; (try first | exact ⟨rfl, _, World.drewN_drewN _ _ _⟩ | exact ⟨rfl, _, Eq.trans (World.drewN_drewN _ _ _) (congrArg (World.drewN _) (Nat.add_assoc _ _ _))⟩))); try go_wp2_with (first | (go_at_call 24; (with_reducible refine (spec_KindHas.calls k2 ((rd_T26 l0 x9_2).f0) ((rd_T26 l0 x9_2).f1) _ _ l1 false t176 _ ?side1 ?side2 A17.out).mono ?_); (case side1 => repeat (first | exact (Kd.C_below HR1.out HB.out) | (with_reducible refine Kd.C_alloc ?_ _) | (with_reducible refine Kd.C_drewN ?_ _) | (with_reducible refine Kd.C_drew ?_))); (case side2 => exact HC1.out); rintro e w' ⟨rfl, ⟨nd, rfl⟩⟩; (try first | exact ⟨rfl, _, World.drewN_drewN _ _ _⟩ | exact ⟨rfl, _, Eq.trans (World.drewN_drewN _ _ _) (congrArg (World.drewN _) (Nat.add_assoc _ _ _))⟩))))
                      go_roundg k2
                      case measure => have := HJ2.out; have := HK2.out; omega
                      case rel => exact ⟨(false), (false), (wrap64 (x9_2 + 1)), (by first | rfl | (simp; done) | (simp [*]; done)), (by first | rfl | (simp; done) | (simp [*]; done)), (by first | rfl | (simp; done) | (simp [*]; done)), H', ⟨by have := HJ2.out; have := HK2.out; omega⟩, ⟨by (with_reducible repeat (first | refine blk_drewN ?_ _ | refine blk_drew ?_ | refine blk_alloc ?_ _)); exact BK172.out⟩, ⟨by repeat (first | (with_reducible first | exact HB.out | apply below_alloc | apply pw_below_drewN | apply below_drew1 | refine below_set ?_ GE172.out) | exact HB.out)⟩⟩
              · rw [if_neg c16] at H
                exact absurd H (by simp)
            · rw [if_neg c15] at H
              have c15b0 : decide (x9_2 < (l0.length : Int)) = false := decide_eq_false c15
              clear c15
              by_cases c25 : (t171 == x7_2) = true
              · rw [if_pos c25] at H
                have c25b0 : (t171 == x7_2) = true := c25
                (try (have c25b1 : decide (t171 = x7_2) = true := by simpa using c25))
                (try (have c25b2 : (t171 == x7_2) = true := by simpa using c25))
                clear c25
                by_cases c26 : t171 = true
                · subst c26
                  have H1 : (some x8_2) = some r := by rw [if_pos rfl] at H; exact H
                  clear H
                  have H := H1
                  clear H1
                  obtain rfl := Option.some.inj H
                  go_wp2
                  repeat (go_quiet (fail); try go_wp2)
                  go_ret
                  exact ⟨by first | rfl | (simp [errW_none, errW_some] <;> rfl) | (simp [*, errW_none, errW_some] <;> rfl), by repeat (first | (with_reducible first | exact HB.out | apply below_alloc | apply pw_below_drewN | apply below_drew1 | refine below_set ?_ GE172.out) | exact HB.out)⟩
                · replace c26 := Bool.eq_false_iff.mpr c26
                  subst c26
                  have H1 : (if (t168.toList == ([] : List UInt8) && (t169.toList == ([] : List UInt8) && (t170.toList == ([] : List UInt8)))) = true then (some true) else (some false)) = some r := by rw [if_neg (show ¬ (false = true) by decide)] at H; exact H
                  clear H
                  have H := H1
                  clear H1
                  by_cases c27 : (t168.toList == ([] : List UInt8) && (t169.toList == ([] : List UInt8) && (t170.toList == ([] : List UInt8)))) = true
                  · rw [if_pos c27] at H
                    have c27b0 : (t168.toList == ([] : List UInt8) && (t169.toList == ([] : List UInt8) && (t170.toList == ([] : List UInt8)))) = true := c27
                    (try (have c27b1 : decide (t168.toList = ([] : List UInt8) && (t169.toList == ([] : List UInt8) && (t170.toList == ([] : List UInt8)))) = true := by simpa using c27))
                    (try (have c27b2 : (t168.toList == ([] : List UInt8) && (t169.toList == ([] : List UInt8) && (t170.toList == ([] : List UInt8)))) = true := by simpa using c27))
                    (try (have c27b3 : (t168.toList.isEmpty && (t169.toList.isEmpty && (t170.toList.isEmpty))) = true := by simpa using c27))
                    (try (have c27b4 : (t168.toList = ([] : List UInt8) ∧ (t169.toList = ([] : List UInt8) ∧ (t170.toList = ([] : List UInt8)))) := by simpa using c27))
                    clear c27
                    obtain rfl := Option.some.inj H
                    have hcz28_0 : wr.cell? ⟨gb172, 0, none⟩ = some (.string t168) := (blk_cell BK172.out 0).trans rfl
                    have hcz28_1 : wr.cell? ⟨gb172, 1, none⟩ = some (.string t169) := (blk_cell BK172.out 1).trans rfl
                    have hcz28_2 : wr.cell? ⟨gb172, 2, none⟩ = some (.string t170) := (blk_cell BK172.out 2).trans rfl
                    have hfz28_0 := blk_frozen BK172.out 0
                    have hfz28_1 := blk_frozen BK172.out 1
                    have hfz28_2 := blk_frozen BK172.out 2
                    go_wp2
                    repeat (go_quiet (fail); try go_wp2)
                    go_ret
                    exact ⟨by first | rfl | (simp [errW_none, errW_some] <;> rfl) | (simp [*, errW_none, errW_some] <;> rfl), by repeat (first | (with_reducible first | exact HB.out | apply below_alloc | apply pw_below_drewN | apply below_drew1 | refine below_set ?_ GE172.out) | exact HB.out)⟩
                  · rw [if_neg c27] at H
                    have c27b0 : (t168.toList == ([] : List UInt8) && (t169.toList == ([] : List UInt8) && (t170.toList == ([] : List UInt8)))) = false := by simpa using c27
                    (try (have c27b1 : decide (t168.toList = ([] : List UInt8) && (t169.toList == ([] : List UInt8) && (t170.toList == ([] : List UInt8)))) = false := by simpa using c27))
                    (try (have c27b2 : (t168.toList == ([] : List UInt8) && (t169.toList == ([] : List UInt8) && (t170.toList == ([] : List UInt8)))) = false := by simpa using c27))
                    (try (have c27b3 : ¬ (t168.toList = ([] : List UInt8) && (t169.toList == ([] : List UInt8) && (t170.toList == ([] : List UInt8)))) := by simpa using c27))
                    (try (have c27b4 : (t168.toList.isEmpty && (t169.toList.isEmpty && (t170.toList.isEmpty))) = false := by simpa using c27))
                    (try (have c27b5 : ¬ ((t168.toList = ([] : List UInt8) ∧ (t169.toList = ([] : List UInt8) ∧ (t170.toList = ([] : List UInt8))))) := by simpa using c27))
                    clear c27
                    obtain rfl := Option.some.inj H
                    have hcz29_0 : wr.cell? ⟨gb172, 0, none⟩ = some (.string t168) := (blk_cell BK172.out 0).trans rfl
                    have hcz29_1 : wr.cell? ⟨gb172, 1, none⟩ = some (.string t169) := (blk_cell BK172.out 1).trans rfl
                    have hcz29_2 : wr.cell? ⟨gb172, 2, none⟩ = some (.string t170) := (blk_cell BK172.out 2).trans rfl
                    have hfz29_0 := blk_frozen BK172.out 0
                    have hfz29_1 := blk_frozen BK172.out 1
                    have hfz29_2 := blk_frozen BK172.out 2
                    go_wp2
                    repeat (go_quiet (fail); try go_wp2)
                    go_ret
                    exact ⟨by first | rfl | (simp [errW_none, errW_some] <;> rfl) | (simp [*, errW_none, errW_some] <;> rfl), by repeat (first | (with_reducible first | exact HB.out | apply below_alloc | apply pw_below_drewN | apply below_drew1 | refine below_set ?_ GE172.out) | exact HB.out)⟩
              · rw [if_neg c25] at H
                have c25b0 : (t171 == x7_2) = false := by simpa using c25
                (try (have c25b1 : decide (t171 = x7_2) = false := by simpa using c25))
                (try (have c25b2 : (t171 == x7_2) = false := by simpa using c25))
                (try (have c25b3 : ¬ (t171 = x7_2) := by simpa using c25))
                clear c25
                obtain rfl := Option.some.inj H
                go_wp2
                repeat (go_quiet (fail); try go_wp2)
                go_ret
                exact ⟨by first | rfl | (simp [errW_none, errW_some] <;> rfl) | (simp [*, errW_none, errW_some] <;> rfl), by repeat (first | (with_reducible first | exact HB.out | apply below_alloc | apply pw_below_drewN | apply below_drew1 | refine below_set ?_ GE172.out) | exact HB.out)⟩

end Go.Proofs.Ytehgokciafpnbaa.XFnKindForAny
