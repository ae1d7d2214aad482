/- A text of this session: the functions of the law FnVersionCompare, by a program that calls the kit's print and lays this session's own contracts of single functions beside. -/
import Derived.Test.YtmfgkidppchobaaDoorXFnVersionComparex0
namespace Go.Proofs.YtmfgkidppchobaaDoor.XFnVersionCompare
open Go.RowKit Go.Proofs.YtmfgkidppchobaaDoorW.PrintWords Go.Proofs.YtmfgkidppchobaaDoorW.PrintLast Go.Proofs.YtmfgkidppchobaaDoorW.PrintMore
attribute [local go_sem] max2_int min2_int max_two min_two max_three min_three max_four min_four
set_option linter.unusedVariables false
set_option linter.unusedSimpArgs false
def laws_verKind.f (a0 : Int) : Option (Int) := some (Int.tmod (wrap64 ((Int.tmod a0 4) + 4)) 4)
set_option maxHeartbeats 8000000 in
set_option maxRecDepth 100000 in
theorem laws_verKind.calls (a0 : Int) (r : Int) (w : World) (h : laws_verKind.f a0 = some r) :
  Calls Tryd.prog 8 #[.int .i64 a0] w fun e w' => e = .returned (.int .i64 r) ∧ Drawn0 w w' := by
 have H : (some (Int.tmod (wrap64 ((Int.tmod a0 4) + 4)) 4)) = some r := h
 clear h
 obtain rfl := Option.some.inj H
 go_enter Tryd.func8, Tryd.ntmps8
 go_wp2
 go_ret
 exact ⟨by first | rfl | (simp; done) | (simp [*]; done), by repeat (first | exact Drawn0.refl _ | apply Drawn0.step)⟩
def spec_verDigit.f (a0 : Int) : Option (Bool) := if a0 ≥ 48 then (some (decide (a0 ≤ 57))) else (some false)
set_option maxHeartbeats 8000000 in
set_option maxRecDepth 100000 in
theorem spec_verDigit.calls (a0 : Int) (r : Bool) (w : World) (h : spec_verDigit.f a0 = some r) :
  Calls Tryd.prog 49 #[.int .u8 a0] w fun e w' => e = .returned (.bool r) ∧ Drawn0 w w' := by
 have H : (if a0 ≥ 48 then (some (decide (a0 ≤ 57))) else (some false)) = some r := h
 clear h
 by_cases c2 : a0 ≥ 48
 ·rw [if_pos c2] at H
  have c2b0 : decide (48 ≤ a0) = true := decide_eq_true c2
  clear c2
  obtain rfl := Option.some.inj H
  go_enter Tryd.func49, Tryd.ntmps49
  go_wp2
  go_ret
  exact ⟨by first | rfl | (simp; done) | (simp [*]; done), by repeat (first | exact Drawn0.refl _ | apply Drawn0.step)⟩
 ·rw [if_neg c2] at H
  have c2b0 : decide (48 ≤ a0) = false := decide_eq_false c2
  clear c2
  obtain rfl := Option.some.inj H
  go_enter Tryd.func49, Tryd.ntmps49
  go_wp2
  go_ret
  exact ⟨by first | rfl | (simp; done) | (simp [*]; done), by repeat (first | exact Drawn0.refl _ | apply Drawn0.step)⟩
mutual
def spec_verFields.l0 : Nat → ByteArray → List ByteArray → Option (List ByteArray × ByteArray)
 | 0, _, _ => none
 | k + 1, x0, x4 => spec_verFields.l1 k x0 x4 0
def spec_verFields.j2 : Nat → ByteArray → List ByteArray → Int → Option (List ByteArray × ByteArray)
 | 0, _, _, _ => none
 | k + 1, x0, x4, x5 => if x5 = 0 then (some (x4, x0)) else (if 0 ≤ x5 then (if x5 ≤ (x0.size : Int) then (if x4.length < 8796093022208 then ((some (x4 ++ [x0.extract 0 (x5 : Int).toNat] : List ByteArray)).bind fun y102 => (if ((x0.extract (x5 : Int).toNat x0.size).size : Int) < 2 then (some (y102, x0.extract (x5 : Int).toNat x0.size)) else (if 0 < ((x0.extract (x5 : Int).toNat x0.size).size : Int) then (if (bt (x0.extract (x5 : Int).toNat x0.size) 0) = 46 then (if 1 < ((x0.extract (x5 : Int).toNat x0.size).size : Int) then ((spec_verDigit.f (bt (x0.extract (x5 : Int).toNat x0.size) 1)).bind fun t105 => (if t105 = true then (if 1 ≤ ((x0.extract (x5 : Int).toNat x0.size).size : Int) then (spec_verFields.l0 k ((x0.extract (x5 : Int).toNat x0.size).extract 1 (x0.extract (x5 : Int).toNat x0.size).size) y102) else (none)) else (some (y102, x0.extract (x5 : Int).toNat x0.size)))) else (none)) else (some (y102, x0.extract (x5 : Int).toNat x0.size))) else (none)))) else (none)) else (none)) else (none))
def spec_verFields.l1 : Nat → ByteArray → List ByteArray → Int → Option (List ByteArray × ByteArray)
 | 0, _, _, _ => none
 | k + 1, x0, x4, x5 => if x5 < (x0.size : Int) then (if 0 ≤ x5 then ((spec_verDigit.f (bt x0 x5)).bind fun t101 => (if t101 = true then (spec_verFields.l1 k x0 x4 (wrap64 (x5 + 1))) else (spec_verFields.j2 k x0 x4 x5))) else (none)) else (spec_verFields.j2 k x0 x4 x5)
end
def spec_verFields.f (k : Nat) (a0 : ByteArray) : Option (List ByteArray × ByteArray) := spec_verFields.l0 k a0 ([] : List ByteArray)
set_option maxHeartbeats 8000000 in
set_option maxRecDepth 100000 in
theorem spec_verFields.calls (k : Nat) (a0 : ByteArray) (r1 : List ByteArray) (r2 : ByteArray) (w : World) (h : spec_verFields.f k a0 = some (r1, r2)) :
  Calls Tryd.prog 21 #[.string a0] w fun e w' => ∃ v0_ : Value, e = .returned (.tuple #[v0_, .string r2]) ∧ Kd.R Kd.string 9 w' w.heap.size (fun _ => True) v0_ r1 ∧ Below w.heap.size w w' := by
 have HB := Aside0.mk (Below.refl w.heap.size w)
 have H : (spec_verFields.l0 k a0 ([] : List ByteArray)) = some (r1, r2) := h
 clear h
 have H' := Aside0.mk H
 clear H
 go_enter Tryd.func21, Tryd.ntmps21
 go_wp2
 go_loopg [0, 4] k (fun kq v0 v4 w' => ∃ (x0_1 : ByteArray) (x4_1 : List ByteArray), v0 = .string x0_1 ∧ Aside0 (spec_verFields.l0 kq x0_1 x4_1 = some (r1, r2)) ∧ Aside0 (kq ≤ k) ∧ Aside0 (Kd.R Kd.string 9 w' w.heap.size (fun _ => True) v4 x4_1) ∧ Aside0 (Below w.heap.size w w'))
 case atStart => exact ⟨(a0), (([] : List ByteArray)), (by first | rfl | (simp; done) | (simp [*]; done)), H', ⟨Nat.le_refl _⟩, ⟨by first | exact Kd.R_nil _ _ _ _ _ | exact Kd.N_nil _ _ _ _ _ | exact Kd.V_nil _ _ _ _ _ | exact Kd.Q_nil _ _ _ _ _ | exact Kd.S_nil _ _ _ _ _⟩, ⟨by repeat (first | (with_reducible first | exact HB.out | apply below_alloc | apply pw_below_drewN | apply below_drew1) | exact HB.out)⟩⟩
 case round =>
  clear H'
  obtain ⟨x0_1, x4_1, rfl, HA, HK1, HO_4, HB⟩ := hrel
  cases gk with
  | zero => exact absurd HA.out (by simp [spec_verFields.l0])
  | succ k1 =>
   have H := HA.out
   clear HA
   simp only [spec_verFields.l0] at H
   have HC2 := Aside0.mk H
   clear H
   go_upto_block 2 with (fail)
   go_cut [5] (fun v5 wc => ∃ (kq : Nat) (x5_1 : Int), v5 = .int .i64 x5_1 ∧ Aside0 (spec_verFields.j2 kq x0_1 x4_1 x5_1 = some (r1, r2)) ∧ Aside0 (kq ≤ k1) ∧ Aside0 (Kd.R Kd.string 9 wc w.heap.size (fun _ => True) u4 x4_1) ∧ Aside0 (Below w.heap.size w wc))
   case first =>
    have H := HC2.out
    clear HC2
    have H' := Aside0.mk H
    clear H
    go_wp2
    go_loopg [5] k1 (fun kq v5 w' => ∃ (x5_2 : Int), v5 = .int .i64 x5_2 ∧ Aside0 (spec_verFields.l1 kq x0_1 x4_1 x5_2 = some (r1, r2)) ∧ Aside0 (kq ≤ k1) ∧ Aside0 (Kd.R Kd.string 9 w' w.heap.size (fun _ => True) u4 x4_1) ∧ Aside0 (Below w.heap.size w w'))
    case atStart => exact ⟨(0), (by first | rfl | (simp; done) | (simp [*]; done)), H', ⟨Nat.le_refl _⟩, ⟨by (with_reducible repeat (first | apply Kd.R_alloc | apply Kd.R_drewN | apply Kd.R_drew)); exact HO_4.out⟩, ⟨by repeat (first | (with_reducible first | exact HB.out | apply below_alloc | apply pw_below_drewN | apply below_drew1) | exact HB.out)⟩⟩
    case round =>
     clear H'
     try clear c2
     try clear p2
     obtain ⟨x5_2, rfl, HA, HK2, HO_4, HB⟩ := hrel
     cases gk with
     | zero => exact absurd HA.out (by simp [spec_verFields.l1])
     | succ k2 =>
      have H := HA.out
      clear HA
      simp only [spec_verFields.l1] at H
      by_cases c3 : x5_2 < (x0_1.size : Int)
      ·rw [if_pos c3] at H
       have c3b0 : decide (x5_2 < (x0_1.size : Int)) = true := decide_eq_true c3
       clear c3
       (first | rw [c3b0] | (simp only [i64_w, i32_w]; rw [c3b0]) | skip)
       by_cases c4 : 0 ≤ x5_2
       ·rw [if_pos c4] at H
        have c4b0 : decide (0 ≤ x5_2) = true := decide_eq_true c4
        clear c4
        replace H := Option.bind_eq_some_iff.mp H
        obtain ⟨t101, A60, H⟩ := H
        replace H : (if t101 = true then (spec_verFields.l1 k2 x0_1 x4_1 (wrap64 (x5_2 + 1))) else (spec_verFields.j2 k2 x0_1 x4_1 x5_2)) = some (r1, r2) := H
        have A6 := Aside0.mk A60
        clear A60
        by_cases c7 : t101 = true
        ·subst c7
         have H1 : (spec_verFields.l1 k2 x0_1 x4_1 (wrap64 (x5_2 + 1))) = some (r1, r2) := by rw [if_pos rfl] at H; exact H
         clear H
         have H := H1
         clear H1
         have H' := Aside0.mk H
         clear H
         have p5 : 0 ≤ (x5_2 : Int) := of_decide_eq_true (by assumption)
         have q5 : x5_2 < (x0_1.size : Int) := of_decide_eq_true (by assumption)
         have hx5 := bt_at x0_1 x5_2
         replace p5 := eq_true p5
         replace q5 := eq_true q5
         go_wp2_with (first | (go_at_call 49; (with_reducible refine (spec_verDigit.calls (bt x0_1 x5_2) true _ A6.out).mono ?_); rintro e w' ⟨rfl, ⟨nd, rfl⟩⟩))
         go_roundg k2
         case measure => have := HK1.out; have := HK2.out; omega
         case rel => exact ⟨(wrap64 (x5_2 + 1)), (by first | rfl | (simp; done) | (simp [*]; done)), H', ⟨by have := HK1.out; have := HK2.out; omega⟩, ⟨by (with_reducible repeat (first | apply Kd.R_alloc | apply Kd.R_drewN | apply Kd.R_drew)); exact HO_4.out⟩, ⟨by repeat (first | (with_reducible first | exact HB.out | apply below_alloc | apply pw_below_drewN | apply below_drew1) | exact HB.out)⟩⟩
        ·replace c7 := Bool.eq_false_iff.mpr c7
         subst c7
         have H1 : (spec_verFields.j2 k2 x0_1 x4_1 x5_2) = some (r1, r2) := by rw [if_neg (show ¬ (false = true) by decide)] at H; exact H
         clear H
         have H := H1
         clear H1
         have H' := Aside0.mk H
         clear H
         have p5 : 0 ≤ (x5_2 : Int) := of_decide_eq_true (by assumption)
         have q5 : x5_2 < (x0_1.size : Int) := of_decide_eq_true (by assumption)
         have hx5 := bt_at x0_1 x5_2
         replace p5 := eq_true p5
         replace q5 := eq_true q5
         go_wp2_with (first | (go_at_call 49; (with_reducible refine (spec_verDigit.calls (bt x0_1 x5_2) false _ A6.out).mono ?_); rintro e w' ⟨rfl, ⟨nd, rfl⟩⟩))
         go_meet
         case rel => exact ⟨_, (x5_2), (by first | rfl | (simp; done) | (simp [*]; done)), H', ⟨by have := HK1.out; have := HK2.out; first | omega | exact Nat.le_refl _⟩, ⟨by (with_reducible repeat (first | apply Kd.R_alloc | apply Kd.R_drewN | apply Kd.R_drew)); exact HO_4.out⟩, ⟨by repeat (first | (with_reducible first | exact HB.out | apply below_alloc | apply pw_below_drewN | apply below_drew1) | exact HB.out)⟩⟩
       ·rw [if_neg c4] at H
        exact absurd H (by simp)
      ·rw [if_neg c3] at H
       have c3b0 : decide (x5_2 < (x0_1.size : Int)) = false := decide_eq_false c3
       clear c3
       (first | rw [c3b0] | (simp only [i64_w, i32_w]; rw [c3b0]) | skip)
       have H' := Aside0.mk H
       clear H
       go_wp2
       go_meet
       case rel => exact ⟨_, (x5_2), (by first | rfl | (simp; done) | (simp [*]; done)), H', ⟨by have := HK1.out; have := HK2.out; first | omega | exact Nat.le_refl _⟩, ⟨by (with_reducible repeat (first | apply Kd.R_alloc | apply Kd.R_drewN | apply Kd.R_drew)); exact HO_4.out⟩, ⟨by repeat (first | (with_reducible first | exact HB.out | apply below_alloc | apply pw_below_drewN | apply below_drew1) | exact HB.out)⟩⟩
   case rest =>
    clear HC2
    try clear c2
    try clear p2
    try clear c3
    try clear c3b0
    try clear c4
    try clear c4b0
    try clear p5
    try clear q5
    try clear hx5
    try clear p6
    try clear c7
    try clear p2
    try clear p5
    try clear q5
    obtain ⟨kq, x5_1, rfl, HA, HJ1, HO_4, HB⟩ := hcut
    cases kq with
    | zero => exact absurd HA.out (by simp [spec_verFields.j2])
    | succ kj1 =>
     have H := HA.out
     clear HA
     simp only [spec_verFields.j2] at H
     by_cases c8 : x5_1 = 0
     ·rw [if_pos c8] at H
      have c8b0 : (x5_1 == 0) = true := beq_iff_eq.mpr c8
      have c8b1 : (x5_1 != 0) = false := bne_eq_false_iff_eq.mpr c8
      clear c8
      simp only [Option.some.injEq, Prod.mk.injEq] at H
      obtain ⟨rfl, rfl⟩ := H
      go_wp2
      go_ret2
      exact ⟨_, by first | rfl | (simp [errW_none, errW_some] <;> rfl) | (simp [*, errW_none, errW_some] <;> rfl), by (with_reducible repeat (first | apply Kd.R_alloc | apply Kd.R_drewN | apply Kd.R_drew)); exact HO_4.out, by repeat (first | (with_reducible first | exact HB.out | apply below_alloc | apply pw_below_drewN | apply below_drew1) | exact HB.out)⟩
     ·rw [if_neg c8] at H
      have c8b0 : (x5_1 == 0) = false := beq_eq_false_iff_ne.mpr c8
      have c8b1 : (x5_1 != 0) = true := bne_iff_ne.mpr c8
      by_cases c9 : 0 ≤ x5_1
      ·rw [if_pos c9] at H
       have c9b0 := eq_true c9
       have c9b1 : decide (0 ≤ x5_1) = true := decide_eq_true c9
       clear c9
       by_cases c10 : x5_1 ≤ (x0_1.size : Int)
       ·rw [if_pos c10] at H
        have c10b0 := eq_true c10
        have c10b1 : decide (x5_1 ≤ (x0_1.size : Int)) = true := decide_eq_true c10
        clear c10
        by_cases c11 : x4_1.length < 8796093022208
        ·rw [if_pos c11] at H
         have LMc11 := Aside0.mk c11
         clear c11
         obtain ⟨y102, hy102⟩ : ∃ y_ : List ByteArray, y_ = (x4_1 ++ [x0_1.extract 0 (x5_1 : Int).toNat]) := ⟨_, rfl⟩
         replace H : (if ((x0_1.extract (x5_1 : Int).toNat x0_1.size).size : Int) < 2 then (some (y102, x0_1.extract (x5_1 : Int).toNat x0_1.size)) else (if 0 < ((x0_1.extract (x5_1 : Int).toNat x0_1.size).size : Int) then (if (bt (x0_1.extract (x5_1 : Int).toNat x0_1.size) 0) = 46 then (if 1 < ((x0_1.extract (x5_1 : Int).toNat x0_1.size).size : Int) then ((spec_verDigit.f (bt (x0_1.extract (x5_1 : Int).toNat x0_1.size) 1)).bind fun t105 => (if t105 = true then (if 1 ≤ ((x0_1.extract (x5_1 : Int).toNat x0_1.size).size : Int) then (spec_verFields.l0 kj1 ((x0_1.extract (x5_1 : Int).toNat x0_1.size).extract 1 (x0_1.extract (x5_1 : Int).toNat x0_1.size).size) y102) else (none)) else (some (y102, x0_1.extract (x5_1 : Int).toNat x0_1.size)))) else (none)) else (some (y102, x0_1.extract (x5_1 : Int).toNat x0_1.size))) else (none))) = some (r1, r2) := by first | (rw [hy102]; with_reducible exact H) | (have H2_ := (Option.bind_some _ _).symm.trans H; rw [hy102]; with_reducible exact H2_) | (have H2_ := (Option.bind_some _ _).symm.trans H; with_reducible exact H2_) | with_reducible exact H | (rw [hy102]; exact H) | exact H
         have Ny102 := Aside0.mk hy102
         clear hy102
         have c12b0 := eq_true (of_decide_eq_true (by assumption) : 0 ≤ x5_1)
         have c13b0 := eq_true (of_decide_eq_true (by assumption) : x5_1 ≤ (x0_1.size : Int))
         by_cases c14 : ((x0_1.extract (x5_1 : Int).toNat x0_1.size).size : Int) < 2
         ·rw [if_pos c14] at H
          have c14f : ((x0_1.size - (x5_1 : Int).toNat : Nat) : Int) < 2 := by simpa only [ByteArray.size_extract, Nat.min_self] using c14
          have c14f0 := eq_true c14f
          have c14f1 : decide (((x0_1.size - (x5_1 : Int).toNat : Nat) : Int) < 2) = true := decide_eq_true c14f
          have c14f2 : decide ((x0_1.size - (x5_1 : Int).toNat) < 2) = true := decide_eq_true (by omega)
          have c14f3 : ((x0_1.size - (x5_1 : Int).toNat) < 2) = True := eq_true (by omega)
          clear c14f
          have c14b0 : decide (((x0_1.extract (x5_1 : Int).toNat x0_1.size).size : Int) < 2) = true := decide_eq_true c14
          have c14b1 : decide ((x0_1.extract (x5_1 : Int).toNat x0_1.size).size < 2) = true := decide_eq_true (by omega)
          clear c14
          simp only [Option.some.injEq, Prod.mk.injEq] at H
          obtain ⟨rfl, rfl⟩ := H
          go_wp2_with (first | ((with_reducible refine gate_builtin (b := .append) (xs := #[.tmp 22, .tmp 26]) rfl ?_); at_builtin; refine Kd.R_append Kd.string (w0 := w) w.heap.size rfl (.tmp 22) (.tmp 26) 54 9 (.string ⟨#[]⟩) 16 rfl Tryd.underlying54 info9 rfl (by decide) (by omega) u4 x4_1 (x0_1.extract 0 (x5_1 : Int).toNat) [.string (x0_1.extract 0 (x5_1 : Int).toNat)] (fun _ => True) (fun _ => False) rfl rfl ?aP (fun _ hk => hk.elim) ?aF ?aO ?aB ?aS ?aL ?_; (case aP => exact rfl); (case aB => exact (by repeat (first | (with_reducible first | exact HB.out | apply below_alloc | apply pw_below_drewN | apply below_drew1) | exact HB.out))); (case aF => exact (fun _ _ => trivial)); (case aO => exact (by (with_reducible repeat (first | apply Kd.R_alloc | apply Kd.R_drewN | apply Kd.R_drew)); exact HO_4.out)); (case aS => exact (below_size (by repeat (first | (with_reducible first | exact HB.out | apply below_alloc | apply pw_below_drewN | apply below_drew1) | exact HB.out)))); (case aL => have := LMc11.out; omega); intro v103 w15 ho hb hg hat; rw [← Ny102.out] at ho; have n0_ := Aside0.mk (hb); have n1_ := Aside0.mk (ho); clear HB; clear HO_4; have HB := n0_; have HO104 := n1_; clear n0_ n1_; clear ho hb hg hat))
          go_ret2
          exact ⟨_, by first | rfl | (simp [errW_none, errW_some] <;> rfl) | (simp [*, errW_none, errW_some] <;> rfl), by (with_reducible repeat (first | apply Kd.R_alloc | apply Kd.R_drewN | apply Kd.R_drew)); exact HO104.out, by repeat (first | (with_reducible first | exact HB.out | apply below_alloc | apply pw_below_drewN | apply below_drew1) | exact HB.out)⟩
         ·rw [if_neg c14] at H
          have c14f : ¬ (((x0_1.size - (x5_1 : Int).toNat : Nat) : Int) < 2) := by simpa only [ByteArray.size_extract, Nat.min_self] using c14
          have c14f0 := eq_false c14f
          have c14f1 : decide (((x0_1.size - (x5_1 : Int).toNat : Nat) : Int) < 2) = false := decide_eq_false c14f
          have c14f2 : decide ((x0_1.size - (x5_1 : Int).toNat) < 2) = false := decide_eq_false (by omega)
          have c14f3 : ((x0_1.size - (x5_1 : Int).toNat) < 2) = False := eq_false (by omega)
          clear c14f
          have c14b0 : decide (((x0_1.extract (x5_1 : Int).toNat x0_1.size).size : Int) < 2) = false := decide_eq_false c14
          have c14b1 : decide ((x0_1.extract (x5_1 : Int).toNat x0_1.size).size < 2) = false := decide_eq_false (by omega)
          clear c14
          by_cases c16 : 0 < ((x0_1.extract (x5_1 : Int).toNat x0_1.size).size : Int)
          ·rw [if_pos c16] at H
           have c16f : 0 < ((x0_1.size - (x5_1 : Int).toNat : Nat) : Int) := by simpa only [ByteArray.size_extract, Nat.min_self] using c16
           have c16f0 := eq_true c16f
           have c16f1 : decide (0 < ((x0_1.size - (x5_1 : Int).toNat : Nat) : Int)) = true := decide_eq_true c16f
           have c16f2 : decide (0 < (x0_1.size - (x5_1 : Int).toNat)) = true := decide_eq_true (by omega)
           have c16f3 : (0 < (x0_1.size - (x5_1 : Int).toNat)) = True := eq_true (by omega)
           clear c16f
           have c16b0 : decide (0 < ((x0_1.extract (x5_1 : Int).toNat x0_1.size).size : Int)) = true := decide_eq_true c16
           have c16b1 : decide (0 < (x0_1.extract (x5_1 : Int).toNat x0_1.size).size) = true := decide_eq_true (by omega)
           clear c16
           by_cases c18 : (bt (x0_1.extract (x5_1 : Int).toNat x0_1.size) 0) = 46
           ·rw [if_pos c18] at H
            have c18b0 : ((bt (x0_1.extract (x5_1 : Int).toNat x0_1.size) 0) == 46) = true := beq_iff_eq.mpr c18
            have c18b1 : ((bt (x0_1.extract (x5_1 : Int).toNat x0_1.size) 0) != 46) = false := bne_eq_false_iff_eq.mpr c18
            clear c18
            by_cases c19 : 1 < ((x0_1.extract (x5_1 : Int).toNat x0_1.size).size : Int)
            ·rw [if_pos c19] at H
             have c19f : 1 < ((x0_1.size - (x5_1 : Int).toNat : Nat) : Int) := by simpa only [ByteArray.size_extract, Nat.min_self] using c19
             have c19f0 := eq_true c19f
             have c19f1 : decide (1 < ((x0_1.size - (x5_1 : Int).toNat : Nat) : Int)) = true := decide_eq_true c19f
             have c19f2 : decide (1 < (x0_1.size - (x5_1 : Int).toNat)) = true := decide_eq_true (by omega)
             have c19f3 : (1 < (x0_1.size - (x5_1 : Int).toNat)) = True := eq_true (by omega)
             clear c19f
             have c19b0 : decide (1 < ((x0_1.extract (x5_1 : Int).toNat x0_1.size).size : Int)) = true := decide_eq_true c19
             have c19b1 : decide (1 < (x0_1.extract (x5_1 : Int).toNat x0_1.size).size) = true := decide_eq_true (by omega)
             clear c19
             replace H := Option.bind_eq_some_iff.mp H
             obtain ⟨t105, A210, H⟩ := H
             replace H : (if t105 = true then (if 1 ≤ ((x0_1.extract (x5_1 : Int).toNat x0_1.size).size : Int) then (spec_verFields.l0 kj1 ((x0_1.extract (x5_1 : Int).toNat x0_1.size).extract 1 (x0_1.extract (x5_1 : Int).toNat x0_1.size).size) y102) else (none)) else (some (y102, x0_1.extract (x5_1 : Int).toNat x0_1.size))) = some (r1, r2) := H
             have A21 := Aside0.mk A210
             clear A210
             by_cases c22 : t105 = true
             ·subst c22
              have H1 : (if 1 ≤ ((x0_1.extract (x5_1 : Int).toNat x0_1.size).size : Int) then (spec_verFields.l0 kj1 ((x0_1.extract (x5_1 : Int).toNat x0_1.size).extract 1 (x0_1.extract (x5_1 : Int).toNat x0_1.size).size) y102) else (none)) = some (r1, r2) := by rw [if_pos rfl] at H; exact H
              clear H
              have H := H1
              clear H1
              by_cases c23 : 1 ≤ ((x0_1.extract (x5_1 : Int).toNat x0_1.size).size : Int)
              ·rw [if_pos c23] at H
               have c23f : 1 ≤ ((x0_1.size - (x5_1 : Int).toNat : Nat) : Int) := by simpa only [ByteArray.size_extract, Nat.min_self] using c23
               have c23f0 := eq_true c23f
               have c23f1 : decide (1 ≤ ((x0_1.size - (x5_1 : Int).toNat : Nat) : Int)) = true := decide_eq_true c23f
               have c23f2 : decide (1 ≤ (x0_1.size - (x5_1 : Int).toNat)) = true := decide_eq_true (by omega)
               have c23f3 : (1 ≤ (x0_1.size - (x5_1 : Int).toNat)) = True := eq_true (by omega)
               clear c23f
               have c23b0 := eq_true c23
               have c23b1 : decide (1 ≤ ((x0_1.extract (x5_1 : Int).toNat x0_1.size).size : Int)) = true := decide_eq_true c23
               clear c23
               have H' := Aside0.mk H
               clear H
               go_wp2_with (first | ((with_reducible refine gate_builtin (b := .append) (xs := #[.tmp 22, .tmp 26]) rfl ?_); at_builtin; refine Kd.R_append Kd.string (w0 := w) w.heap.size rfl (.tmp 22) (.tmp 26) 54 9 (.string ⟨#[]⟩) 16 rfl Tryd.underlying54 info9 rfl (by decide) (by omega) u4 x4_1 (x0_1.extract 0 (x5_1 : Int).toNat) [.string (x0_1.extract 0 (x5_1 : Int).toNat)] (fun _ => True) (fun _ => False) rfl rfl ?aP (fun _ hk => hk.elim) ?aF ?aO ?aB ?aS ?aL ?_; (case aP => exact rfl); (case aB => exact (by repeat (first | (with_reducible first | exact HB.out | apply below_alloc | apply pw_below_drewN | apply below_drew1) | exact HB.out))); (case aF => exact (fun _ _ => trivial)); (case aO => exact (by (with_reducible repeat (first | apply Kd.R_alloc | apply Kd.R_drewN | apply Kd.R_drew)); exact HO_4.out)); (case aS => exact (below_size (by repeat (first | (with_reducible first | exact HB.out | apply below_alloc | apply pw_below_drewN | apply below_drew1) | exact HB.out)))); (case aL => have := LMc11.out; omega); intro v103 w24 ho hb hg hat; rw [← Ny102.out] at ho; have n0_ := Aside0.mk (hb); have n1_ := Aside0.mk (ho); clear HB; clear HO_4; have HB := n0_; have HO104 := n1_; clear n0_ n1_; clear ho hb hg hat; have p17 : 0 ≤ (0 : Int) := (by omega); have q17 : 0 < (x0_1.extract (x5_1 : Int).toNat x0_1.size).size := (by have : (0 : Int) < ((x0_1.extract (x5_1 : Int).toNat x0_1.size).size : Int) := of_decide_eq_true (by assumption); omega); have hx17 : ∀ h : 0 < (x0_1.extract (x5_1 : Int).toNat x0_1.size).size, (((x0_1.extract (x5_1 : Int).toNat x0_1.size)[0]'h).toNat : Int) = bt (x0_1.extract (x5_1 : Int).toNat x0_1.size) 0 := bt_at (x0_1.extract (x5_1 : Int).toNat x0_1.size) 0; clear p17; have qi17 : (0 < ((x0_1.extract (x5_1 : Int).toNat x0_1.size).size : Int)) = True := eq_true (of_decide_eq_true (by assumption)); replace q17 := eq_true q17; have p20 : 0 ≤ (1 : Int) := (by omega); have q20 : 1 < (x0_1.extract (x5_1 : Int).toNat x0_1.size).size := (by have : (1 : Int) < ((x0_1.extract (x5_1 : Int).toNat x0_1.size).size : Int) := of_decide_eq_true (by assumption); omega); have hx20 : ∀ h : 1 < (x0_1.extract (x5_1 : Int).toNat x0_1.size).size, (((x0_1.extract (x5_1 : Int).toNat x0_1.size)[1]'h).toNat : Int) = bt (x0_1.extract (x5_1 : Int).toNat x0_1.size) 1 := bt_at (x0_1.extract (x5_1 : Int).toNat x0_1.size) 1; clear p20; have qi20 : (1 < ((x0_1.extract (x5_1 : Int).toNat x0_1.size).size : Int)) = True := eq_true (of_decide_eq_true (by assumption)); replace q20 := eq_true q20) | (go_at_call 49; (with_reducible refine (spec_verDigit.calls (bt (x0_1.extract (x5_1 : Int).toNat x0_1.size) 1) true _ A21.out).mono ?_); rintro e w' ⟨rfl, ⟨nd, rfl⟩⟩))
               go_roundg kj1
               case measure => have := HK1.out; have := HJ1.out; omega
               case rel => exact ⟨((x0_1.extract (x5_1 : Int).toNat x0_1.size).extract 1 (x0_1.extract (x5_1 : Int).toNat x0_1.size).size), (y102), (by first | rfl | (simp; done) | (simp [*]; done)), H', ⟨by have := HK1.out; have := HJ1.out; omega⟩, ⟨by (with_reducible repeat (first | apply Kd.R_alloc | apply Kd.R_drewN | apply Kd.R_drew)); exact HO104.out⟩, ⟨by repeat (first | (with_reducible first | exact HB.out | apply below_alloc | apply pw_below_drewN | apply below_drew1) | exact HB.out)⟩⟩
              ·rw [if_neg c23] at H
               have c23f : ¬ (1 ≤ ((x0_1.size - (x5_1 : Int).toNat : Nat) : Int)) := by simpa only [ByteArray.size_extract, Nat.min_self] using c23
               have c23f0 := eq_false c23f
               have c23f1 : decide (1 ≤ ((x0_1.size - (x5_1 : Int).toNat : Nat) : Int)) = false := decide_eq_false c23f
               have c23f2 : decide (1 ≤ (x0_1.size - (x5_1 : Int).toNat)) = false := decide_eq_false (by omega)
               have c23f3 : (1 ≤ (x0_1.size - (x5_1 : Int).toNat)) = False := eq_false (by omega)
               clear c23f
               exact absurd H (by simp)
             ·replace c22 := Bool.eq_false_iff.mpr c22
              subst c22
              have H1 : (some (y102, x0_1.extract (x5_1 : Int).toNat x0_1.size)) = some (r1, r2) := by rw [if_neg (show ¬ (false = true) by decide)] at H; exact H
              clear H
              have H := H1
              clear H1
              simp only [Option.some.injEq, Prod.mk.injEq] at H
              obtain ⟨rfl, rfl⟩ := H
              go_wp2_with (first | ((with_reducible refine gate_builtin (b := .append) (xs := #[.tmp 22, .tmp 26]) rfl ?_); at_builtin; refine Kd.R_append Kd.string (w0 := w) w.heap.size rfl (.tmp 22) (.tmp 26) 54 9 (.string ⟨#[]⟩) 16 rfl Tryd.underlying54 info9 rfl (by decide) (by omega) u4 x4_1 (x0_1.extract 0 (x5_1 : Int).toNat) [.string (x0_1.extract 0 (x5_1 : Int).toNat)] (fun _ => True) (fun _ => False) rfl rfl ?aP (fun _ hk => hk.elim) ?aF ?aO ?aB ?aS ?aL ?_; (case aP => exact rfl); (case aB => exact (by repeat (first | (with_reducible first | exact HB.out | apply below_alloc | apply pw_below_drewN | apply below_drew1) | exact HB.out))); (case aF => exact (fun _ _ => trivial)); (case aO => exact (by (with_reducible repeat (first | apply Kd.R_alloc | apply Kd.R_drewN | apply Kd.R_drew)); exact HO_4.out)); (case aS => exact (below_size (by repeat (first | (with_reducible first | exact HB.out | apply below_alloc | apply pw_below_drewN | apply below_drew1) | exact HB.out)))); (case aL => have := LMc11.out; omega); intro v103 w25 ho hb hg hat; rw [← Ny102.out] at ho; have n0_ := Aside0.mk (hb); have n1_ := Aside0.mk (ho); clear HB; clear HO_4; have HB := n0_; have HO104 := n1_; clear n0_ n1_; clear ho hb hg hat; have p17 : 0 ≤ (0 : Int) := (by omega); have q17 : 0 < (x0_1.extract (x5_1 : Int).toNat x0_1.size).size := (by have : (0 : Int) < ((x0_1.extract (x5_1 : Int).toNat x0_1.size).size : Int) := of_decide_eq_true (by assumption); omega); have hx17 : ∀ h : 0 < (x0_1.extract (x5_1 : Int).toNat x0_1.size).size, (((x0_1.extract (x5_1 : Int).toNat x0_1.size)[0]'h).toNat : Int) = bt (x0_1.extract (x5_1 : Int).toNat x0_1.size) 0 := bt_at (x0_1.extract (x5_1 : Int).toNat x0_1.size) 0; clear p17; have qi17 : (0 < ((x0_1.extract (x5_1 : Int).toNat x0_1.size).size : Int)) = True := eq_true (of_decide_eq_true (by assumption)); replace q17 := eq_true q17; have p20 : 0 ≤ (1 : Int) := (by omega); have q20 : 1 < (x0_1.extract (x5_1 : Int).toNat x0_1.size).size := (by have : (1 : Int) < ((x0_1.extract (x5_1 : Int).toNat x0_1.size).size : Int) := of_decide_eq_true (by assumption); omega); have hx20 : ∀ h : 1 < (x0_1.extract (x5_1 : Int).toNat x0_1.size).size, (((x0_1.extract (x5_1 : Int).toNat x0_1.size)[1]'h).toNat : Int) = bt (x0_1.extract (x5_1 : Int).toNat x0_1.size) 1 := bt_at (x0_1.extract (x5_1 : Int).toNat x0_1.size) 1; clear p20; have qi20 : (1 < ((x0_1.extract (x5_1 : Int).toNat x0_1.size).size : Int)) = True := eq_true (of_decide_eq_true (by assumption)); replace q20 := eq_true q20) | (go_at_call 49; (with_reducible refine (spec_verDigit.calls (bt (x0_1.extract (x5_1 : Int).toNat x0_1.size) 1) false _ A21.out).mono ?_); rintro e w' ⟨rfl, ⟨nd, rfl⟩⟩))
              go_ret2
              exact ⟨_, by first | rfl | (simp [errW_none, errW_some] <;> rfl) | (simp [*, errW_none, errW_some] <;> rfl), by (with_reducible repeat (first | apply Kd.R_alloc | apply Kd.R_drewN | apply Kd.R_drew)); exact HO104.out, by repeat (first | (with_reducible first | exact HB.out | apply below_alloc | apply pw_below_drewN | apply below_drew1) | exact HB.out)⟩
            ·rw [if_neg c19] at H
             have c19f : ¬ (1 < ((x0_1.size - (x5_1 : Int).toNat : Nat) : Int)) := by simpa only [ByteArray.size_extract, Nat.min_self] using c19
             have c19f0 := eq_false c19f
             have c19f1 : decide (1 < ((x0_1.size - (x5_1 : Int).toNat : Nat) : Int)) = false := decide_eq_false c19f
             have c19f2 : decide (1 < (x0_1.size - (x5_1 : Int).toNat)) = false := decide_eq_false (by omega)
             have c19f3 : (1 < (x0_1.size - (x5_1 : Int).toNat)) = False := eq_false (by omega)
             clear c19f
             exact absurd H (by simp)
           ·rw [if_neg c18] at H
            have c18b0 : ((bt (x0_1.extract (x5_1 : Int).toNat x0_1.size) 0) == 46) = false := beq_eq_false_iff_ne.mpr c18
            have c18b1 : ((bt (x0_1.extract (x5_1 : Int).toNat x0_1.size) 0) != 46) = true := bne_iff_ne.mpr c18
            simp only [Option.some.injEq, Prod.mk.injEq] at H
            obtain ⟨rfl, rfl⟩ := H
            go_wp2_with (first | ((with_reducible refine gate_builtin (b := .append) (xs := #[.tmp 22, .tmp 26]) rfl ?_); at_builtin; refine Kd.R_append Kd.string (w0 := w) w.heap.size rfl (.tmp 22) (.tmp 26) 54 9 (.string ⟨#[]⟩) 16 rfl Tryd.underlying54 info9 rfl (by decide) (by omega) u4 x4_1 (x0_1.extract 0 (x5_1 : Int).toNat) [.string (x0_1.extract 0 (x5_1 : Int).toNat)] (fun _ => True) (fun _ => False) rfl rfl ?aP (fun _ hk => hk.elim) ?aF ?aO ?aB ?aS ?aL ?_; (case aP => exact rfl); (case aB => exact (by repeat (first | (with_reducible first | exact HB.out | apply below_alloc | apply pw_below_drewN | apply below_drew1) | exact HB.out))); (case aF => exact (fun _ _ => trivial)); (case aO => exact (by (with_reducible repeat (first | apply Kd.R_alloc | apply Kd.R_drewN | apply Kd.R_drew)); exact HO_4.out)); (case aS => exact (below_size (by repeat (first | (with_reducible first | exact HB.out | apply below_alloc | apply pw_below_drewN | apply below_drew1) | exact HB.out)))); (case aL => have := LMc11.out; omega); intro v103 w26 ho hb hg hat; rw [← Ny102.out] at ho; have n0_ := Aside0.mk (hb); have n1_ := Aside0.mk (ho); clear HB; clear HO_4; have HB := n0_; have HO104 := n1_; clear n0_ n1_; clear ho hb hg hat; have p17 : 0 ≤ (0 : Int) := (by omega); have q17 : 0 < (x0_1.extract (x5_1 : Int).toNat x0_1.size).size := (by have : (0 : Int) < ((x0_1.extract (x5_1 : Int).toNat x0_1.size).size : Int) := of_decide_eq_true (by assumption); omega); have hx17 : ∀ h : 0 < (x0_1.extract (x5_1 : Int).toNat x0_1.size).size, (((x0_1.extract (x5_1 : Int).toNat x0_1.size)[0]'h).toNat : Int) = bt (x0_1.extract (x5_1 : Int).toNat x0_1.size) 0 := bt_at (x0_1.extract (x5_1 : Int).toNat x0_1.size) 0; clear p17; have qi17 : (0 < ((x0_1.extract (x5_1 : Int).toNat x0_1.size).size : Int)) = True := eq_true (of_decide_eq_true (by assumption)); replace q17 := eq_true q17))
            go_ret2
            exact ⟨_, by first | rfl | (simp [errW_none, errW_some] <;> rfl) | (simp [*, errW_none, errW_some] <;> rfl), by (with_reducible repeat (first | apply Kd.R_alloc | apply Kd.R_drewN | apply Kd.R_drew)); exact HO104.out, by repeat (first | (with_reducible first | exact HB.out | apply below_alloc | apply pw_below_drewN | apply below_drew1) | exact HB.out)⟩
          ·rw [if_neg c16] at H
           have c16f : ¬ (0 < ((x0_1.size - (x5_1 : Int).toNat : Nat) : Int)) := by simpa only [ByteArray.size_extract, Nat.min_self] using c16
           have c16f0 := eq_false c16f
           have c16f1 : decide (0 < ((x0_1.size - (x5_1 : Int).toNat : Nat) : Int)) = false := decide_eq_false c16f
           have c16f2 : decide (0 < (x0_1.size - (x5_1 : Int).toNat)) = false := decide_eq_false (by omega)
           have c16f3 : (0 < (x0_1.size - (x5_1 : Int).toNat)) = False := eq_false (by omega)
           clear c16f
           exact absurd H (by simp)
        ·rw [if_neg c11] at H
         exact absurd H (by simp)
       ·rw [if_neg c10] at H
        exact absurd H (by simp)
      ·rw [if_neg c9] at H
       exact absurd H (by simp)
def spec_verWhite.f (a0 : Int) : Option (Bool) := if a0 = 32 then (some true) else (if a0 = 9 then (some true) else (if a0 = 10 then (some true) else (if a0 = 12 then (some true) else (some (a0 == 13)))))
set_option maxHeartbeats 8000000 in
set_option maxRecDepth 100000 in
theorem spec_verWhite.calls (a0 : Int) (r : Bool) (w : World) (h : spec_verWhite.f a0 = some r) :
  Calls Tryd.prog 50 #[.int .u8 a0] w fun e w' => e = .returned (.bool r) ∧ Drawn0 w w' := by
 have H : (if a0 = 32 then (some true) else (if a0 = 9 then (some true) else (if a0 = 10 then (some true) else (if a0 = 12 then (some true) else (some (a0 == 13)))))) = some r := h
 clear h
 by_cases c2 : a0 = 32
 ·rw [if_pos c2] at H
  have c2b0 : (a0 == 32) = true := beq_iff_eq.mpr c2
  have c2b1 : (a0 != 32) = false := bne_eq_false_iff_eq.mpr c2
  clear c2
  obtain rfl := Option.some.inj H
  go_enter Tryd.func50, Tryd.ntmps50
  go_wp2
  go_ret
  exact ⟨by first | rfl | (simp; done) | (simp [*]; done), by repeat (first | exact Drawn0.refl _ | apply Drawn0.step)⟩
 ·rw [if_neg c2] at H
  have c2b0 : (a0 == 32) = false := beq_eq_false_iff_ne.mpr c2
  have c2b1 : (a0 != 32) = true := bne_iff_ne.mpr c2
  by_cases c3 : a0 = 9
  ·rw [if_pos c3] at H
   have c3b0 : (a0 == 9) = true := beq_iff_eq.mpr c3
   have c3b1 : (a0 != 9) = false := bne_eq_false_iff_eq.mpr c3
   clear c3
   obtain rfl := Option.some.inj H
   go_enter Tryd.func50, Tryd.ntmps50
   go_wp2
   go_ret
   exact ⟨by first | rfl | (simp; done) | (simp [*]; done), by repeat (first | exact Drawn0.refl _ | apply Drawn0.step)⟩
  ·rw [if_neg c3] at H
   have c3b0 : (a0 == 9) = false := beq_eq_false_iff_ne.mpr c3
   have c3b1 : (a0 != 9) = true := bne_iff_ne.mpr c3
   by_cases c4 : a0 = 10
   ·rw [if_pos c4] at H
    have c4b0 : (a0 == 10) = true := beq_iff_eq.mpr c4
    have c4b1 : (a0 != 10) = false := bne_eq_false_iff_eq.mpr c4
    clear c4
    obtain rfl := Option.some.inj H
    go_enter Tryd.func50, Tryd.ntmps50
    go_wp2
    go_ret
    exact ⟨by first | rfl | (simp; done) | (simp [*]; done), by repeat (first | exact Drawn0.refl _ | apply Drawn0.step)⟩
   ·rw [if_neg c4] at H
    have c4b0 : (a0 == 10) = false := beq_eq_false_iff_ne.mpr c4
    have c4b1 : (a0 != 10) = true := bne_iff_ne.mpr c4
    by_cases c5 : a0 = 12
    ·rw [if_pos c5] at H
     have c5b0 : (a0 == 12) = true := beq_iff_eq.mpr c5
     have c5b1 : (a0 != 12) = false := bne_eq_false_iff_eq.mpr c5
     clear c5
     obtain rfl := Option.some.inj H
     go_enter Tryd.func50, Tryd.ntmps50
     go_wp2
     go_ret
     exact ⟨by first | rfl | (simp; done) | (simp [*]; done), by repeat (first | exact Drawn0.refl _ | apply Drawn0.step)⟩
    ·rw [if_neg c5] at H
     have c5b0 : (a0 == 12) = false := beq_eq_false_iff_ne.mpr c5
     have c5b1 : (a0 != 12) = true := bne_iff_ne.mpr c5
     obtain rfl := Option.some.inj H
     go_enter Tryd.func50, Tryd.ntmps50
     go_wp2
     go_ret
     exact ⟨by first | rfl | (simp; done) | (simp [*]; done), by repeat (first | exact Drawn0.refl _ | apply Drawn0.step)⟩
def spec_verAhead.l0 : Nat → ByteArray → Option (ByteArray)
 | 0, _ => none
 | k + 1, x0 => if x0.toList = ([] : List UInt8) then (some x0) else (if 0 < (x0.size : Int) then ((spec_verWhite.f (bt x0 0)).bind fun t106 => (if t106 = true then (if 1 ≤ (x0.size : Int) then (spec_verAhead.l0 k (x0.extract 1 x0.size)) else (none)) else (if (bt x0 0) = 118 then (if 1 ≤ (x0.size : Int) then (some (x0.extract 1 x0.size)) else (none)) else (some x0)))) else (none))
def spec_verAhead.f (k : Nat) (a0 : ByteArray) : Option (ByteArray) := spec_verAhead.l0 k a0
set_option maxHeartbeats 8000000 in
set_option maxRecDepth 100000 in
theorem spec_verAhead.calls (k : Nat) (a0 : ByteArray) (r : ByteArray) (w : World) (h : spec_verAhead.f k a0 = some r) :
  Calls Tryd.prog 22 #[.string a0] w fun e w' => e = .returned (.string r) ∧ Drawn0 w w' := by
 have H : (spec_verAhead.l0 k a0) = some r := h
 clear h
 have H' := Aside0.mk H
 clear H
 go_enter Tryd.func22, Tryd.ntmps22
 go_wp2
 go_loopg [0] k (fun kq v0 w' => ∃ (x0_1 : ByteArray), v0 = .string x0_1 ∧ Aside0 (spec_verAhead.l0 kq x0_1 = some r) ∧ Aside0 (kq ≤ k) ∧ Drawn0 w w')
 case atStart => exact ⟨(a0), (by first | rfl | (simp; done) | (simp [*]; done)), H', ⟨Nat.le_refl _⟩, by repeat (first | exact Drawn0.refl _ | apply Drawn0.step)⟩
 case round =>
  clear H'
  obtain ⟨x0_1, rfl, HA, HK1, ⟨m1, rfl⟩⟩ := hrel
  cases gk with
  | zero => exact absurd HA.out (by simp [spec_verAhead.l0])
  | succ k1 =>
   have H := HA.out
   clear HA
   simp only [spec_verAhead.l0] at H
   by_cases c2 : x0_1.toList = ([] : List UInt8)
   ·rw [if_pos c2] at H
    have c2b0 : (x0_1.toList == ([] : List UInt8)) = true := beq_iff_eq.mpr c2
    have c2b1 : (x0_1.toList != ([] : List UInt8)) = false := bne_eq_false_iff_eq.mpr c2
    clear c2
    obtain rfl := Option.some.inj H
    go_wp2
    go_ret
    exact ⟨by first | rfl | (simp; done) | (simp [*]; done), by repeat (first | exact Drawn0.refl _ | apply Drawn0.step)⟩
   ·rw [if_neg c2] at H
    have c2b0 : (x0_1.toList == ([] : List UInt8)) = false := beq_eq_false_iff_ne.mpr c2
    have c2b1 : (x0_1.toList != ([] : List UInt8)) = true := bne_iff_ne.mpr c2
    by_cases c3 : 0 < (x0_1.size : Int)
    ·rw [if_pos c3] at H
     have c3b0 : decide (0 < (x0_1.size : Int)) = true := decide_eq_true c3
     have c3b1 : decide (0 < x0_1.size) = true := decide_eq_true (by omega)
     clear c3
     replace H := Option.bind_eq_some_iff.mp H
     obtain ⟨t106, A50, H⟩ := H
     replace H : (if t106 = true then (if 1 ≤ (x0_1.size : Int) then (spec_verAhead.l0 k1 (x0_1.extract 1 x0_1.size)) else (none)) else (if (bt x0_1 0) = 118 then (if 1 ≤ (x0_1.size : Int) then (some (x0_1.extract 1 x0_1.size)) else (none)) else (some x0_1))) = some r := H
     have A5 := Aside0.mk A50
     clear A50
     by_cases c6 : t106 = true
     ·subst c6
      have H1 : (if 1 ≤ (x0_1.size : Int) then (spec_verAhead.l0 k1 (x0_1.extract 1 x0_1.size)) else (none)) = some r := by rw [if_pos rfl] at H; exact H
      clear H
      have H := H1
      clear H1
      by_cases c7 : 1 ≤ (x0_1.size : Int)
      ·rw [if_pos c7] at H
       have c7b0 := eq_true c7
       have c7b1 : decide (1 ≤ (x0_1.size : Int)) = true := decide_eq_true c7
       clear c7
       have H' := Aside0.mk H
       clear H
       have p4 : 0 ≤ (0 : Int) := (by omega)
       have q4 : 0 < x0_1.size := (by have : (0 : Int) < (x0_1.size : Int) := of_decide_eq_true (by assumption); omega)
       have hx4 : ∀ h : 0 < x0_1.size, ((x0_1[0]'h).toNat : Int) = bt x0_1 0 := bt_at x0_1 0
       clear p4
       have qi4 : (0 < (x0_1.size : Int)) = True := eq_true (of_decide_eq_true (by assumption))
       replace q4 := eq_true q4
       go_wp2_with (first | (go_at_call 50; (with_reducible refine (spec_verWhite.calls (bt x0_1 0) true _ A5.out).mono ?_); rintro e w' ⟨rfl, ⟨nd, rfl⟩⟩))
       go_roundg k1
       case measure => have := HK1.out; omega
       case rel => exact ⟨(x0_1.extract 1 x0_1.size), (by first | rfl | (simp; done) | (simp [*]; done)), H', ⟨by have := HK1.out; omega⟩, by repeat (first | exact Drawn0.refl _ | apply Drawn0.step)⟩
      ·rw [if_neg c7] at H
       exact absurd H (by simp)
     ·replace c6 := Bool.eq_false_iff.mpr c6
      subst c6
      have H1 : (if (bt x0_1 0) = 118 then (if 1 ≤ (x0_1.size : Int) then (some (x0_1.extract 1 x0_1.size)) else (none)) else (some x0_1)) = some r := by rw [if_neg (show ¬ (false = true) by decide)] at H; exact H
      clear H
      have H := H1
      clear H1
      by_cases c9 : (bt x0_1 0) = 118
      ·rw [if_pos c9] at H
       have c9b0 : ((bt x0_1 0) == 118) = true := beq_iff_eq.mpr c9
       have c9b1 : ((bt x0_1 0) != 118) = false := bne_eq_false_iff_eq.mpr c9
       clear c9
       by_cases c10 : 1 ≤ (x0_1.size : Int)
       ·rw [if_pos c10] at H
        have c10b0 := eq_true c10
        have c10b1 : decide (1 ≤ (x0_1.size : Int)) = true := decide_eq_true c10
        clear c10
        obtain rfl := Option.some.inj H
        have p4 : 0 ≤ (0 : Int) := (by omega)
        have q4 : 0 < x0_1.size := (by have : (0 : Int) < (x0_1.size : Int) := of_decide_eq_true (by assumption); omega)
        have hx4 : ∀ h : 0 < x0_1.size, ((x0_1[0]'h).toNat : Int) = bt x0_1 0 := bt_at x0_1 0
        clear p4
        have qi4 : (0 < (x0_1.size : Int)) = True := eq_true (of_decide_eq_true (by assumption))
        replace q4 := eq_true q4
        go_wp2_with (first | (go_at_call 50; (with_reducible refine (spec_verWhite.calls (bt x0_1 0) false _ A5.out).mono ?_); rintro e w' ⟨rfl, ⟨nd, rfl⟩⟩; have p8 : 0 ≤ (0 : Int) := (by omega); have q8 : 0 < x0_1.size := (by have : (0 : Int) < (x0_1.size : Int) := of_decide_eq_true (by assumption); omega); have hx8 : ∀ h : 0 < x0_1.size, ((x0_1[0]'h).toNat : Int) = bt x0_1 0 := bt_at x0_1 0; clear p8; have qi8 : (0 < (x0_1.size : Int)) = True := eq_true (of_decide_eq_true (by assumption)); replace q8 := eq_true q8))
        go_ret
        exact ⟨by first | rfl | (simp; done) | (simp [*]; done), by repeat (first | exact Drawn0.refl _ | apply Drawn0.step)⟩
       ·rw [if_neg c10] at H
        exact absurd H (by simp)
      ·rw [if_neg c9] at H
       have c9b0 : ((bt x0_1 0) == 118) = false := beq_eq_false_iff_ne.mpr c9
       have c9b1 : ((bt x0_1 0) != 118) = true := bne_iff_ne.mpr c9
       obtain rfl := Option.some.inj H
       have p4 : 0 ≤ (0 : Int) := (by omega)
       have q4 : 0 < x0_1.size := (by have : (0 : Int) < (x0_1.size : Int) := of_decide_eq_true (by assumption); omega)
       have hx4 : ∀ h : 0 < x0_1.size, ((x0_1[0]'h).toNat : Int) = bt x0_1 0 := bt_at x0_1 0
       clear p4
       have qi4 : (0 < (x0_1.size : Int)) = True := eq_true (of_decide_eq_true (by assumption))
       replace q4 := eq_true q4
       go_wp2_with (first | (go_at_call 50; (with_reducible refine (spec_verWhite.calls (bt x0_1 0) false _ A5.out).mono ?_); rintro e w' ⟨rfl, ⟨nd, rfl⟩⟩; have p8 : 0 ≤ (0 : Int) := (by omega); have q8 : 0 < x0_1.size := (by have : (0 : Int) < (x0_1.size : Int) := of_decide_eq_true (by assumption); omega); have hx8 : ∀ h : 0 < x0_1.size, ((x0_1[0]'h).toNat : Int) = bt x0_1 0 := bt_at x0_1 0; clear p8; have qi8 : (0 < (x0_1.size : Int)) = True := eq_true (of_decide_eq_true (by assumption)); replace q8 := eq_true q8))
       go_ret
       exact ⟨by first | rfl | (simp; done) | (simp [*]; done), by repeat (first | exact Drawn0.refl _ | apply Drawn0.step)⟩
    ·rw [if_neg c3] at H
     exact absurd H (by simp)
def spec_verPlace.l0 : Nat → ByteArray → Int → Int → Option (Int)
 | 0, _, _, _ => none
 | k + 1, x0, x1, x5 => if x5 < (x0.size : Int) then (if 0 ≤ x5 then (if (bt x0 x5) = x1 then (some x5) else (spec_verPlace.l0 k x0 x1 (wrap64 (x5 + 1)))) else (none)) else (some (-1))
def spec_verPlace.f (k : Nat) (a0 : ByteArray) (a1 : Int) : Option (Int) := spec_verPlace.l0 k a0 a1 0
set_option maxHeartbeats 8000000 in
set_option maxRecDepth 100000 in
theorem spec_verPlace.calls (k : Nat) (a0 : ByteArray) (a1 : Int) (r : Int) (w : World) (h : spec_verPlace.f k a0 a1 = some r) :
  Calls Tryd.prog 23 #[.string a0, .int .u8 a1] w fun e w' => e = .returned (.int .i64 r) ∧ Drawn0 w w' := by
 have H : (spec_verPlace.l0 k a0 a1 0) = some r := h
 clear h
 have H' := Aside0.mk H
 clear H
 go_enter Tryd.func23, Tryd.ntmps23
 go_wp2
 go_loopg [5] k (fun kq v5 w' => ∃ (x5_1 : Int), v5 = .int .i64 x5_1 ∧ Aside0 (spec_verPlace.l0 kq a0 a1 x5_1 = some r) ∧ Aside0 (kq ≤ k) ∧ Drawn0 w w')
 case atStart => exact ⟨(0), (by first | rfl | (simp; done) | (simp [*]; done)), H', ⟨Nat.le_refl _⟩, by repeat (first | exact Drawn0.refl _ | apply Drawn0.step)⟩
 case round =>
  clear H'
  try clear c2
  try clear p2
  obtain ⟨x5_1, rfl, HA, HK1, ⟨m1, rfl⟩⟩ := hrel
  cases gk with
  | zero => exact absurd HA.out (by simp [spec_verPlace.l0])
  | succ k1 =>
   have H := HA.out
   clear HA
   simp only [spec_verPlace.l0] at H
   by_cases c3 : x5_1 < (a0.size : Int)
   ·rw [if_pos c3] at H
    have c3b0 : decide (x5_1 < (a0.size : Int)) = true := decide_eq_true c3
    clear c3
    by_cases c4 : 0 ≤ x5_1
    ·rw [if_pos c4] at H
     have c4b0 : decide (0 ≤ x5_1) = true := decide_eq_true c4
     clear c4
     by_cases c6 : (bt a0 x5_1) = a1
     ·rw [if_pos c6] at H
      have c6b0 : ((bt a0 x5_1) == a1) = true := beq_iff_eq.mpr c6
      have c6b1 : ((bt a0 x5_1) != a1) = false := bne_eq_false_iff_eq.mpr c6
      clear c6
      obtain rfl := Option.some.inj H
      have p5 : 0 ≤ (x5_1 : Int) := of_decide_eq_true (by assumption)
      have q5 : x5_1 < (a0.size : Int) := of_decide_eq_true (by assumption)
      have hx5 := bt_at a0 x5_1
      replace p5 := eq_true p5
      replace q5 := eq_true q5
      go_wp2
      go_ret
      exact ⟨by first | rfl | (simp; done) | (simp [*]; done), by repeat (first | exact Drawn0.refl _ | apply Drawn0.step)⟩
     ·rw [if_neg c6] at H
      have c6b0 : ((bt a0 x5_1) == a1) = false := beq_eq_false_iff_ne.mpr c6
      have c6b1 : ((bt a0 x5_1) != a1) = true := bne_iff_ne.mpr c6
      have H' := Aside0.mk H
      clear H
      have p5 : 0 ≤ (x5_1 : Int) := of_decide_eq_true (by assumption)
      have q5 : x5_1 < (a0.size : Int) := of_decide_eq_true (by assumption)
      have hx5 := bt_at a0 x5_1
      replace p5 := eq_true p5
      replace q5 := eq_true q5
      go_wp2
      go_roundg k1
      case measure => have := HK1.out; omega
      case rel => exact ⟨(wrap64 (x5_1 + 1)), (by first | rfl | (simp; done) | (simp [*]; done)), H', ⟨by have := HK1.out; omega⟩, by repeat (first | exact Drawn0.refl _ | apply Drawn0.step)⟩
    ·rw [if_neg c4] at H
     exact absurd H (by simp)
   ·rw [if_neg c3] at H
    have c3b0 : decide (x5_1 < (a0.size : Int)) = false := decide_eq_false c3
    clear c3
    obtain rfl := Option.some.inj H
    go_wp2
    go_ret
    exact ⟨by first | rfl | (simp; done) | (simp [*]; done), by repeat (first | exact Drawn0.refl _ | apply Drawn0.step)⟩
def spec_VerLong.l0 : Nat → ByteArray → Int → Int → Option (Bool)
 | 0, _, _, _ => none
 | k + 1, x0, x3, x4 => if x4 < (x0.size : Int) then (if 0 ≤ x4 then ((spec_verDigit.f (bt x0 x4)).bind fun t107 => (if t107 = true then (if (wrap64 (x3 + 1)) ≥ 20 then (some true) else (spec_VerLong.l0 k x0 (wrap64 (x3 + 1)) (wrap64 (x4 + 1)))) else (if 0 ≥ 20 then (some true) else (spec_VerLong.l0 k x0 0 (wrap64 (x4 + 1)))))) else (none)) else (some false)
def spec_VerLong.f (k : Nat) (a0 : ByteArray) : Option (Bool) := spec_VerLong.l0 k a0 0 0
set_option maxHeartbeats 8000000 in
set_option maxRecDepth 100000 in
theorem spec_VerLong.calls (k : Nat) (a0 : ByteArray) (r : Bool) (w : World) (h : spec_VerLong.f k a0 = some r) :
  Calls Tryd.prog 24 #[.string a0] w fun e w' => e = .returned (.bool r) ∧ Drawn0 w w' := by
 have H : (spec_VerLong.l0 k a0 0 0) = some r := h
 clear h
 have H' := Aside0.mk H
 clear H
 go_enter Tryd.func24, Tryd.ntmps24
 go_wp2
 go_loopg [3, 4] k (fun kq v3 v4 w' => ∃ (x3_1 : Int) (x4_1 : Int), v3 = .int .i64 x3_1 ∧ v4 = .int .i64 x4_1 ∧ Aside0 (spec_VerLong.l0 kq a0 x3_1 x4_1 = some r) ∧ Aside0 (kq ≤ k) ∧ Drawn0 w w')
 case atStart => exact ⟨(0), (0), (by first | rfl | (simp; done) | (simp [*]; done)), (by first | rfl | (simp; done) | (simp [*]; done)), H', ⟨Nat.le_refl _⟩, by repeat (first | exact Drawn0.refl _ | apply Drawn0.step)⟩
 case round =>
  clear H'
  obtain ⟨x3_1, x4_1, rfl, rfl, HA, HK1, ⟨m1, rfl⟩⟩ := hrel
  cases gk with
  | zero => exact absurd HA.out (by simp [spec_VerLong.l0])
  | succ k1 =>
   have H := HA.out
   clear HA
   simp only [spec_VerLong.l0] at H
   by_cases c2 : x4_1 < (a0.size : Int)
   ·rw [if_pos c2] at H
    have c2b0 : decide (x4_1 < (a0.size : Int)) = true := decide_eq_true c2
    clear c2
    by_cases c3 : 0 ≤ x4_1
    ·rw [if_pos c3] at H
     have c3b0 : decide (0 ≤ x4_1) = true := decide_eq_true c3
     clear c3
     replace H := Option.bind_eq_some_iff.mp H
     obtain ⟨t107, A50, H⟩ := H
     replace H : (if t107 = true then (if (wrap64 (x3_1 + 1)) ≥ 20 then (some true) else (spec_VerLong.l0 k1 a0 (wrap64 (x3_1 + 1)) (wrap64 (x4_1 + 1)))) else (if 0 ≥ 20 then (some true) else (spec_VerLong.l0 k1 a0 0 (wrap64 (x4_1 + 1))))) = some r := H
     have A5 := Aside0.mk A50
     clear A50
     by_cases c6 : t107 = true
     ·subst c6
      have H1 : (if (wrap64 (x3_1 + 1)) ≥ 20 then (some true) else (spec_VerLong.l0 k1 a0 (wrap64 (x3_1 + 1)) (wrap64 (x4_1 + 1)))) = some r := by rw [if_pos rfl] at H; exact H
      clear H
      have H := H1
      clear H1
      by_cases c7 : (wrap64 (x3_1 + 1)) ≥ 20
      ·rw [if_pos c7] at H
       have c7b0 : decide (20 ≤ (wrap64 (x3_1 + 1))) = true := decide_eq_true c7
       clear c7
       obtain rfl := Option.some.inj H
       have p4 : 0 ≤ (x4_1 : Int) := of_decide_eq_true (by assumption)
       have q4 : x4_1 < (a0.size : Int) := of_decide_eq_true (by assumption)
       have hx4 := bt_at a0 x4_1
       replace p4 := eq_true p4
       replace q4 := eq_true q4
       go_wp2_with (first | ((with_reducible refine gate_callee (f := 49) rfl ?_); refine goesL_ (some 16) rfl rfl Tryd.func49 (by kernel_rfl) rfl #[.int .u8 (bt a0 x4_1)] rfl (by (try simp only [List.map_toArray, List.map_cons, List.map_nil]); first | done | rfl | (simp only [List.length_drop, List.length_take]; rfl)) ?_; (with_reducible refine (spec_verDigit.calls (bt a0 x4_1) true _ A5.out).mono ?_); rintro e w' ⟨rfl, ⟨nd, rfl⟩⟩; refine ⟨_, rfl, ?_⟩))
       go_ret
       exact ⟨by first | rfl | (simp; done) | (simp [*]; done), by repeat (first | exact Drawn0.refl _ | apply Drawn0.step)⟩
      ·rw [if_neg c7] at H
       have c7b0 : decide (20 ≤ (wrap64 (x3_1 + 1))) = false := decide_eq_false c7
       clear c7
       have H' := Aside0.mk H
       clear H
       have p4 : 0 ≤ (x4_1 : Int) := of_decide_eq_true (by assumption)
       have q4 : x4_1 < (a0.size : Int) := of_decide_eq_true (by assumption)
       have hx4 := bt_at a0 x4_1
       replace p4 := eq_true p4
       replace q4 := eq_true q4
       go_wp2_with (first | ((with_reducible refine gate_callee (f := 49) rfl ?_); refine goesL_ (some 16) rfl rfl Tryd.func49 (by kernel_rfl) rfl #[.int .u8 (bt a0 x4_1)] rfl (by (try simp only [List.map_toArray, List.map_cons, List.map_nil]); first | done | rfl | (simp only [List.length_drop, List.length_take]; rfl)) ?_; (with_reducible refine (spec_verDigit.calls (bt a0 x4_1) true _ A5.out).mono ?_); rintro e w' ⟨rfl, ⟨nd, rfl⟩⟩; refine ⟨_, rfl, ?_⟩))
       go_roundg k1
       case measure => have := HK1.out; omega
       case rel => exact ⟨(wrap64 (x3_1 + 1)), (wrap64 (x4_1 + 1)), (by first | rfl | (simp; done) | (simp [*]; done)), (by first | rfl | (simp; done) | (simp [*]; done)), H', ⟨by have := HK1.out; omega⟩, by repeat (first | exact Drawn0.refl _ | apply Drawn0.step)⟩
     ·replace c6 := Bool.eq_false_iff.mpr c6
      subst c6
      have H1 : (if 0 ≥ 20 then (some true) else (spec_VerLong.l0 k1 a0 0 (wrap64 (x4_1 + 1)))) = some r := by rw [if_neg (show ¬ (false = true) by decide)] at H; exact H
      clear H
      have H := H1
      clear H1
      by_cases c8 : 0 ≥ 20
      ·exact absurd c8 (by decide)
      ·rw [if_neg c8] at H
       have c8b0 : decide (20 ≤ 0) = false := decide_eq_false c8
       clear c8
       have H' := Aside0.mk H
       clear H
       have p4 : 0 ≤ (x4_1 : Int) := of_decide_eq_true (by assumption)
       have q4 : x4_1 < (a0.size : Int) := of_decide_eq_true (by assumption)
       have hx4 := bt_at a0 x4_1
       replace p4 := eq_true p4
       replace q4 := eq_true q4
       go_wp2_with (first | ((with_reducible refine gate_callee (f := 49) rfl ?_); refine goesL_ (some 16) rfl rfl Tryd.func49 (by kernel_rfl) rfl #[.int .u8 (bt a0 x4_1)] rfl (by (try simp only [List.map_toArray, List.map_cons, List.map_nil]); first | done | rfl | (simp only [List.length_drop, List.length_take]; rfl)) ?_; (with_reducible refine (spec_verDigit.calls (bt a0 x4_1) false _ A5.out).mono ?_); rintro e w' ⟨rfl, ⟨nd, rfl⟩⟩; refine ⟨_, rfl, ?_⟩))
       go_roundg k1
       case measure => have := HK1.out; omega
       case rel => exact ⟨(0), (wrap64 (x4_1 + 1)), (by first | rfl | (simp; done) | (simp [*]; done)), (by first | rfl | (simp; done) | (simp [*]; done)), H', ⟨by have := HK1.out; omega⟩, by repeat (first | exact Drawn0.refl _ | apply Drawn0.step)⟩
    ·rw [if_neg c3] at H
     exact absurd H (by simp)
   ·rw [if_neg c2] at H
    have c2b0 : decide (x4_1 < (a0.size : Int)) = false := decide_eq_false c2
    clear c2
    obtain rfl := Option.some.inj H
    go_wp2
    go_ret
    exact ⟨by first | rfl | (simp; done) | (simp [*]; done), by repeat (first | exact Drawn0.refl _ | apply Drawn0.step)⟩
end Go.Proofs.YtmfgkidppchobaaDoor.XFnVersionCompare

