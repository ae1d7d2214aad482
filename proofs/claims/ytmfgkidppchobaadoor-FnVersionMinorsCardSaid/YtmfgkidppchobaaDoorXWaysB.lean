/- A text of this session: the functions of the law FnVersionWays, by a program that calls the kit's print and lays this session's own contracts of single functions beside. -/
import Derived.Test.YtmfgkidppchobaaDoorXFnVersionWaysx0
import Derived.Test.YtmfgkidppchobaaDoorXWaysA
namespace Go.Proofs.YtmfgkidppchobaaDoor.XFnVersionWays
open Go.RowKit Go.Proofs.YtmfgkidppchobaaDoorW.PrintWords Go.Proofs.YtmfgkidppchobaaDoorW.PrintLast Go.Proofs.YtmfgkidppchobaaDoorW.PrintMore
attribute [local go_sem] max2_int min2_int max_two min_two max_three min_three max_four min_four
set_option linter.unusedVariables false
set_option linter.unusedSimpArgs false
mutual
def version_zzWords.l0 : Nat → ByteArray → Int → Int → Option (Int)
 | 0, _, _, _ => none
 | k + 1, x0, x1, x5 => version_zzWords.l1 k x0 x1 x5 x1
def version_zzWords.j2 : Nat → ByteArray → Int → Int → Int → Option (Int)
 | 0, _, _, _, _ => none
 | k + 1, x0, x1, x5, x6 => if x6 = x1 then (some x5) else (if x6 = (x0.size : Int) then (some x6) else (if 0 ≤ x6 then (if x6 < (x0.size : Int) then (if (bt x0 x6) = 46 then (version_zzWords.l0 k x0 (wrap64 (x6 + 1)) x6) else (some x6)) else (none)) else (none)))
def version_zzWords.l1 : Nat → ByteArray → Int → Int → Int → Option (Int)
 | 0, _, _, _, _ => none
 | k + 1, x0, x1, x5, x6 => if x6 < (x0.size : Int) then (if 0 ≤ x6 then (if 48 ≤ (bt x0 x6) then (if (bt x0 x6) ≤ 57 then (version_zzWords.l1 k x0 x1 x5 (wrap64 (x6 + 1))) else (if 65 ≤ (bt x0 x6) then (if (bt x0 x6) ≤ 90 then (version_zzWords.l1 k x0 x1 x5 (wrap64 (x6 + 1))) else (if 97 ≤ (bt x0 x6) then (if (bt x0 x6) ≤ 122 then (version_zzWords.l1 k x0 x1 x5 (wrap64 (x6 + 1))) else (if (bt x0 x6) = 45 then (version_zzWords.l1 k x0 x1 x5 (wrap64 (x6 + 1))) else (version_zzWords.j2 k x0 x1 x5 x6))) else (if (bt x0 x6) = 45 then (version_zzWords.l1 k x0 x1 x5 (wrap64 (x6 + 1))) else (version_zzWords.j2 k x0 x1 x5 x6)))) else (if 97 ≤ (bt x0 x6) then (if (bt x0 x6) ≤ 122 then (version_zzWords.l1 k x0 x1 x5 (wrap64 (x6 + 1))) else (if (bt x0 x6) = 45 then (version_zzWords.l1 k x0 x1 x5 (wrap64 (x6 + 1))) else (version_zzWords.j2 k x0 x1 x5 x6))) else (if (bt x0 x6) = 45 then (version_zzWords.l1 k x0 x1 x5 (wrap64 (x6 + 1))) else (version_zzWords.j2 k x0 x1 x5 x6))))) else (if 65 ≤ (bt x0 x6) then (if (bt x0 x6) ≤ 90 then (version_zzWords.l1 k x0 x1 x5 (wrap64 (x6 + 1))) else (if 97 ≤ (bt x0 x6) then (if (bt x0 x6) ≤ 122 then (version_zzWords.l1 k x0 x1 x5 (wrap64 (x6 + 1))) else (if (bt x0 x6) = 45 then (version_zzWords.l1 k x0 x1 x5 (wrap64 (x6 + 1))) else (version_zzWords.j2 k x0 x1 x5 x6))) else (if (bt x0 x6) = 45 then (version_zzWords.l1 k x0 x1 x5 (wrap64 (x6 + 1))) else (version_zzWords.j2 k x0 x1 x5 x6)))) else (if 97 ≤ (bt x0 x6) then (if (bt x0 x6) ≤ 122 then (version_zzWords.l1 k x0 x1 x5 (wrap64 (x6 + 1))) else (if (bt x0 x6) = 45 then (version_zzWords.l1 k x0 x1 x5 (wrap64 (x6 + 1))) else (version_zzWords.j2 k x0 x1 x5 x6))) else (if (bt x0 x6) = 45 then (version_zzWords.l1 k x0 x1 x5 (wrap64 (x6 + 1))) else (version_zzWords.j2 k x0 x1 x5 x6))))) else (none)) else (version_zzWords.j2 k x0 x1 x5 x6)
end
def version_zzWords.f (k : Nat) (a0 : ByteArray) (a1 : Int) : Option (Int) := version_zzWords.l0 k a0 a1 a1
set_option maxHeartbeats 8000000 in
set_option maxRecDepth 100000 in
theorem version_zzWords.calls (k : Nat) (a0 : ByteArray) (a1 : Int) (r : Int) (w : World) (h : version_zzWords.f k a0 a1 = some r) :
  Calls Tryd.prog 88 #[.string a0, .int .i64 a1] w fun e w' => e = .returned (.int .i64 r) ∧ Drawn0 w w' := by
 have H : (version_zzWords.l0 k a0 a1 a1) = some r := h
 clear h
 have H' := Aside0.mk H
 clear H
 go_enter Tryd.func88, Tryd.ntmps88
 go_wp2
 go_loopg [1, 5] k (fun kq v1 v5 w' => ∃ (x1_1 : Int) (x5_1 : Int), v1 = .int .i64 x1_1 ∧ v5 = .int .i64 x5_1 ∧ Aside0 (version_zzWords.l0 kq a0 x1_1 x5_1 = some r) ∧ Aside0 (kq ≤ k) ∧ Drawn0 w w')
 case atStart => exact ⟨(a1), (a1), (by first | rfl | (simp; done) | (simp [*]; done)), (by first | rfl | (simp; done) | (simp [*]; done)), H', ⟨Nat.le_refl _⟩, by repeat (first | exact Drawn0.refl _ | apply Drawn0.step)⟩
 case round =>
  clear H'
  try clear p2
  obtain ⟨x1_1, x5_1, rfl, rfl, HA, HK1, ⟨m1, rfl⟩⟩ := hrel
  cases gk with
  | zero => exact absurd HA.out (by simp [version_zzWords.l0])
  | succ k1 =>
   have H := HA.out
   clear HA
   simp only [version_zzWords.l0] at H
   have HC3 := Aside0.mk H
   clear H
   go_upto_block 2 with (fail)
   go_cut [6] (fun v6 wc => ∃ (kq : Nat) (x6_2 : Int), v6 = .int .i64 x6_2 ∧ Aside0 (version_zzWords.j2 kq a0 x1_1 x5_1 x6_2 = some r) ∧ Aside0 (kq ≤ k1) ∧ Drawn0 w wc)
   case first =>
    have H := HC3.out
    clear HC3
    have H' := Aside0.mk H
    clear H
    go_wp2
    go_loopg [6] k1 (fun kq v6 w' => ∃ (x6_2 : Int), v6 = .int .i64 x6_2 ∧ Aside0 (version_zzWords.l1 kq a0 x1_1 x5_1 x6_2 = some r) ∧ Aside0 (kq ≤ k1) ∧ Drawn0 w w')
    case atStart => exact ⟨(x1_1), (by first | rfl | (simp; done) | (simp [*]; done)), H', ⟨Nat.le_refl _⟩, by repeat (first | exact Drawn0.refl _ | apply Drawn0.step)⟩
    case round =>
     clear H'
     try clear p2
     try clear p2
     obtain ⟨x6_2, rfl, HA, HK2, ⟨m2, rfl⟩⟩ := hrel
     cases gk with
     | zero => exact absurd HA.out (by simp [version_zzWords.l1])
     | succ k2 =>
      have H := HA.out
      clear HA
      simp only [version_zzWords.l1] at H
      by_cases c4 : x6_2 < (a0.size : Int)
      ·rw [if_pos c4] at H
       have c4b0 : decide (x6_2 < (a0.size : Int)) = true := decide_eq_true c4
       clear c4
       (first | rw [c4b0] | (simp only [i64_w, i32_w]; rw [c4b0]) | skip)
       by_cases c5 : 0 ≤ x6_2
       ·rw [if_pos c5] at H
        have c5b0 : decide (0 ≤ x6_2) = true := decide_eq_true c5
        clear c5
        by_cases c7 : 48 ≤ (bt a0 x6_2)
        ·rw [if_pos c7] at H
         have c7b0 : decide (48 ≤ (bt a0 x6_2)) = true := decide_eq_true c7
         clear c7
         by_cases c9 : (bt a0 x6_2) ≤ 57
         ·rw [if_pos c9] at H
          have c9b0 : decide ((bt a0 x6_2) ≤ 57) = true := decide_eq_true c9
          clear c9
          have H' := Aside0.mk H
          clear H
          have p6 : 0 ≤ (x6_2 : Int) := of_decide_eq_true (by assumption)
          have q6 : x6_2 < (a0.size : Int) := of_decide_eq_true (by assumption)
          have hx6 := bt_at a0 x6_2
          replace p6 := eq_true p6
          replace q6 := eq_true q6
          have p8 : 0 ≤ (x6_2 : Int) := of_decide_eq_true (by assumption)
          have q8 : x6_2 < (a0.size : Int) := of_decide_eq_true (by assumption)
          have hx8 := bt_at a0 x6_2
          replace p8 := eq_true p8
          replace q8 := eq_true q8
          go_wp2
          go_roundg k2
          case measure => have := HK1.out; have := HK2.out; omega
          case rel => exact ⟨(wrap64 (x6_2 + 1)), (by first | rfl | (simp; done) | (simp [*]; done)), H', ⟨by have := HK1.out; have := HK2.out; omega⟩, by repeat (first | exact Drawn0.refl _ | apply Drawn0.step)⟩
         ·rw [if_neg c9] at H
          have c9b0 : decide ((bt a0 x6_2) ≤ 57) = false := decide_eq_false c9
          clear c9
          by_cases c11 : 65 ≤ (bt a0 x6_2)
          ·rw [if_pos c11] at H
           have c11b0 : decide (65 ≤ (bt a0 x6_2)) = true := decide_eq_true c11
           clear c11
           by_cases c13 : (bt a0 x6_2) ≤ 90
           ·rw [if_pos c13] at H
            have c13b0 : decide ((bt a0 x6_2) ≤ 90) = true := decide_eq_true c13
            clear c13
            have H' := Aside0.mk H
            clear H
            have p6 : 0 ≤ (x6_2 : Int) := of_decide_eq_true (by assumption)
            have q6 : x6_2 < (a0.size : Int) := of_decide_eq_true (by assumption)
            have hx6 := bt_at a0 x6_2
            replace p6 := eq_true p6
            replace q6 := eq_true q6
            have p8 : 0 ≤ (x6_2 : Int) := of_decide_eq_true (by assumption)
            have q8 : x6_2 < (a0.size : Int) := of_decide_eq_true (by assumption)
            have hx8 := bt_at a0 x6_2
            replace p8 := eq_true p8
            replace q8 := eq_true q8
            have p10 : 0 ≤ (x6_2 : Int) := of_decide_eq_true (by assumption)
            have q10 : x6_2 < (a0.size : Int) := of_decide_eq_true (by assumption)
            have hx10 := bt_at a0 x6_2
            replace p10 := eq_true p10
            replace q10 := eq_true q10
            have p12 : 0 ≤ (x6_2 : Int) := of_decide_eq_true (by assumption)
            have q12 : x6_2 < (a0.size : Int) := of_decide_eq_true (by assumption)
            have hx12 := bt_at a0 x6_2
            replace p12 := eq_true p12
            replace q12 := eq_true q12
            go_wp2
            go_roundg k2
            case measure => have := HK1.out; have := HK2.out; omega
            case rel => exact ⟨(wrap64 (x6_2 + 1)), (by first | rfl | (simp; done) | (simp [*]; done)), H', ⟨by have := HK1.out; have := HK2.out; omega⟩, by repeat (first | exact Drawn0.refl _ | apply Drawn0.step)⟩
           ·rw [if_neg c13] at H
            have c13b0 : decide ((bt a0 x6_2) ≤ 90) = false := decide_eq_false c13
            clear c13
            by_cases c15 : 97 ≤ (bt a0 x6_2)
            ·rw [if_pos c15] at H
             have c15b0 : decide (97 ≤ (bt a0 x6_2)) = true := decide_eq_true c15
             clear c15
             by_cases c17 : (bt a0 x6_2) ≤ 122
             ·rw [if_pos c17] at H
              have c17b0 : decide ((bt a0 x6_2) ≤ 122) = true := decide_eq_true c17
              clear c17
              have H' := Aside0.mk H
              clear H
              have p6 : 0 ≤ (x6_2 : Int) := of_decide_eq_true (by assumption)
              have q6 : x6_2 < (a0.size : Int) := of_decide_eq_true (by assumption)
              have hx6 := bt_at a0 x6_2
              replace p6 := eq_true p6
              replace q6 := eq_true q6
              have p8 : 0 ≤ (x6_2 : Int) := of_decide_eq_true (by assumption)
              have q8 : x6_2 < (a0.size : Int) := of_decide_eq_true (by assumption)
              have hx8 := bt_at a0 x6_2
              replace p8 := eq_true p8
              replace q8 := eq_true q8
              have p10 : 0 ≤ (x6_2 : Int) := of_decide_eq_true (by assumption)
              have q10 : x6_2 < (a0.size : Int) := of_decide_eq_true (by assumption)
              have hx10 := bt_at a0 x6_2
              replace p10 := eq_true p10
              replace q10 := eq_true q10
              have p12 : 0 ≤ (x6_2 : Int) := of_decide_eq_true (by assumption)
              have q12 : x6_2 < (a0.size : Int) := of_decide_eq_true (by assumption)
              have hx12 := bt_at a0 x6_2
              replace p12 := eq_true p12
              replace q12 := eq_true q12
              have p14 : 0 ≤ (x6_2 : Int) := of_decide_eq_true (by assumption)
              have q14 : x6_2 < (a0.size : Int) := of_decide_eq_true (by assumption)
              have hx14 := bt_at a0 x6_2
              replace p14 := eq_true p14
              replace q14 := eq_true q14
              have p16 : 0 ≤ (x6_2 : Int) := of_decide_eq_true (by assumption)
              have q16 : x6_2 < (a0.size : Int) := of_decide_eq_true (by assumption)
              have hx16 := bt_at a0 x6_2
              replace p16 := eq_true p16
              replace q16 := eq_true q16
              go_wp2
              go_roundg k2
              case measure => have := HK1.out; have := HK2.out; omega
              case rel => exact ⟨(wrap64 (x6_2 + 1)), (by first | rfl | (simp; done) | (simp [*]; done)), H', ⟨by have := HK1.out; have := HK2.out; omega⟩, by repeat (first | exact Drawn0.refl _ | apply Drawn0.step)⟩
             ·rw [if_neg c17] at H
              have c17b0 : decide ((bt a0 x6_2) ≤ 122) = false := decide_eq_false c17
              clear c17
              by_cases c19 : (bt a0 x6_2) = 45
              ·rw [if_pos c19] at H
               have c19b0 : ((bt a0 x6_2) == 45) = true := beq_iff_eq.mpr c19
               have c19b1 : ((bt a0 x6_2) != 45) = false := bne_eq_false_iff_eq.mpr c19
               clear c19
               have H' := Aside0.mk H
               clear H
               have p6 : 0 ≤ (x6_2 : Int) := of_decide_eq_true (by assumption)
               have q6 : x6_2 < (a0.size : Int) := of_decide_eq_true (by assumption)
               have hx6 := bt_at a0 x6_2
               replace p6 := eq_true p6
               replace q6 := eq_true q6
               have p8 : 0 ≤ (x6_2 : Int) := of_decide_eq_true (by assumption)
               have q8 : x6_2 < (a0.size : Int) := of_decide_eq_true (by assumption)
               have hx8 := bt_at a0 x6_2
               replace p8 := eq_true p8
               replace q8 := eq_true q8
               have p10 : 0 ≤ (x6_2 : Int) := of_decide_eq_true (by assumption)
               have q10 : x6_2 < (a0.size : Int) := of_decide_eq_true (by assumption)
               have hx10 := bt_at a0 x6_2
               replace p10 := eq_true p10
               replace q10 := eq_true q10
               have p12 : 0 ≤ (x6_2 : Int) := of_decide_eq_true (by assumption)
               have q12 : x6_2 < (a0.size : Int) := of_decide_eq_true (by assumption)
               have hx12 := bt_at a0 x6_2
               replace p12 := eq_true p12
               replace q12 := eq_true q12
               have p14 : 0 ≤ (x6_2 : Int) := of_decide_eq_true (by assumption)
               have q14 : x6_2 < (a0.size : Int) := of_decide_eq_true (by assumption)
               have hx14 := bt_at a0 x6_2
               replace p14 := eq_true p14
               replace q14 := eq_true q14
               have p16 : 0 ≤ (x6_2 : Int) := of_decide_eq_true (by assumption)
               have q16 : x6_2 < (a0.size : Int) := of_decide_eq_true (by assumption)
               have hx16 := bt_at a0 x6_2
               replace p16 := eq_true p16
               replace q16 := eq_true q16
               have p18 : 0 ≤ (x6_2 : Int) := of_decide_eq_true (by assumption)
               have q18 : x6_2 < (a0.size : Int) := of_decide_eq_true (by assumption)
               have hx18 := bt_at a0 x6_2
               replace p18 := eq_true p18
               replace q18 := eq_true q18
               go_wp2
               go_roundg k2
               case measure => have := HK1.out; have := HK2.out; omega
               case rel => exact ⟨(wrap64 (x6_2 + 1)), (by first | rfl | (simp; done) | (simp [*]; done)), H', ⟨by have := HK1.out; have := HK2.out; omega⟩, by repeat (first | exact Drawn0.refl _ | apply Drawn0.step)⟩
              ·rw [if_neg c19] at H
               have c19b0 : ((bt a0 x6_2) == 45) = false := beq_eq_false_iff_ne.mpr c19
               have c19b1 : ((bt a0 x6_2) != 45) = true := bne_iff_ne.mpr c19
               have H' := Aside0.mk H
               clear H
               have p6 : 0 ≤ (x6_2 : Int) := of_decide_eq_true (by assumption)
               have q6 : x6_2 < (a0.size : Int) := of_decide_eq_true (by assumption)
               have hx6 := bt_at a0 x6_2
               replace p6 := eq_true p6
               replace q6 := eq_true q6
               have p8 : 0 ≤ (x6_2 : Int) := of_decide_eq_true (by assumption)
               have q8 : x6_2 < (a0.size : Int) := of_decide_eq_true (by assumption)
               have hx8 := bt_at a0 x6_2
               replace p8 := eq_true p8
               replace q8 := eq_true q8
               have p10 : 0 ≤ (x6_2 : Int) := of_decide_eq_true (by assumption)
               have q10 : x6_2 < (a0.size : Int) := of_decide_eq_true (by assumption)
               have hx10 := bt_at a0 x6_2
               replace p10 := eq_true p10
               replace q10 := eq_true q10
               have p12 : 0 ≤ (x6_2 : Int) := of_decide_eq_true (by assumption)
               have q12 : x6_2 < (a0.size : Int) := of_decide_eq_true (by assumption)
               have hx12 := bt_at a0 x6_2
               replace p12 := eq_true p12
               replace q12 := eq_true q12
               have p14 : 0 ≤ (x6_2 : Int) := of_decide_eq_true (by assumption)
               have q14 : x6_2 < (a0.size : Int) := of_decide_eq_true (by assumption)
               have hx14 := bt_at a0 x6_2
               replace p14 := eq_true p14
               replace q14 := eq_true q14
               have p16 : 0 ≤ (x6_2 : Int) := of_decide_eq_true (by assumption)
               have q16 : x6_2 < (a0.size : Int) := of_decide_eq_true (by assumption)
               have hx16 := bt_at a0 x6_2
               replace p16 := eq_true p16
               replace q16 := eq_true q16
               have p18 : 0 ≤ (x6_2 : Int) := of_decide_eq_true (by assumption)
               have q18 : x6_2 < (a0.size : Int) := of_decide_eq_true (by assumption)
               have hx18 := bt_at a0 x6_2
               replace p18 := eq_true p18
               replace q18 := eq_true q18
               go_wp2
               go_meet
               case rel => exact ⟨_, (x6_2), (by first | rfl | (simp; done) | (simp [*]; done)), H', ⟨by have := HK1.out; have := HK2.out; first | omega | exact Nat.le_refl _⟩, by repeat (first | exact Drawn0.refl _ | apply Drawn0.step)⟩
            ·rw [if_neg c15] at H
             have c15b0 : decide (97 ≤ (bt a0 x6_2)) = false := decide_eq_false c15
             clear c15
             by_cases c21 : (bt a0 x6_2) = 45
             ·rw [if_pos c21] at H
              have c21b0 : ((bt a0 x6_2) == 45) = true := beq_iff_eq.mpr c21
              have c21b1 : ((bt a0 x6_2) != 45) = false := bne_eq_false_iff_eq.mpr c21
              clear c21
              have H' := Aside0.mk H
              clear H
              have p6 : 0 ≤ (x6_2 : Int) := of_decide_eq_true (by assumption)
              have q6 : x6_2 < (a0.size : Int) := of_decide_eq_true (by assumption)
              have hx6 := bt_at a0 x6_2
              replace p6 := eq_true p6
              replace q6 := eq_true q6
              have p8 : 0 ≤ (x6_2 : Int) := of_decide_eq_true (by assumption)
              have q8 : x6_2 < (a0.size : Int) := of_decide_eq_true (by assumption)
              have hx8 := bt_at a0 x6_2
              replace p8 := eq_true p8
              replace q8 := eq_true q8
              have p10 : 0 ≤ (x6_2 : Int) := of_decide_eq_true (by assumption)
              have q10 : x6_2 < (a0.size : Int) := of_decide_eq_true (by assumption)
              have hx10 := bt_at a0 x6_2
              replace p10 := eq_true p10
              replace q10 := eq_true q10
              have p12 : 0 ≤ (x6_2 : Int) := of_decide_eq_true (by assumption)
              have q12 : x6_2 < (a0.size : Int) := of_decide_eq_true (by assumption)
              have hx12 := bt_at a0 x6_2
              replace p12 := eq_true p12
              replace q12 := eq_true q12
              have p14 : 0 ≤ (x6_2 : Int) := of_decide_eq_true (by assumption)
              have q14 : x6_2 < (a0.size : Int) := of_decide_eq_true (by assumption)
              have hx14 := bt_at a0 x6_2
              replace p14 := eq_true p14
              replace q14 := eq_true q14
              have p20 : 0 ≤ (x6_2 : Int) := of_decide_eq_true (by assumption)
              have q20 : x6_2 < (a0.size : Int) := of_decide_eq_true (by assumption)
              have hx20 := bt_at a0 x6_2
              replace p20 := eq_true p20
              replace q20 := eq_true q20
              go_wp2
              go_roundg k2
              case measure => have := HK1.out; have := HK2.out; omega
              case rel => exact ⟨(wrap64 (x6_2 + 1)), (by first | rfl | (simp; done) | (simp [*]; done)), H', ⟨by have := HK1.out; have := HK2.out; omega⟩, by repeat (first | exact Drawn0.refl _ | apply Drawn0.step)⟩
             ·rw [if_neg c21] at H
              have c21b0 : ((bt a0 x6_2) == 45) = false := beq_eq_false_iff_ne.mpr c21
              have c21b1 : ((bt a0 x6_2) != 45) = true := bne_iff_ne.mpr c21
              have H' := Aside0.mk H
              clear H
              have p6 : 0 ≤ (x6_2 : Int) := of_decide_eq_true (by assumption)
              have q6 : x6_2 < (a0.size : Int) := of_decide_eq_true (by assumption)
              have hx6 := bt_at a0 x6_2
              replace p6 := eq_true p6
              replace q6 := eq_true q6
              have p8 : 0 ≤ (x6_2 : Int) := of_decide_eq_true (by assumption)
              have q8 : x6_2 < (a0.size : Int) := of_decide_eq_true (by assumption)
              have hx8 := bt_at a0 x6_2
              replace p8 := eq_true p8
              replace q8 := eq_true q8
              have p10 : 0 ≤ (x6_2 : Int) := of_decide_eq_true (by assumption)
              have q10 : x6_2 < (a0.size : Int) := of_decide_eq_true (by assumption)
              have hx10 := bt_at a0 x6_2
              replace p10 := eq_true p10
              replace q10 := eq_true q10
              have p12 : 0 ≤ (x6_2 : Int) := of_decide_eq_true (by assumption)
              have q12 : x6_2 < (a0.size : Int) := of_decide_eq_true (by assumption)
              have hx12 := bt_at a0 x6_2
              replace p12 := eq_true p12
              replace q12 := eq_true q12
              have p14 : 0 ≤ (x6_2 : Int) := of_decide_eq_true (by assumption)
              have q14 : x6_2 < (a0.size : Int) := of_decide_eq_true (by assumption)
              have hx14 := bt_at a0 x6_2
              replace p14 := eq_true p14
              replace q14 := eq_true q14
              have p20 : 0 ≤ (x6_2 : Int) := of_decide_eq_true (by assumption)
              have q20 : x6_2 < (a0.size : Int) := of_decide_eq_true (by assumption)
              have hx20 := bt_at a0 x6_2
              replace p20 := eq_true p20
              replace q20 := eq_true q20
              go_wp2
              go_meet
              case rel => exact ⟨_, (x6_2), (by first | rfl | (simp; done) | (simp [*]; done)), H', ⟨by have := HK1.out; have := HK2.out; first | omega | exact Nat.le_refl _⟩, by repeat (first | exact Drawn0.refl _ | apply Drawn0.step)⟩
          ·rw [if_neg c11] at H
           have c11b0 : decide (65 ≤ (bt a0 x6_2)) = false := decide_eq_false c11
           clear c11
           by_cases c23 : 97 ≤ (bt a0 x6_2)
           ·rw [if_pos c23] at H
            have c23b0 : decide (97 ≤ (bt a0 x6_2)) = true := decide_eq_true c23
            clear c23
            by_cases c25 : (bt a0 x6_2) ≤ 122
            ·rw [if_pos c25] at H
             have c25b0 : decide ((bt a0 x6_2) ≤ 122) = true := decide_eq_true c25
             clear c25
             have H' := Aside0.mk H
             clear H
             have p6 : 0 ≤ (x6_2 : Int) := of_decide_eq_true (by assumption)
             have q6 : x6_2 < (a0.size : Int) := of_decide_eq_true (by assumption)
             have hx6 := bt_at a0 x6_2
             replace p6 := eq_true p6
             replace q6 := eq_true q6
             have p8 : 0 ≤ (x6_2 : Int) := of_decide_eq_true (by assumption)
             have q8 : x6_2 < (a0.size : Int) := of_decide_eq_true (by assumption)
             have hx8 := bt_at a0 x6_2
             replace p8 := eq_true p8
             replace q8 := eq_true q8
             have p10 : 0 ≤ (x6_2 : Int) := of_decide_eq_true (by assumption)
             have q10 : x6_2 < (a0.size : Int) := of_decide_eq_true (by assumption)
             have hx10 := bt_at a0 x6_2
             replace p10 := eq_true p10
             replace q10 := eq_true q10
             have p22 : 0 ≤ (x6_2 : Int) := of_decide_eq_true (by assumption)
             have q22 : x6_2 < (a0.size : Int) := of_decide_eq_true (by assumption)
             have hx22 := bt_at a0 x6_2
             replace p22 := eq_true p22
             replace q22 := eq_true q22
             have p24 : 0 ≤ (x6_2 : Int) := of_decide_eq_true (by assumption)
             have q24 : x6_2 < (a0.size : Int) := of_decide_eq_true (by assumption)
             have hx24 := bt_at a0 x6_2
             replace p24 := eq_true p24
             replace q24 := eq_true q24
             go_wp2
             go_roundg k2
             case measure => have := HK1.out; have := HK2.out; omega
             case rel => exact ⟨(wrap64 (x6_2 + 1)), (by first | rfl | (simp; done) | (simp [*]; done)), H', ⟨by have := HK1.out; have := HK2.out; omega⟩, by repeat (first | exact Drawn0.refl _ | apply Drawn0.step)⟩
            ·rw [if_neg c25] at H
             have c25b0 : decide ((bt a0 x6_2) ≤ 122) = false := decide_eq_false c25
             clear c25
             by_cases c27 : (bt a0 x6_2) = 45
             ·rw [if_pos c27] at H
              have c27b0 : ((bt a0 x6_2) == 45) = true := beq_iff_eq.mpr c27
              have c27b1 : ((bt a0 x6_2) != 45) = false := bne_eq_false_iff_eq.mpr c27
              clear c27
              have H' := Aside0.mk H
              clear H
              have p6 : 0 ≤ (x6_2 : Int) := of_decide_eq_true (by assumption)
              have q6 : x6_2 < (a0.size : Int) := of_decide_eq_true (by assumption)
              have hx6 := bt_at a0 x6_2
              replace p6 := eq_true p6
              replace q6 := eq_true q6
              have p8 : 0 ≤ (x6_2 : Int) := of_decide_eq_true (by assumption)
              have q8 : x6_2 < (a0.size : Int) := of_decide_eq_true (by assumption)
              have hx8 := bt_at a0 x6_2
              replace p8 := eq_true p8
              replace q8 := eq_true q8
              have p10 : 0 ≤ (x6_2 : Int) := of_decide_eq_true (by assumption)
              have q10 : x6_2 < (a0.size : Int) := of_decide_eq_true (by assumption)
              have hx10 := bt_at a0 x6_2
              replace p10 := eq_true p10
              replace q10 := eq_true q10
              have p22 : 0 ≤ (x6_2 : Int) := of_decide_eq_true (by assumption)
              have q22 : x6_2 < (a0.size : Int) := of_decide_eq_true (by assumption)
              have hx22 := bt_at a0 x6_2
              replace p22 := eq_true p22
              replace q22 := eq_true q22
              have p24 : 0 ≤ (x6_2 : Int) := of_decide_eq_true (by assumption)
              have q24 : x6_2 < (a0.size : Int) := of_decide_eq_true (by assumption)
              have hx24 := bt_at a0 x6_2
              replace p24 := eq_true p24
              replace q24 := eq_true q24
              have p26 : 0 ≤ (x6_2 : Int) := of_decide_eq_true (by assumption)
              have q26 : x6_2 < (a0.size : Int) := of_decide_eq_true (by assumption)
              have hx26 := bt_at a0 x6_2
              replace p26 := eq_true p26
              replace q26 := eq_true q26
              go_wp2
              go_roundg k2
              case measure => have := HK1.out; have := HK2.out; omega
              case rel => exact ⟨(wrap64 (x6_2 + 1)), (by first | rfl | (simp; done) | (simp [*]; done)), H', ⟨by have := HK1.out; have := HK2.out; omega⟩, by repeat (first | exact Drawn0.refl _ | apply Drawn0.step)⟩
             ·rw [if_neg c27] at H
              have c27b0 : ((bt a0 x6_2) == 45) = false := beq_eq_false_iff_ne.mpr c27
              have c27b1 : ((bt a0 x6_2) != 45) = true := bne_iff_ne.mpr c27
              have H' := Aside0.mk H
              clear H
              have p6 : 0 ≤ (x6_2 : Int) := of_decide_eq_true (by assumption)
              have q6 : x6_2 < (a0.size : Int) := of_decide_eq_true (by assumption)
              have hx6 := bt_at a0 x6_2
              replace p6 := eq_true p6
              replace q6 := eq_true q6
              have p8 : 0 ≤ (x6_2 : Int) := of_decide_eq_true (by assumption)
              have q8 : x6_2 < (a0.size : Int) := of_decide_eq_true (by assumption)
              have hx8 := bt_at a0 x6_2
              replace p8 := eq_true p8
              replace q8 := eq_true q8
              have p10 : 0 ≤ (x6_2 : Int) := of_decide_eq_true (by assumption)
              have q10 : x6_2 < (a0.size : Int) := of_decide_eq_true (by assumption)
              have hx10 := bt_at a0 x6_2
              replace p10 := eq_true p10
              replace q10 := eq_true q10
              have p22 : 0 ≤ (x6_2 : Int) := of_decide_eq_true (by assumption)
              have q22 : x6_2 < (a0.size : Int) := of_decide_eq_true (by assumption)
              have hx22 := bt_at a0 x6_2
              replace p22 := eq_true p22
              replace q22 := eq_true q22
              have p24 : 0 ≤ (x6_2 : Int) := of_decide_eq_true (by assumption)
              have q24 : x6_2 < (a0.size : Int) := of_decide_eq_true (by assumption)
              have hx24 := bt_at a0 x6_2
              replace p24 := eq_true p24
              replace q24 := eq_true q24
              have p26 : 0 ≤ (x6_2 : Int) := of_decide_eq_true (by assumption)
              have q26 : x6_2 < (a0.size : Int) := of_decide_eq_true (by assumption)
              have hx26 := bt_at a0 x6_2
              replace p26 := eq_true p26
              replace q26 := eq_true q26
              go_wp2
              go_meet
              case rel => exact ⟨_, (x6_2), (by first | rfl | (simp; done) | (simp [*]; done)), H', ⟨by have := HK1.out; have := HK2.out; first | omega | exact Nat.le_refl _⟩, by repeat (first | exact Drawn0.refl _ | apply Drawn0.step)⟩
           ·rw [if_neg c23] at H
            have c23b0 : decide (97 ≤ (bt a0 x6_2)) = false := decide_eq_false c23
            clear c23
            by_cases c29 : (bt a0 x6_2) = 45
            ·rw [if_pos c29] at H
             have c29b0 : ((bt a0 x6_2) == 45) = true := beq_iff_eq.mpr c29
             have c29b1 : ((bt a0 x6_2) != 45) = false := bne_eq_false_iff_eq.mpr c29
             clear c29
             have H' := Aside0.mk H
             clear H
             have p6 : 0 ≤ (x6_2 : Int) := of_decide_eq_true (by assumption)
             have q6 : x6_2 < (a0.size : Int) := of_decide_eq_true (by assumption)
             have hx6 := bt_at a0 x6_2
             replace p6 := eq_true p6
             replace q6 := eq_true q6
             have p8 : 0 ≤ (x6_2 : Int) := of_decide_eq_true (by assumption)
             have q8 : x6_2 < (a0.size : Int) := of_decide_eq_true (by assumption)
             have hx8 := bt_at a0 x6_2
             replace p8 := eq_true p8
             replace q8 := eq_true q8
             have p10 : 0 ≤ (x6_2 : Int) := of_decide_eq_true (by assumption)
             have q10 : x6_2 < (a0.size : Int) := of_decide_eq_true (by assumption)
             have hx10 := bt_at a0 x6_2
             replace p10 := eq_true p10
             replace q10 := eq_true q10
             have p22 : 0 ≤ (x6_2 : Int) := of_decide_eq_true (by assumption)
             have q22 : x6_2 < (a0.size : Int) := of_decide_eq_true (by assumption)
             have hx22 := bt_at a0 x6_2
             replace p22 := eq_true p22
             replace q22 := eq_true q22
             have p28 : 0 ≤ (x6_2 : Int) := of_decide_eq_true (by assumption)
             have q28 : x6_2 < (a0.size : Int) := of_decide_eq_true (by assumption)
             have hx28 := bt_at a0 x6_2
             replace p28 := eq_true p28
             replace q28 := eq_true q28
             go_wp2
             go_roundg k2
             case measure => have := HK1.out; have := HK2.out; omega
             case rel => exact ⟨(wrap64 (x6_2 + 1)), (by first | rfl | (simp; done) | (simp [*]; done)), H', ⟨by have := HK1.out; have := HK2.out; omega⟩, by repeat (first | exact Drawn0.refl _ | apply Drawn0.step)⟩
            ·rw [if_neg c29] at H
             have c29b0 : ((bt a0 x6_2) == 45) = false := beq_eq_false_iff_ne.mpr c29
             have c29b1 : ((bt a0 x6_2) != 45) = true := bne_iff_ne.mpr c29
             have H' := Aside0.mk H
             clear H
             have p6 : 0 ≤ (x6_2 : Int) := of_decide_eq_true (by assumption)
             have q6 : x6_2 < (a0.size : Int) := of_decide_eq_true (by assumption)
             have hx6 := bt_at a0 x6_2
             replace p6 := eq_true p6
             replace q6 := eq_true q6
             have p8 : 0 ≤ (x6_2 : Int) := of_decide_eq_true (by assumption)
             have q8 : x6_2 < (a0.size : Int) := of_decide_eq_true (by assumption)
             have hx8 := bt_at a0 x6_2
             replace p8 := eq_true p8
             replace q8 := eq_true q8
             have p10 : 0 ≤ (x6_2 : Int) := of_decide_eq_true (by assumption)
             have q10 : x6_2 < (a0.size : Int) := of_decide_eq_true (by assumption)
             have hx10 := bt_at a0 x6_2
             replace p10 := eq_true p10
             replace q10 := eq_true q10
             have p22 : 0 ≤ (x6_2 : Int) := of_decide_eq_true (by assumption)
             have q22 : x6_2 < (a0.size : Int) := of_decide_eq_true (by assumption)
             have hx22 := bt_at a0 x6_2
             replace p22 := eq_true p22
             replace q22 := eq_true q22
             have p28 : 0 ≤ (x6_2 : Int) := of_decide_eq_true (by assumption)
             have q28 : x6_2 < (a0.size : Int) := of_decide_eq_true (by assumption)
             have hx28 := bt_at a0 x6_2
             replace p28 := eq_true p28
             replace q28 := eq_true q28
             go_wp2
             go_meet
             case rel => exact ⟨_, (x6_2), (by first | rfl | (simp; done) | (simp [*]; done)), H', ⟨by have := HK1.out; have := HK2.out; first | omega | exact Nat.le_refl _⟩, by repeat (first | exact Drawn0.refl _ | apply Drawn0.step)⟩
        ·rw [if_neg c7] at H
         have c7b0 : decide (48 ≤ (bt a0 x6_2)) = false := decide_eq_false c7
         clear c7
         by_cases c31 : 65 ≤ (bt a0 x6_2)
         ·rw [if_pos c31] at H
          have c31b0 : decide (65 ≤ (bt a0 x6_2)) = true := decide_eq_true c31
          clear c31
          by_cases c33 : (bt a0 x6_2) ≤ 90
          ·rw [if_pos c33] at H
           have c33b0 : decide ((bt a0 x6_2) ≤ 90) = true := decide_eq_true c33
           clear c33
           have H' := Aside0.mk H
           clear H
           have p6 : 0 ≤ (x6_2 : Int) := of_decide_eq_true (by assumption)
           have q6 : x6_2 < (a0.size : Int) := of_decide_eq_true (by assumption)
           have hx6 := bt_at a0 x6_2
           replace p6 := eq_true p6
           replace q6 := eq_true q6
           have p30 : 0 ≤ (x6_2 : Int) := of_decide_eq_true (by assumption)
           have q30 : x6_2 < (a0.size : Int) := of_decide_eq_true (by assumption)
           have hx30 := bt_at a0 x6_2
           replace p30 := eq_true p30
           replace q30 := eq_true q30
           have p32 : 0 ≤ (x6_2 : Int) := of_decide_eq_true (by assumption)
           have q32 : x6_2 < (a0.size : Int) := of_decide_eq_true (by assumption)
           have hx32 := bt_at a0 x6_2
           replace p32 := eq_true p32
           replace q32 := eq_true q32
           go_wp2
           go_roundg k2
           case measure => have := HK1.out; have := HK2.out; omega
           case rel => exact ⟨(wrap64 (x6_2 + 1)), (by first | rfl | (simp; done) | (simp [*]; done)), H', ⟨by have := HK1.out; have := HK2.out; omega⟩, by repeat (first | exact Drawn0.refl _ | apply Drawn0.step)⟩
          ·rw [if_neg c33] at H
           have c33b0 : decide ((bt a0 x6_2) ≤ 90) = false := decide_eq_false c33
           clear c33
           by_cases c35 : 97 ≤ (bt a0 x6_2)
           ·rw [if_pos c35] at H
            have c35b0 : decide (97 ≤ (bt a0 x6_2)) = true := decide_eq_true c35
            clear c35
            by_cases c37 : (bt a0 x6_2) ≤ 122
            ·rw [if_pos c37] at H
             have c37b0 : decide ((bt a0 x6_2) ≤ 122) = true := decide_eq_true c37
             clear c37
             have H' := Aside0.mk H
             clear H
             have p6 : 0 ≤ (x6_2 : Int) := of_decide_eq_true (by assumption)
             have q6 : x6_2 < (a0.size : Int) := of_decide_eq_true (by assumption)
             have hx6 := bt_at a0 x6_2
             replace p6 := eq_true p6
             replace q6 := eq_true q6
             have p30 : 0 ≤ (x6_2 : Int) := of_decide_eq_true (by assumption)
             have q30 : x6_2 < (a0.size : Int) := of_decide_eq_true (by assumption)
             have hx30 := bt_at a0 x6_2
             replace p30 := eq_true p30
             replace q30 := eq_true q30
             have p32 : 0 ≤ (x6_2 : Int) := of_decide_eq_true (by assumption)
             have q32 : x6_2 < (a0.size : Int) := of_decide_eq_true (by assumption)
             have hx32 := bt_at a0 x6_2
             replace p32 := eq_true p32
             replace q32 := eq_true q32
             have p34 : 0 ≤ (x6_2 : Int) := of_decide_eq_true (by assumption)
             have q34 : x6_2 < (a0.size : Int) := of_decide_eq_true (by assumption)
             have hx34 := bt_at a0 x6_2
             replace p34 := eq_true p34
             replace q34 := eq_true q34
             have p36 : 0 ≤ (x6_2 : Int) := of_decide_eq_true (by assumption)
             have q36 : x6_2 < (a0.size : Int) := of_decide_eq_true (by assumption)
             have hx36 := bt_at a0 x6_2
             replace p36 := eq_true p36
             replace q36 := eq_true q36
             go_wp2
             go_roundg k2
             case measure => have := HK1.out; have := HK2.out; omega
             case rel => exact ⟨(wrap64 (x6_2 + 1)), (by first | rfl | (simp; done) | (simp [*]; done)), H', ⟨by have := HK1.out; have := HK2.out; omega⟩, by repeat (first | exact Drawn0.refl _ | apply Drawn0.step)⟩
            ·rw [if_neg c37] at H
             have c37b0 : decide ((bt a0 x6_2) ≤ 122) = false := decide_eq_false c37
             clear c37
             by_cases c39 : (bt a0 x6_2) = 45
             ·rw [if_pos c39] at H
              have c39b0 : ((bt a0 x6_2) == 45) = true := beq_iff_eq.mpr c39
              have c39b1 : ((bt a0 x6_2) != 45) = false := bne_eq_false_iff_eq.mpr c39
              clear c39
              have H' := Aside0.mk H
              clear H
              have p6 : 0 ≤ (x6_2 : Int) := of_decide_eq_true (by assumption)
              have q6 : x6_2 < (a0.size : Int) := of_decide_eq_true (by assumption)
              have hx6 := bt_at a0 x6_2
              replace p6 := eq_true p6
              replace q6 := eq_true q6
              have p30 : 0 ≤ (x6_2 : Int) := of_decide_eq_true (by assumption)
              have q30 : x6_2 < (a0.size : Int) := of_decide_eq_true (by assumption)
              have hx30 := bt_at a0 x6_2
              replace p30 := eq_true p30
              replace q30 := eq_true q30
              have p32 : 0 ≤ (x6_2 : Int) := of_decide_eq_true (by assumption)
              have q32 : x6_2 < (a0.size : Int) := of_decide_eq_true (by assumption)
              have hx32 := bt_at a0 x6_2
              replace p32 := eq_true p32
              replace q32 := eq_true q32
              have p34 : 0 ≤ (x6_2 : Int) := of_decide_eq_true (by assumption)
              have q34 : x6_2 < (a0.size : Int) := of_decide_eq_true (by assumption)
              have hx34 := bt_at a0 x6_2
              replace p34 := eq_true p34
              replace q34 := eq_true q34
              have p36 : 0 ≤ (x6_2 : Int) := of_decide_eq_true (by assumption)
              have q36 : x6_2 < (a0.size : Int) := of_decide_eq_true (by assumption)
              have hx36 := bt_at a0 x6_2
              replace p36 := eq_true p36
              replace q36 := eq_true q36
              have p38 : 0 ≤ (x6_2 : Int) := of_decide_eq_true (by assumption)
              have q38 : x6_2 < (a0.size : Int) := of_decide_eq_true (by assumption)
              have hx38 := bt_at a0 x6_2
              replace p38 := eq_true p38
              replace q38 := eq_true q38
              go_wp2
              go_roundg k2
              case measure => have := HK1.out; have := HK2.out; omega
              case rel => exact ⟨(wrap64 (x6_2 + 1)), (by first | rfl | (simp; done) | (simp [*]; done)), H', ⟨by have := HK1.out; have := HK2.out; omega⟩, by repeat (first | exact Drawn0.refl _ | apply Drawn0.step)⟩
             ·rw [if_neg c39] at H
              have c39b0 : ((bt a0 x6_2) == 45) = false := beq_eq_false_iff_ne.mpr c39
              have c39b1 : ((bt a0 x6_2) != 45) = true := bne_iff_ne.mpr c39
              have H' := Aside0.mk H
              clear H
              have p6 : 0 ≤ (x6_2 : Int) := of_decide_eq_true (by assumption)
              have q6 : x6_2 < (a0.size : Int) := of_decide_eq_true (by assumption)
              have hx6 := bt_at a0 x6_2
              replace p6 := eq_true p6
              replace q6 := eq_true q6
              have p30 : 0 ≤ (x6_2 : Int) := of_decide_eq_true (by assumption)
              have q30 : x6_2 < (a0.size : Int) := of_decide_eq_true (by assumption)
              have hx30 := bt_at a0 x6_2
              replace p30 := eq_true p30
              replace q30 := eq_true q30
              have p32 : 0 ≤ (x6_2 : Int) := of_decide_eq_true (by assumption)
              have q32 : x6_2 < (a0.size : Int) := of_decide_eq_true (by assumption)
              have hx32 := bt_at a0 x6_2
              replace p32 := eq_true p32
              replace q32 := eq_true q32
              have p34 : 0 ≤ (x6_2 : Int) := of_decide_eq_true (by assumption)
              have q34 : x6_2 < (a0.size : Int) := of_decide_eq_true (by assumption)
              have hx34 := bt_at a0 x6_2
              replace p34 := eq_true p34
              replace q34 := eq_true q34
              have p36 : 0 ≤ (x6_2 : Int) := of_decide_eq_true (by assumption)
              have q36 : x6_2 < (a0.size : Int) := of_decide_eq_true (by assumption)
              have hx36 := bt_at a0 x6_2
              replace p36 := eq_true p36
              replace q36 := eq_true q36
              have p38 : 0 ≤ (x6_2 : Int) := of_decide_eq_true (by assumption)
              have q38 : x6_2 < (a0.size : Int) := of_decide_eq_true (by assumption)
              have hx38 := bt_at a0 x6_2
              replace p38 := eq_true p38
              replace q38 := eq_true q38
              go_wp2
              go_meet
              case rel => exact ⟨_, (x6_2), (by first | rfl | (simp; done) | (simp [*]; done)), H', ⟨by have := HK1.out; have := HK2.out; first | omega | exact Nat.le_refl _⟩, by repeat (first | exact Drawn0.refl _ | apply Drawn0.step)⟩
           ·rw [if_neg c35] at H
            have c35b0 : decide (97 ≤ (bt a0 x6_2)) = false := decide_eq_false c35
            clear c35
            by_cases c41 : (bt a0 x6_2) = 45
            ·rw [if_pos c41] at H
             have c41b0 : ((bt a0 x6_2) == 45) = true := beq_iff_eq.mpr c41
             have c41b1 : ((bt a0 x6_2) != 45) = false := bne_eq_false_iff_eq.mpr c41
             clear c41
             have H' := Aside0.mk H
             clear H
             have p6 : 0 ≤ (x6_2 : Int) := of_decide_eq_true (by assumption)
             have q6 : x6_2 < (a0.size : Int) := of_decide_eq_true (by assumption)
             have hx6 := bt_at a0 x6_2
             replace p6 := eq_true p6
             replace q6 := eq_true q6
             have p30 : 0 ≤ (x6_2 : Int) := of_decide_eq_true (by assumption)
             have q30 : x6_2 < (a0.size : Int) := of_decide_eq_true (by assumption)
             have hx30 := bt_at a0 x6_2
             replace p30 := eq_true p30
             replace q30 := eq_true q30
             have p32 : 0 ≤ (x6_2 : Int) := of_decide_eq_true (by assumption)
             have q32 : x6_2 < (a0.size : Int) := of_decide_eq_true (by assumption)
             have hx32 := bt_at a0 x6_2
             replace p32 := eq_true p32
             replace q32 := eq_true q32
             have p34 : 0 ≤ (x6_2 : Int) := of_decide_eq_true (by assumption)
             have q34 : x6_2 < (a0.size : Int) := of_decide_eq_true (by assumption)
             have hx34 := bt_at a0 x6_2
             replace p34 := eq_true p34
             replace q34 := eq_true q34
             have p40 : 0 ≤ (x6_2 : Int) := of_decide_eq_true (by assumption)
             have q40 : x6_2 < (a0.size : Int) := of_decide_eq_true (by assumption)
             have hx40 := bt_at a0 x6_2
             replace p40 := eq_true p40
             replace q40 := eq_true q40
             go_wp2
             go_roundg k2
             case measure => have := HK1.out; have := HK2.out; omega
             case rel => exact ⟨(wrap64 (x6_2 + 1)), (by first | rfl | (simp; done) | (simp [*]; done)), H', ⟨by have := HK1.out; have := HK2.out; omega⟩, by repeat (first | exact Drawn0.refl _ | apply Drawn0.step)⟩
            ·rw [if_neg c41] at H
             have c41b0 : ((bt a0 x6_2) == 45) = false := beq_eq_false_iff_ne.mpr c41
             have c41b1 : ((bt a0 x6_2) != 45) = true := bne_iff_ne.mpr c41
             have H' := Aside0.mk H
             clear H
             have p6 : 0 ≤ (x6_2 : Int) := of_decide_eq_true (by assumption)
             have q6 : x6_2 < (a0.size : Int) := of_decide_eq_true (by assumption)
             have hx6 := bt_at a0 x6_2
             replace p6 := eq_true p6
             replace q6 := eq_true q6
             have p30 : 0 ≤ (x6_2 : Int) := of_decide_eq_true (by assumption)
             have q30 : x6_2 < (a0.size : Int) := of_decide_eq_true (by assumption)
             have hx30 := bt_at a0 x6_2
             replace p30 := eq_true p30
             replace q30 := eq_true q30
             have p32 : 0 ≤ (x6_2 : Int) := of_decide_eq_true (by assumption)
             have q32 : x6_2 < (a0.size : Int) := of_decide_eq_true (by assumption)
             have hx32 := bt_at a0 x6_2
             replace p32 := eq_true p32
             replace q32 := eq_true q32
             have p34 : 0 ≤ (x6_2 : Int) := of_decide_eq_true (by assumption)
             have q34 : x6_2 < (a0.size : Int) := of_decide_eq_true (by assumption)
             have hx34 := bt_at a0 x6_2
             replace p34 := eq_true p34
             replace q34 := eq_true q34
             have p40 : 0 ≤ (x6_2 : Int) := of_decide_eq_true (by assumption)
             have q40 : x6_2 < (a0.size : Int) := of_decide_eq_true (by assumption)
             have hx40 := bt_at a0 x6_2
             replace p40 := eq_true p40
             replace q40 := eq_true q40
             go_wp2
             go_meet
             case rel => exact ⟨_, (x6_2), (by first | rfl | (simp; done) | (simp [*]; done)), H', ⟨by have := HK1.out; have := HK2.out; first | omega | exact Nat.le_refl _⟩, by repeat (first | exact Drawn0.refl _ | apply Drawn0.step)⟩
         ·rw [if_neg c31] at H
          have c31b0 : decide (65 ≤ (bt a0 x6_2)) = false := decide_eq_false c31
          clear c31
          by_cases c43 : 97 ≤ (bt a0 x6_2)
          ·rw [if_pos c43] at H
           have c43b0 : decide (97 ≤ (bt a0 x6_2)) = true := decide_eq_true c43
           clear c43
           by_cases c45 : (bt a0 x6_2) ≤ 122
           ·rw [if_pos c45] at H
            have c45b0 : decide ((bt a0 x6_2) ≤ 122) = true := decide_eq_true c45
            clear c45
            have H' := Aside0.mk H
            clear H
            have p6 : 0 ≤ (x6_2 : Int) := of_decide_eq_true (by assumption)
            have q6 : x6_2 < (a0.size : Int) := of_decide_eq_true (by assumption)
            have hx6 := bt_at a0 x6_2
            replace p6 := eq_true p6
            replace q6 := eq_true q6
            have p30 : 0 ≤ (x6_2 : Int) := of_decide_eq_true (by assumption)
            have q30 : x6_2 < (a0.size : Int) := of_decide_eq_true (by assumption)
            have hx30 := bt_at a0 x6_2
            replace p30 := eq_true p30
            replace q30 := eq_true q30
            have p42 : 0 ≤ (x6_2 : Int) := of_decide_eq_true (by assumption)
            have q42 : x6_2 < (a0.size : Int) := of_decide_eq_true (by assumption)
            have hx42 := bt_at a0 x6_2
            replace p42 := eq_true p42
            replace q42 := eq_true q42
            have p44 : 0 ≤ (x6_2 : Int) := of_decide_eq_true (by assumption)
            have q44 : x6_2 < (a0.size : Int) := of_decide_eq_true (by assumption)
            have hx44 := bt_at a0 x6_2
            replace p44 := eq_true p44
            replace q44 := eq_true q44
            go_wp2
            go_roundg k2
            case measure => have := HK1.out; have := HK2.out; omega
            case rel => exact ⟨(wrap64 (x6_2 + 1)), (by first | rfl | (simp; done) | (simp [*]; done)), H', ⟨by have := HK1.out; have := HK2.out; omega⟩, by repeat (first | exact Drawn0.refl _ | apply Drawn0.step)⟩
           ·rw [if_neg c45] at H
            have c45b0 : decide ((bt a0 x6_2) ≤ 122) = false := decide_eq_false c45
            clear c45
            by_cases c47 : (bt a0 x6_2) = 45
            ·rw [if_pos c47] at H
             have c47b0 : ((bt a0 x6_2) == 45) = true := beq_iff_eq.mpr c47
             have c47b1 : ((bt a0 x6_2) != 45) = false := bne_eq_false_iff_eq.mpr c47
             clear c47
             have H' := Aside0.mk H
             clear H
             have p6 : 0 ≤ (x6_2 : Int) := of_decide_eq_true (by assumption)
             have q6 : x6_2 < (a0.size : Int) := of_decide_eq_true (by assumption)
             have hx6 := bt_at a0 x6_2
             replace p6 := eq_true p6
             replace q6 := eq_true q6
             have p30 : 0 ≤ (x6_2 : Int) := of_decide_eq_true (by assumption)
             have q30 : x6_2 < (a0.size : Int) := of_decide_eq_true (by assumption)
             have hx30 := bt_at a0 x6_2
             replace p30 := eq_true p30
             replace q30 := eq_true q30
             have p42 : 0 ≤ (x6_2 : Int) := of_decide_eq_true (by assumption)
             have q42 : x6_2 < (a0.size : Int) := of_decide_eq_true (by assumption)
             have hx42 := bt_at a0 x6_2
             replace p42 := eq_true p42
             replace q42 := eq_true q42
             have p44 : 0 ≤ (x6_2 : Int) := of_decide_eq_true (by assumption)
             have q44 : x6_2 < (a0.size : Int) := of_decide_eq_true (by assumption)
             have hx44 := bt_at a0 x6_2
             replace p44 := eq_true p44
             replace q44 := eq_true q44
             have p46 : 0 ≤ (x6_2 : Int) := of_decide_eq_true (by assumption)
             have q46 : x6_2 < (a0.size : Int) := of_decide_eq_true (by assumption)
             have hx46 := bt_at a0 x6_2
             replace p46 := eq_true p46
             replace q46 := eq_true q46
             go_wp2
             go_roundg k2
             case measure => have := HK1.out; have := HK2.out; omega
             case rel => exact ⟨(wrap64 (x6_2 + 1)), (by first | rfl | (simp; done) | (simp [*]; done)), H', ⟨by have := HK1.out; have := HK2.out; omega⟩, by repeat (first | exact Drawn0.refl _ | apply Drawn0.step)⟩
            ·rw [if_neg c47] at H
             have c47b0 : ((bt a0 x6_2) == 45) = false := beq_eq_false_iff_ne.mpr c47
             have c47b1 : ((bt a0 x6_2) != 45) = true := bne_iff_ne.mpr c47
             have H' := Aside0.mk H
             clear H
             have p6 : 0 ≤ (x6_2 : Int) := of_decide_eq_true (by assumption)
             have q6 : x6_2 < (a0.size : Int) := of_decide_eq_true (by assumption)
             have hx6 := bt_at a0 x6_2
             replace p6 := eq_true p6
             replace q6 := eq_true q6
             have p30 : 0 ≤ (x6_2 : Int) := of_decide_eq_true (by assumption)
             have q30 : x6_2 < (a0.size : Int) := of_decide_eq_true (by assumption)
             have hx30 := bt_at a0 x6_2
             replace p30 := eq_true p30
             replace q30 := eq_true q30
             have p42 : 0 ≤ (x6_2 : Int) := of_decide_eq_true (by assumption)
             have q42 : x6_2 < (a0.size : Int) := of_decide_eq_true (by assumption)
             have hx42 := bt_at a0 x6_2
             replace p42 := eq_true p42
             replace q42 := eq_true q42
             have p44 : 0 ≤ (x6_2 : Int) := of_decide_eq_true (by assumption)
             have q44 : x6_2 < (a0.size : Int) := of_decide_eq_true (by assumption)
             have hx44 := bt_at a0 x6_2
             replace p44 := eq_true p44
             replace q44 := eq_true q44
             have p46 : 0 ≤ (x6_2 : Int) := of_decide_eq_true (by assumption)
             have q46 : x6_2 < (a0.size : Int) := of_decide_eq_true (by assumption)
             have hx46 := bt_at a0 x6_2
             replace p46 := eq_true p46
             replace q46 := eq_true q46
             go_wp2
             go_meet
             case rel => exact ⟨_, (x6_2), (by first | rfl | (simp; done) | (simp [*]; done)), H', ⟨by have := HK1.out; have := HK2.out; first | omega | exact Nat.le_refl _⟩, by repeat (first | exact Drawn0.refl _ | apply Drawn0.step)⟩
          ·rw [if_neg c43] at H
           have c43b0 : decide (97 ≤ (bt a0 x6_2)) = false := decide_eq_false c43
           clear c43
           by_cases c49 : (bt a0 x6_2) = 45
           ·rw [if_pos c49] at H
            have c49b0 : ((bt a0 x6_2) == 45) = true := beq_iff_eq.mpr c49
            have c49b1 : ((bt a0 x6_2) != 45) = false := bne_eq_false_iff_eq.mpr c49
            clear c49
            have H' := Aside0.mk H
            clear H
            have p6 : 0 ≤ (x6_2 : Int) := of_decide_eq_true (by assumption)
            have q6 : x6_2 < (a0.size : Int) := of_decide_eq_true (by assumption)
            have hx6 := bt_at a0 x6_2
            replace p6 := eq_true p6
            replace q6 := eq_true q6
            have p30 : 0 ≤ (x6_2 : Int) := of_decide_eq_true (by assumption)
            have q30 : x6_2 < (a0.size : Int) := of_decide_eq_true (by assumption)
            have hx30 := bt_at a0 x6_2
            replace p30 := eq_true p30
            replace q30 := eq_true q30
            have p42 : 0 ≤ (x6_2 : Int) := of_decide_eq_true (by assumption)
            have q42 : x6_2 < (a0.size : Int) := of_decide_eq_true (by assumption)
            have hx42 := bt_at a0 x6_2
            replace p42 := eq_true p42
            replace q42 := eq_true q42
            have p48 : 0 ≤ (x6_2 : Int) := of_decide_eq_true (by assumption)
            have q48 : x6_2 < (a0.size : Int) := of_decide_eq_true (by assumption)
            have hx48 := bt_at a0 x6_2
            replace p48 := eq_true p48
            replace q48 := eq_true q48
            go_wp2
            go_roundg k2
            case measure => have := HK1.out; have := HK2.out; omega
            case rel => exact ⟨(wrap64 (x6_2 + 1)), (by first | rfl | (simp; done) | (simp [*]; done)), H', ⟨by have := HK1.out; have := HK2.out; omega⟩, by repeat (first | exact Drawn0.refl _ | apply Drawn0.step)⟩
           ·rw [if_neg c49] at H
            have c49b0 : ((bt a0 x6_2) == 45) = false := beq_eq_false_iff_ne.mpr c49
            have c49b1 : ((bt a0 x6_2) != 45) = true := bne_iff_ne.mpr c49
            have H' := Aside0.mk H
            clear H
            have p6 : 0 ≤ (x6_2 : Int) := of_decide_eq_true (by assumption)
            have q6 : x6_2 < (a0.size : Int) := of_decide_eq_true (by assumption)
            have hx6 := bt_at a0 x6_2
            replace p6 := eq_true p6
            replace q6 := eq_true q6
            have p30 : 0 ≤ (x6_2 : Int) := of_decide_eq_true (by assumption)
            have q30 : x6_2 < (a0.size : Int) := of_decide_eq_true (by assumption)
            have hx30 := bt_at a0 x6_2
            replace p30 := eq_true p30
            replace q30 := eq_true q30
            have p42 : 0 ≤ (x6_2 : Int) := of_decide_eq_true (by assumption)
            have q42 : x6_2 < (a0.size : Int) := of_decide_eq_true (by assumption)
            have hx42 := bt_at a0 x6_2
            replace p42 := eq_true p42
            replace q42 := eq_true q42
            have p48 : 0 ≤ (x6_2 : Int) := of_decide_eq_true (by assumption)
            have q48 : x6_2 < (a0.size : Int) := of_decide_eq_true (by assumption)
            have hx48 := bt_at a0 x6_2
            replace p48 := eq_true p48
            replace q48 := eq_true q48
            go_wp2
            go_meet
            case rel => exact ⟨_, (x6_2), (by first | rfl | (simp; done) | (simp [*]; done)), H', ⟨by have := HK1.out; have := HK2.out; first | omega | exact Nat.le_refl _⟩, by repeat (first | exact Drawn0.refl _ | apply Drawn0.step)⟩
       ·rw [if_neg c5] at H
        exact absurd H (by simp)
      ·rw [if_neg c4] at H
       have c4b0 : decide (x6_2 < (a0.size : Int)) = false := decide_eq_false c4
       clear c4
       (first | rw [c4b0] | (simp only [i64_w, i32_w]; rw [c4b0]) | skip)
       have H' := Aside0.mk H
       clear H
       go_wp2
       go_meet
       case rel => exact ⟨_, (x6_2), (by first | rfl | (simp; done) | (simp [*]; done)), H', ⟨by have := HK1.out; have := HK2.out; first | omega | exact Nat.le_refl _⟩, by repeat (first | exact Drawn0.refl _ | apply Drawn0.step)⟩
   case rest =>
    clear HC3
    try clear p1
    try clear q1
    try clear hx1
    try clear c2
    try clear p2
    try clear q2
    try clear hx2
    try clear c3
    try clear p3
    try clear q3
    try clear hx3
    try clear c4
    try clear c4b0
    try clear p4
    try clear q4
    try clear hx4
    try clear c5
    try clear p6
    try clear q6
    try clear hx6
    try clear c7
    try clear c7b0
    try clear p8
    try clear q8
    try clear hx8
    try clear p10
    try clear q10
    try clear hx10
    try clear p22
    try clear q22
    try clear hx22
    try clear c23
    try clear c23b0
    try clear p24
    try clear q24
    try clear hx24
    try clear c25
    try clear c25b0
    try clear p26
    try clear q26
    try clear hx26
    try clear c27
    try clear c27b0
    try clear c27b1
    try clear p28
    try clear q28
    try clear hx28
    try clear c29
    try clear c29b0
    try clear c29b1
    try clear p30
    try clear q30
    try clear hx30
    try clear c31
    try clear c31b0
    try clear p32
    try clear q32
    try clear hx32
    try clear c33
    try clear c33b0
    try clear p34
    try clear q34
    try clear hx34
    try clear c35
    try clear c35b0
    try clear p36
    try clear q36
    try clear hx36
    try clear c37
    try clear c37b0
    try clear p38
    try clear q38
    try clear hx38
    try clear c39
    try clear c39b0
    try clear c39b1
    try clear p40
    try clear q40
    try clear hx40
    try clear c41
    try clear c41b0
    try clear c41b1
    try clear p42
    try clear q42
    try clear hx42
    try clear c43
    try clear c43b0
    try clear p44
    try clear q44
    try clear hx44
    try clear c45
    try clear c45b0
    try clear p46
    try clear q46
    try clear hx46
    try clear c47
    try clear c47b0
    try clear c47b1
    try clear p48
    try clear q48
    try clear hx48
    try clear c49
    try clear c49b0
    try clear c49b1
    try clear p10
    try clear p22
    try clear p24
    try clear p26
    try clear p28
    try clear p30
    try clear p32
    try clear p34
    try clear p36
    try clear p38
    try clear p40
    try clear p42
    try clear p44
    try clear p46
    try clear p48
    try clear p6
    try clear p8
    try clear q10
    try clear q22
    try clear q24
    try clear q26
    try clear q28
    try clear q30
    try clear q32
    try clear q34
    try clear q36
    try clear q38
    try clear q40
    try clear q42
    try clear q44
    try clear q46
    try clear q48
    try clear q6
    try clear q8
    obtain ⟨kq, x6_2, rfl, HA, HJ2, ⟨mc2, rfl⟩⟩ := hcut
    cases kq with
    | zero => exact absurd HA.out (by simp [version_zzWords.j2])
    | succ kj2 =>
     have H := HA.out
     clear HA
     simp only [version_zzWords.j2] at H
     by_cases c50 : x6_2 = x1_1
     ·rw [if_pos c50] at H
      have c50b0 : (x6_2 == x1_1) = true := beq_iff_eq.mpr c50
      have c50b1 : (x6_2 != x1_1) = false := bne_eq_false_iff_eq.mpr c50
      clear c50
      obtain rfl := Option.some.inj H
      go_wp2
      go_ret
      exact ⟨by first | rfl | (simp; done) | (simp [*]; done), by repeat (first | exact Drawn0.refl _ | apply Drawn0.step)⟩
     ·rw [if_neg c50] at H
      have c50b0 : (x6_2 == x1_1) = false := beq_eq_false_iff_ne.mpr c50
      have c50b1 : (x6_2 != x1_1) = true := bne_iff_ne.mpr c50
      by_cases c51 : x6_2 = (a0.size : Int)
      ·rw [if_pos c51] at H
       have c51b0 : (x6_2 == (a0.size : Int)) = true := beq_iff_eq.mpr c51
       have c51b1 : (x6_2 != (a0.size : Int)) = false := bne_eq_false_iff_eq.mpr c51
       clear c51
       obtain rfl := Option.some.inj H
       go_wp2
       go_ret
       exact ⟨by first | rfl | (simp; done) | (simp [*]; done), by repeat (first | exact Drawn0.refl _ | apply Drawn0.step)⟩
      ·rw [if_neg c51] at H
       have c51b0 : (x6_2 == (a0.size : Int)) = false := beq_eq_false_iff_ne.mpr c51
       have c51b1 : (x6_2 != (a0.size : Int)) = true := bne_iff_ne.mpr c51
       by_cases c52 : 0 ≤ x6_2
       ·rw [if_pos c52] at H
        have c52b0 : decide (0 ≤ x6_2) = true := decide_eq_true c52
        clear c52
        by_cases c53 : x6_2 < (a0.size : Int)
        ·rw [if_pos c53] at H
         have c53b0 : decide (x6_2 < (a0.size : Int)) = true := decide_eq_true c53
         clear c53
         by_cases c55 : (bt a0 x6_2) = 46
         ·rw [if_pos c55] at H
          have c55b0 : ((bt a0 x6_2) == 46) = true := beq_iff_eq.mpr c55
          have c55b1 : ((bt a0 x6_2) != 46) = false := bne_eq_false_iff_eq.mpr c55
          clear c55
          have H' := Aside0.mk H
          clear H
          have p54 : 0 ≤ (x6_2 : Int) := of_decide_eq_true (by assumption)
          have q54 : x6_2 < (a0.size : Int) := of_decide_eq_true (by assumption)
          have hx54 := bt_at a0 x6_2
          replace p54 := eq_true p54
          replace q54 := eq_true q54
          go_wp2
          go_roundg kj2
          case measure => have := HK1.out; have := HJ2.out; omega
          case rel => exact ⟨(wrap64 (x6_2 + 1)), (x6_2), (by first | rfl | (simp; done) | (simp [*]; done)), (by first | rfl | (simp; done) | (simp [*]; done)), H', ⟨by have := HK1.out; have := HJ2.out; omega⟩, by repeat (first | exact Drawn0.refl _ | apply Drawn0.step)⟩
         ·rw [if_neg c55] at H
          have c55b0 : ((bt a0 x6_2) == 46) = false := beq_eq_false_iff_ne.mpr c55
          have c55b1 : ((bt a0 x6_2) != 46) = true := bne_iff_ne.mpr c55
          obtain rfl := Option.some.inj H
          have p54 : 0 ≤ (x6_2 : Int) := of_decide_eq_true (by assumption)
          have q54 : x6_2 < (a0.size : Int) := of_decide_eq_true (by assumption)
          have hx54 := bt_at a0 x6_2
          replace p54 := eq_true p54
          replace q54 := eq_true q54
          go_wp2
          go_ret
          exact ⟨by first | rfl | (simp; done) | (simp [*]; done), by repeat (first | exact Drawn0.refl _ | apply Drawn0.step)⟩
        ·rw [if_neg c53] at H
         exact absurd H (by simp)
       ·rw [if_neg c52] at H
        exact absurd H (by simp)
end Go.Proofs.YtmfgkidppchobaaDoor.XFnVersionWays


namespace Go.Proofs.YtmfgkidppchobaaDoor.XFnVersionWays
open Go.RowKit Go.Proofs.YtmfgkidppchobaaDoorW.PrintWords Go.Proofs.YtmfgkidppchobaaDoorW.PrintLast Go.Proofs.YtmfgkidppchobaaDoorW.PrintMore
attribute [local go_sem] max2_int min2_int max_two min_two max_three min_three max_four min_four
set_option linter.unusedVariables false
set_option linter.unusedSimpArgs false
mutual
def version_zzExtra.j0 : Nat → ByteArray → Int → ByteArray → ByteArray → Bool → Option (List ByteArray)
 | 0, _, _, _, _, _ => none
 | k + 1, x0, x3, x4, x5, x17 => if x17 = true then ((version_zzWords.f k x0 (wrap64 (x3 + 1))).bind fun t114 => (if t114 > (wrap64 (x3 + 1)) then (if 0 ≤ (wrap64 (x3 + 1)) then (if (wrap64 (x3 + 1)) ≤ t114 then (if t114 ≤ (x0.size : Int) then (version_zzExtra.j1 k x0 t114 (x0.extract ((wrap64 (x3 + 1)) : Int).toNat (t114 : Int).toNat) x5) else (none)) else (none)) else (none)) else (version_zzExtra.j1 k x0 x3 x4 x5))) else (version_zzExtra.j1 k x0 x3 x4 x5)
def version_zzExtra.j1 : Nat → ByteArray → Int → ByteArray → ByteArray → Option (List ByteArray)
 | 0, _, _, _, _ => none
 | k + 1, x0, x3, x4, x5 => if x3 < (x0.size : Int) then (if 0 ≤ x3 then (version_zzExtra.j2 k x0 x3 x4 x5 ((bt x0 x3) == 43)) else (none)) else (version_zzExtra.j2 k x0 x3 x4 x5 false)
def version_zzExtra.j2 : Nat → ByteArray → Int → ByteArray → ByteArray → Bool → Option (List ByteArray)
 | 0, _, _, _, _, _ => none
 | k + 1, x0, x3, x4, x5, x41 => if x41 = true then ((version_zzWords.f k x0 (wrap64 (x3 + 1))).bind fun t115 => (if t115 > (wrap64 (x3 + 1)) then (if 0 ≤ (wrap64 (x3 + 1)) then (if (wrap64 (x3 + 1)) ≤ t115 then (if t115 ≤ (x0.size : Int) then ((version_zzBlanks.f k x0 t115).bind fun t116 => (if t116 < (x0.size : Int) then (some ([] : List ByteArray)) else (some (([x0, x4, x0.extract ((wrap64 (x3 + 1)) : Int).toNat (t115 : Int).toNat] : List ByteArray))))) else (none)) else (none)) else (none)) else ((version_zzBlanks.f k x0 x3).bind fun t120 => (if t120 < (x0.size : Int) then (some ([] : List ByteArray)) else (some (([x0, x4, x5] : List ByteArray))))))) else ((version_zzBlanks.f k x0 x3).bind fun t124 => (if t124 < (x0.size : Int) then (some ([] : List ByteArray)) else (some (([x0, x4, x5] : List ByteArray)))))
end
def version_zzExtra.f (k : Nat) (a0 : ByteArray) : Option (List ByteArray) := if 0 < (a0.size : Int) then (version_zzExtra.j0 k a0 0 (⟨#[]⟩ : ByteArray) (⟨#[]⟩ : ByteArray) ((bt a0 0) == 45)) else (version_zzExtra.j0 k a0 0 (⟨#[]⟩ : ByteArray) (⟨#[]⟩ : ByteArray) false)
set_option maxHeartbeats 8000000 in
set_option maxRecDepth 100000 in
theorem version_zzExtra.calls (k : Nat) (a0 : ByteArray) (r : List ByteArray) (w : World) (h : version_zzExtra.f k a0 = some r) :
  Calls Tryd.prog 75 #[.string a0] w fun e w' => ∃ v0_ : Value, e = .returned (v0_) ∧ Kd.R Kd.string 9 w' w.heap.size (fun _ => True) v0_ r ∧ (r = [] → v0_ = Value.slice none 0 0) ∧ Below w.heap.size w w' := by
 have HB := Aside0.mk (Below.refl w.heap.size w)
 have H : (if 0 < (a0.size : Int) then (version_zzExtra.j0 k a0 0 (⟨#[]⟩ : ByteArray) (⟨#[]⟩ : ByteArray) ((bt a0 0) == 45)) else (version_zzExtra.j0 k a0 0 (⟨#[]⟩ : ByteArray) (⟨#[]⟩ : ByteArray) false)) = some r := h
 clear h
 have HC2 := Aside0.mk H
 clear H
 go_enter Tryd.func75, Tryd.ntmps75
 go_upto_region 2 with (fail)
 go_cut [17] (fun v17 wc => ∃ (kq : Nat) (x17_1 : Bool), v17 = .bool x17_1 ∧ Aside0 (version_zzExtra.j0 kq a0 0 (⟨#[]⟩ : ByteArray) (⟨#[]⟩ : ByteArray) x17_1 = some r) ∧ Aside0 (kq ≤ k) ∧ Aside0 (Below w.heap.size w wc))
 case first =>
  have H := HC2.out
  clear HC2
  by_cases c3 : 0 < (a0.size : Int)
  ·rw [if_pos c3] at H
   have c3b0 : decide (0 < (a0.size : Int)) = true := decide_eq_true c3
   have c3b1 : decide (0 < a0.size) = true := decide_eq_true (by omega)
   clear c3
   (first | rw [c3b0] | (simp only [i64_w, i32_w]; rw [c3b0]) | skip)
   have H' := Aside0.mk H
   clear H
   have p4 : 0 ≤ (0 : Int) := (by omega)
   have q4 : 0 < a0.size := (by have : (0 : Int) < (a0.size : Int) := of_decide_eq_true (by assumption); omega)
   have hx4 : ∀ h : 0 < a0.size, ((a0[0]'h).toNat : Int) = bt a0 0 := bt_at a0 0
   clear p4
   have qi4 : (0 < (a0.size : Int)) = True := eq_true (of_decide_eq_true (by assumption))
   replace q4 := eq_true q4
   go_wp2
   go_meet
   case rel => exact ⟨_, (((bt a0 0) == 45)), (by first | rfl | (simp; done) | (simp [*]; done)), H', ⟨by first | omega | exact Nat.le_refl _⟩, ⟨by repeat (first | (with_reducible first | exact HB.out | apply below_alloc | apply pw_below_drewN | apply below_drew1) | exact HB.out)⟩⟩
  ·rw [if_neg c3] at H
   have c3b0 : decide (0 < (a0.size : Int)) = false := decide_eq_false c3
   have c3b1 : decide (0 < a0.size) = false := decide_eq_false (by omega)
   clear c3
   (first | rw [c3b0] | (simp only [i64_w, i32_w]; rw [c3b0]) | skip)
   have H' := Aside0.mk H
   clear H
   go_wp2
   go_meet
   case rel => exact ⟨_, (false), (by first | rfl | (simp; done) | (simp [*]; done)), H', ⟨by first | omega | exact Nat.le_refl _⟩, ⟨by repeat (first | (with_reducible first | exact HB.out | apply below_alloc | apply pw_below_drewN | apply below_drew1) | exact HB.out)⟩⟩
 case rest =>
  clear HC2
  try clear p2
  try clear c3
  try clear c3b0
  try clear c3b1
  try clear p4
  try clear q4
  try clear hx4
  try clear qi4
  try clear p4
  try clear q4
  obtain ⟨kq, x17_1, rfl, HA, HJ1, HB⟩ := hcut
  cases kq with
  | zero => exact absurd HA.out (by simp [version_zzExtra.j0])
  | succ kj1 =>
   have H := HA.out
   clear HA
   simp only [version_zzExtra.j0] at H
   have HC5 := Aside0.mk H
   clear H
   go_upto_if 17 with (fail)
   go_cut [3, 4] (fun v3 v4 wc => ∃ (kq : Nat) (x3_4 : Int) (x4_4 : ByteArray), v3 = .int .i64 x3_4 ∧ v4 = .string x4_4 ∧ Aside0 (version_zzExtra.j1 kq a0 x3_4 x4_4 (⟨#[]⟩ : ByteArray) = some r) ∧ Aside0 (kq ≤ kj1) ∧ Aside0 (Below w.heap.size w wc))
   case first =>
    have H := HC5.out
    clear HC5
    by_cases c6 : x17_1 = true
    ·subst c6
     have H1 : ((version_zzWords.f kj1 a0 (1 : Int)).bind fun t114 => (if t114 > (1 : Int) then (if 0 ≤ (1 : Int) then (if (1 : Int) ≤ t114 then (if t114 ≤ (a0.size : Int) then (version_zzExtra.j1 kj1 a0 t114 (a0.extract ((1 : Int) : Int).toNat (t114 : Int).toNat) (⟨#[]⟩ : ByteArray)) else (none)) else (none)) else (none)) else (version_zzExtra.j1 kj1 a0 0 (⟨#[]⟩ : ByteArray) (⟨#[]⟩ : ByteArray)))) = some r := by rw [if_pos rfl] at H; rw [show wrap64 (0 + 1) = 1 from by first | kernel_rfl | (unfold wrap64; omega) | (simp [wrap64]; done)] at H; exact H
     clear H
     have H := H1
     clear H1
     replace H := Option.bind_eq_some_iff.mp H
     obtain ⟨t114, A70, H⟩ := H
     replace H : (if t114 > (1 : Int) then (if 0 ≤ (1 : Int) then (if (1 : Int) ≤ t114 then (if t114 ≤ (a0.size : Int) then (version_zzExtra.j1 kj1 a0 t114 (a0.extract ((1 : Int) : Int).toNat (t114 : Int).toNat) (⟨#[]⟩ : ByteArray)) else (none)) else (none)) else (none)) else (version_zzExtra.j1 kj1 a0 0 (⟨#[]⟩ : ByteArray) (⟨#[]⟩ : ByteArray))) = some r := H
     have A7 := Aside0.mk A70
     clear A70
     by_cases c8 : t114 > (1 : Int)
     ·rw [if_pos c8] at H
      have c8b0 : decide ((1 : Int) < t114) = true := decide_eq_true c8
      clear c8
      (first | rw [c8b0] | (simp only [i64_w, i32_w]; rw [c8b0]) | skip)
      by_cases c10 : 0 ≤ (1 : Int)
      ·rw [if_pos c10] at H
       have c10b0 := eq_true c10
       have c10b1 : decide (0 ≤ (1 : Int)) = true := decide_eq_true c10
       clear c10
       by_cases c11 : (1 : Int) ≤ t114
       ·rw [if_pos c11] at H
        have c11b0 := eq_true c11
        have c11b1 : decide ((1 : Int) ≤ t114) = true := decide_eq_true c11
        clear c11
        by_cases c12 : t114 ≤ (a0.size : Int)
        ·rw [if_pos c12] at H
         have c12b0 := eq_true c12
         have c12b1 : decide (t114 ≤ (a0.size : Int)) = true := decide_eq_true c12
         clear c12
         have H' := Aside0.mk H
         clear H
         go_wp2_with (first | ((with_reducible refine gate_callee (f := 88) rfl ?_); refine goesL_ (some 21) rfl rfl Tryd.func88 (by kernel_rfl) rfl #[.string a0, .int .i64 (1 : Int)] rfl (by (try simp only [List.map_toArray, List.map_cons, List.map_nil]); first | done | rfl | (simp only [List.length_drop, List.length_take]; rfl)) ?_; (with_reducible refine (version_zzWords.calls kj1 a0 (1 : Int) t114 _ A7.out).mono ?_); rintro e w' ⟨rfl, ⟨nd, rfl⟩⟩; refine ⟨_, rfl, ?_⟩))
         go_meet
         case rel => exact ⟨_, (t114), (a0.extract ((1 : Int) : Int).toNat (t114 : Int).toNat), (by first | rfl | (simp; done) | (simp [*]; done)), (by first | rfl | (simp; done) | (simp [*]; done)), H', ⟨by have := HJ1.out; first | omega | exact Nat.le_refl _⟩, ⟨by repeat (first | (with_reducible first | exact HB.out | apply below_alloc | apply pw_below_drewN | apply below_drew1) | exact HB.out)⟩⟩
        ·rw [if_neg c12] at H
         exact absurd H (by simp)
       ·rw [if_neg c11] at H
        exact absurd H (by simp)
      ·rw [if_neg c10] at H
       exact absurd H (by simp)
     ·rw [if_neg c8] at H
      have c8b0 : decide ((1 : Int) < t114) = false := decide_eq_false c8
      clear c8
      (first | rw [c8b0] | (simp only [i64_w, i32_w]; rw [c8b0]) | skip)
      have H' := Aside0.mk H
      clear H
      go_wp2_with (first | ((with_reducible refine gate_callee (f := 88) rfl ?_); refine goesL_ (some 21) rfl rfl Tryd.func88 (by kernel_rfl) rfl #[.string a0, .int .i64 (1 : Int)] rfl (by (try simp only [List.map_toArray, List.map_cons, List.map_nil]); first | done | rfl | (simp only [List.length_drop, List.length_take]; rfl)) ?_; (with_reducible refine (version_zzWords.calls kj1 a0 (1 : Int) t114 _ A7.out).mono ?_); rintro e w' ⟨rfl, ⟨nd, rfl⟩⟩; refine ⟨_, rfl, ?_⟩))
      go_meet
      case rel => exact ⟨_, (0), ((⟨#[]⟩ : ByteArray)), (by first | rfl | (simp; done) | (simp [*]; done)), (by first | rfl | (simp; done) | (simp [*]; done)), H', ⟨by have := HJ1.out; first | omega | exact Nat.le_refl _⟩, ⟨by repeat (first | (with_reducible first | exact HB.out | apply below_alloc | apply pw_below_drewN | apply below_drew1) | exact HB.out)⟩⟩
    ·replace c6 := Bool.eq_false_iff.mpr c6
     subst c6
     have H1 : (version_zzExtra.j1 kj1 a0 0 (⟨#[]⟩ : ByteArray) (⟨#[]⟩ : ByteArray)) = some r := by rw [if_neg (show ¬ (false = true) by decide)] at H; exact H
     clear H
     have H := H1
     clear H1
     have H' := Aside0.mk H
     clear H
     go_wp2
     go_meet
     case rel => exact ⟨_, (0), ((⟨#[]⟩ : ByteArray)), (by first | rfl | (simp; done) | (simp [*]; done)), (by first | rfl | (simp; done) | (simp [*]; done)), H', ⟨by have := HJ1.out; first | omega | exact Nat.le_refl _⟩, ⟨by repeat (first | (with_reducible first | exact HB.out | apply below_alloc | apply pw_below_drewN | apply below_drew1) | exact HB.out)⟩⟩
   case rest =>
    clear HC5
    try clear c1
    try clear p2
    try clear c3
    try clear c3b0
    try clear c3b1
    try clear p4
    try clear q4
    try clear hx4
    try clear qi4
    try clear c6
    try clear p6
    try clear c7
    try clear c8
    try clear c8b0
    try clear c10
    try clear c10b0
    try clear c10b1
    try clear c11
    try clear c11b0
    try clear c11b1
    try clear c12
    try clear c12b0
    try clear c12b1
    try clear p2
    try clear p4
    try clear q4
    obtain ⟨kq, x3_4, x4_4, rfl, rfl, HA, HJ4, HB⟩ := hcut
    cases kq with
    | zero => exact absurd HA.out (by simp [version_zzExtra.j1])
    | succ kj4 =>
     have H := HA.out
     clear HA
     simp only [version_zzExtra.j1] at H
     have HC13 := Aside0.mk H
     clear H
     go_upto_region 6 with (fail)
     go_cut [41] (fun v41 wc => ∃ (kq : Nat) (x41_12 : Bool), v41 = .bool x41_12 ∧ Aside0 (version_zzExtra.j2 kq a0 x3_4 x4_4 (⟨#[]⟩ : ByteArray) x41_12 = some r) ∧ Aside0 (kq ≤ kj4) ∧ Aside0 (Below w.heap.size w wc))
     case first =>
      have H := HC13.out
      clear HC13
      by_cases c14 : x3_4 < (a0.size : Int)
      ·rw [if_pos c14] at H
       have c14b0 : decide (x3_4 < (a0.size : Int)) = true := decide_eq_true c14
       clear c14
       (first | rw [c14b0] | (simp only [i64_w, i32_w]; rw [c14b0]) | skip)
       by_cases c15 : 0 ≤ x3_4
       ·rw [if_pos c15] at H
        have c15b0 : decide (0 ≤ x3_4) = true := decide_eq_true c15
        clear c15
        have H' := Aside0.mk H
        clear H
        have p16 : 0 ≤ (x3_4 : Int) := of_decide_eq_true (by assumption)
        have q16 : x3_4 < (a0.size : Int) := of_decide_eq_true (by assumption)
        have hx16 := bt_at a0 x3_4
        replace p16 := eq_true p16
        replace q16 := eq_true q16
        go_wp2
        go_meet
        case rel => exact ⟨_, (((bt a0 x3_4) == 43)), (by first | rfl | (simp; done) | (simp [*]; done)), H', ⟨by have := HJ1.out; have := HJ4.out; first | omega | exact Nat.le_refl _⟩, ⟨by repeat (first | (with_reducible first | exact HB.out | apply below_alloc | apply pw_below_drewN | apply below_drew1) | exact HB.out)⟩⟩
       ·rw [if_neg c15] at H
        exact absurd H (by simp)
      ·rw [if_neg c14] at H
       have c14b0 : decide (x3_4 < (a0.size : Int)) = false := decide_eq_false c14
       clear c14
       (first | rw [c14b0] | (simp only [i64_w, i32_w]; rw [c14b0]) | skip)
       have H' := Aside0.mk H
       clear H
       go_wp2
       go_meet
       case rel => exact ⟨_, (false), (by first | rfl | (simp; done) | (simp [*]; done)), H', ⟨by have := HJ1.out; have := HJ4.out; first | omega | exact Nat.le_refl _⟩, ⟨by repeat (first | (with_reducible first | exact HB.out | apply below_alloc | apply pw_below_drewN | apply below_drew1) | exact HB.out)⟩⟩
     case rest =>
      clear HC13
      try clear c1
      try clear p1
      try clear q1
      try clear hx1
      try clear p2
      try clear c3
      try clear c3b0
      try clear c3b1
      try clear p4
      try clear q4
      try clear hx4
      try clear qi4
      try clear c6
      try clear p6
      try clear c7
      try clear c8
      try clear c8b0
      try clear c10
      try clear c10b0
      try clear c10b1
      try clear c11
      try clear c11b0
      try clear c11b1
      try clear c12
      try clear c12b0
      try clear c12b1
      try clear c14
      try clear c14b0
      try clear c15
      try clear c15b0
      try clear p16
      try clear q16
      try clear hx16
      try clear p16
      try clear p2
      try clear p4
      try clear p6
      try clear q16
      try clear q4
      obtain ⟨kq, x41_12, rfl, HA, HJ12, HB⟩ := hcut
      cases kq with
      | zero => exact absurd HA.out (by simp [version_zzExtra.j2])
      | succ kj12 =>
       have H := HA.out
       clear HA
       simp only [version_zzExtra.j2] at H
       by_cases c17 : x41_12 = true
       ·subst c17
        have H1 : ((version_zzWords.f kj12 a0 (wrap64 (x3_4 + 1))).bind fun t115 => (if t115 > (wrap64 (x3_4 + 1)) then (if 0 ≤ (wrap64 (x3_4 + 1)) then (if (wrap64 (x3_4 + 1)) ≤ t115 then (if t115 ≤ (a0.size : Int) then ((version_zzBlanks.f kj12 a0 t115).bind fun t116 => (if t116 < (a0.size : Int) then (some ([] : List ByteArray)) else (some (([a0, x4_4, a0.extract ((wrap64 (x3_4 + 1)) : Int).toNat (t115 : Int).toNat] : List ByteArray))))) else (none)) else (none)) else (none)) else ((version_zzBlanks.f kj12 a0 x3_4).bind fun t120 => (if t120 < (a0.size : Int) then (some ([] : List ByteArray)) else (some (([a0, x4_4, (⟨#[]⟩ : ByteArray)] : List ByteArray))))))) = some r := by rw [if_pos rfl] at H; exact H
        clear H
        have H := H1
        clear H1
        replace H := Option.bind_eq_some_iff.mp H
        obtain ⟨t115, A180, H⟩ := H
        replace H : (if t115 > (wrap64 (x3_4 + 1)) then (if 0 ≤ (wrap64 (x3_4 + 1)) then (if (wrap64 (x3_4 + 1)) ≤ t115 then (if t115 ≤ (a0.size : Int) then ((version_zzBlanks.f kj12 a0 t115).bind fun t116 => (if t116 < (a0.size : Int) then (some ([] : List ByteArray)) else (some (([a0, x4_4, a0.extract ((wrap64 (x3_4 + 1)) : Int).toNat (t115 : Int).toNat] : List ByteArray))))) else (none)) else (none)) else (none)) else ((version_zzBlanks.f kj12 a0 x3_4).bind fun t120 => (if t120 < (a0.size : Int) then (some ([] : List ByteArray)) else (some (([a0, x4_4, (⟨#[]⟩ : ByteArray)] : List ByteArray)))))) = some r := H
        have A18 := Aside0.mk A180
        clear A180
        by_cases c19 : t115 > (wrap64 (x3_4 + 1))
        ·rw [if_pos c19] at H
         have c19b0 : decide ((wrap64 (x3_4 + 1)) < t115) = true := decide_eq_true c19
         clear c19
         obtain ⟨ji20, hji20⟩ : ∃ j_ : Int, (wrap64 (x3_4 + 1)) = j_ := ⟨_, rfl⟩
         replace H : (if 0 ≤ (ji20) then (if (ji20) ≤ t115 then (if t115 ≤ (a0.size : Int) then ((version_zzBlanks.f kj12 a0 t115).bind fun t116 => (if t116 < (a0.size : Int) then (some ([] : List ByteArray)) else (some (([a0, x4_4, a0.extract ((ji20) : Int).toNat (t115 : Int).toNat] : List ByteArray))))) else (none)) else (none)) else (none)) = some r := by first | (rw [hji20] at H; exact H) | (simp only [hji20] at H ⊢; exact H)
         (try rw [hji20] at c19b0)
         (try rw [hji20] at A18)
         have hji20w : (IntKind.i64.wrap (x3_4 + 1)) = ji20 := (i64_w _).trans hji20
         by_cases c21 : 0 ≤ (ji20)
         ·rw [if_pos c21] at H
          have c21b0 := eq_true c21
          have c21b1 : decide (0 ≤ (ji20)) = true := decide_eq_true c21
          clear c21
          by_cases c22 : (ji20) ≤ t115
          ·rw [if_pos c22] at H
           have c22b0 := eq_true c22
           have c22b1 : decide ((ji20) ≤ t115) = true := decide_eq_true c22
           clear c22
           by_cases c23 : t115 ≤ (a0.size : Int)
           ·rw [if_pos c23] at H
            have c23b0 := eq_true c23
            have c23b1 : decide (t115 ≤ (a0.size : Int)) = true := decide_eq_true c23
            clear c23
            replace H := Option.bind_eq_some_iff.mp H
            obtain ⟨t116, A240, H⟩ := H
            replace H : (if t116 < (a0.size : Int) then (some ([] : List ByteArray)) else (some (([a0, x4_4, a0.extract ((ji20) : Int).toNat (t115 : Int).toNat] : List ByteArray)))) = some r := H
            have A24 := Aside0.mk A240
            clear A240
            by_cases c25 : t116 < (a0.size : Int)
            ·rw [if_pos c25] at H
             have c25b0 : decide (t116 < (a0.size : Int)) = true := decide_eq_true c25
             clear c25
             obtain rfl := Option.some.inj H
             go_wp2_with (first | ((with_reducible refine gate_callee (f := 88) rfl ?_); refine goesL_ (some 45) rfl rfl Tryd.func88 (by kernel_rfl) rfl #[.string a0, .int .i64 ji20] rfl (by (try simp only [List.map_toArray, List.map_cons, List.map_nil]); first | done | (simp only [hji20]; rfl) | rfl | (simp only [List.length_drop, List.length_take]; rfl)) ?_; (with_reducible refine (version_zzWords.calls kj12 a0 ji20 t115 _ A18.out).mono ?_); rintro e w' ⟨rfl, ⟨nd, rfl⟩⟩; refine ⟨_, rfl, ?_⟩) | ((with_reducible refine gate_callee (f := 82) rfl ?_); refine goesL_ (some 58) rfl rfl Tryd.func82 (by kernel_rfl) rfl #[.string a0, .int .i64 t115] rfl (by (try simp only [List.map_toArray, List.map_cons, List.map_nil]); first | done | rfl | (simp only [List.length_drop, List.length_take]; rfl)) ?_; (with_reducible refine (version_zzBlanks.calls kj12 a0 t115 t116 _ A24.out).mono ?_); rintro e w' ⟨rfl, ⟨nd, rfl⟩⟩; refine ⟨_, rfl, ?_⟩))
             go_ret
             exact ⟨_, by first | rfl | (simp [errW_none, errW_some] <;> rfl) | (simp only [← hji20]; first | rfl | (simp [errW_none, errW_some] <;> rfl)) | (simp [*, errW_none, errW_some] <;> rfl), by first | exact Kd.R_nil _ _ _ _ _ | exact Kd.N_nil _ _ _ _ _ | exact Kd.V_nil _ _ _ _ _ | exact Kd.Q_nil _ _ _ _ _ | exact Kd.S_nil _ _ _ _ _, by first | (intro _; rfl) | rfl | (intro h_; cases h_), by repeat (first | (with_reducible first | exact HB.out | apply below_alloc | apply pw_below_drewN | apply below_drew1) | exact HB.out)⟩
            ·rw [if_neg c25] at H
             have c25b0 : decide (t116 < (a0.size : Int)) = false := decide_eq_false c25
             clear c25
             obtain ⟨y117, hy117⟩ : ∃ y_ : List ByteArray, y_ = (([a0, x4_4, a0.extract ((ji20) : Int).toNat (t115 : Int).toNat] : List ByteArray)) := ⟨_, rfl⟩
             replace H : (some y117) = some r := by first | (rw [hy117]; with_reducible exact H) | (have H2_ := (Option.bind_some _ _).symm.trans H; rw [hy117]; with_reducible exact H2_) | (have H2_ := (Option.bind_some _ _).symm.trans H; with_reducible exact H2_) | with_reducible exact H | (rw [hy117]; exact H) | exact H
             have Ny117 := Aside0.mk hy117
             clear hy117
             obtain rfl := Option.some.inj H
             go_wp2_with (first | ((with_reducible refine gate_callee (f := 88) rfl ?_); refine goesL_ (some 45) rfl rfl Tryd.func88 (by kernel_rfl) rfl #[.string a0, .int .i64 ji20] rfl (by (try simp only [List.map_toArray, List.map_cons, List.map_nil]); first | done | (simp only [hji20]; rfl) | rfl | (simp only [List.length_drop, List.length_take]; rfl)) ?_; (with_reducible refine (version_zzWords.calls kj12 a0 ji20 t115 _ A18.out).mono ?_); rintro e w' ⟨rfl, ⟨nd, rfl⟩⟩; refine ⟨_, rfl, ?_⟩) | ((with_reducible refine gate_callee (f := 82) rfl ?_); refine goesL_ (some 58) rfl rfl Tryd.func82 (by kernel_rfl) rfl #[.string a0, .int .i64 t115] rfl (by (try simp only [List.map_toArray, List.map_cons, List.map_nil]); first | done | rfl | (simp only [List.length_drop, List.length_take]; rfl)) ?_; (with_reducible refine (version_zzBlanks.calls kj12 a0 t115 t116 _ A24.out).mono ?_); rintro e w' ⟨rfl, ⟨nd, rfl⟩⟩; refine ⟨_, rfl, ?_⟩) | ((with_reducible refine gate_dst (N := 65) rfl ?_); refine Kd.R_lit Kd.string _ 9 ?hg (N := 65) ?hd (xs := ([a0, x4_4, a0.extract ((ji20) : Int).toNat (t115 : Int).toNat] : List ByteArray)) (inner := [.string a0, .string x4_4, .string (a0.extract ((ji20) : Int).toNat (t115 : Int).toNat)]) (ok := fun _ => True) (okp := fun _ => True) ?hr ?hp (fun _ hk => hk) trivial (Below.refl _ _) (Nat.le_refl _) (by simp) ?_; (case hd => rfl); (case hg => rfl); (case hr => first | (go_simp; done) | (go_simp; rfl)); (case hp => exact (Reps.one (show Kd.M Kd.string _ _ _ a0 [.string a0] from rfl) (Reps.one (show Kd.M Kd.string _ _ _ x4_4 [.string x4_4] from rfl) (Reps.one (show Kd.M Kd.string _ _ _ (a0.extract ((ji20) : Int).toNat (t115 : Int).toNat) [.string (a0.extract ((ji20) : Int).toNat (t115 : Int).toNat)] from rfl) (Reps.none _ _))))); intro v118 w26 ho27 hb hg_ hnew_; clear hg_ hnew_; (first | rw [← Ny117.out] at ho27 | (simp only [Int.reduceToNat] at ho27; rw [← Ny117.out] at ho27)); have n0_ := Aside0.mk (Kd.R_lower ho27 (below_size (by repeat (first | (with_reducible first | exact HB.out | apply below_alloc | apply pw_below_drewN | apply below_drew1) | exact HB.out)))); have n1_ := Aside0.mk (below_step (by repeat (first | (with_reducible first | exact HB.out | apply below_alloc | apply pw_below_drewN | apply below_drew1) | exact HB.out)) hb); clear HB; have HO119 := n0_; have HB := n1_; clear n0_ n1_; clear hb ho27))
             go_ret
             exact ⟨_, by first | rfl | (simp [errW_none, errW_some] <;> rfl) | (simp only [← hji20]; first | rfl | (simp [errW_none, errW_some] <;> rfl)) | (simp [*, errW_none, errW_some] <;> rfl), by (with_reducible repeat (first | apply Kd.R_alloc | apply Kd.R_drewN | apply Kd.R_drew)); exact HO119.out, by intro h_; exact absurd (h_.symm.trans Ny117.out) (by simp), by repeat (first | (with_reducible first | exact HB.out | apply below_alloc | apply pw_below_drewN | apply below_drew1) | exact HB.out)⟩
           ·rw [if_neg c23] at H
            exact absurd H (by simp)
          ·rw [if_neg c22] at H
           exact absurd H (by simp)
         ·rw [if_neg c21] at H
          exact absurd H (by simp)
        ·rw [if_neg c19] at H
         have c19b0 : decide ((wrap64 (x3_4 + 1)) < t115) = false := decide_eq_false c19
         clear c19
         replace H := Option.bind_eq_some_iff.mp H
         obtain ⟨t120, A280, H⟩ := H
         replace H : (if t120 < (a0.size : Int) then (some ([] : List ByteArray)) else (some (([a0, x4_4, (⟨#[]⟩ : ByteArray)] : List ByteArray)))) = some r := H
         have A28 := Aside0.mk A280
         clear A280
         by_cases c29 : t120 < (a0.size : Int)
         ·rw [if_pos c29] at H
          have c29b0 : decide (t120 < (a0.size : Int)) = true := decide_eq_true c29
          clear c29
          obtain rfl := Option.some.inj H
          go_wp2_with (first | ((with_reducible refine gate_callee (f := 88) rfl ?_); refine goesL_ (some 45) rfl rfl Tryd.func88 (by kernel_rfl) rfl #[.string a0, .int .i64 (wrap64 (x3_4 + 1))] rfl (by (try simp only [List.map_toArray, List.map_cons, List.map_nil]); first | done | rfl | (simp only [List.length_drop, List.length_take]; rfl)) ?_; (with_reducible refine (version_zzWords.calls kj12 a0 (wrap64 (x3_4 + 1)) t115 _ A18.out).mono ?_); rintro e w' ⟨rfl, ⟨nd, rfl⟩⟩; refine ⟨_, rfl, ?_⟩) | ((with_reducible refine gate_callee (f := 82) rfl ?_); refine goesL_ (some 58) rfl rfl Tryd.func82 (by kernel_rfl) rfl #[.string a0, .int .i64 x3_4] rfl (by (try simp only [List.map_toArray, List.map_cons, List.map_nil]); first | done | rfl | (simp only [List.length_drop, List.length_take]; rfl)) ?_; (with_reducible refine (version_zzBlanks.calls kj12 a0 x3_4 t120 _ A28.out).mono ?_); rintro e w' ⟨rfl, ⟨nd, rfl⟩⟩; refine ⟨_, rfl, ?_⟩))
          go_ret
          exact ⟨_, by first | rfl | (simp [errW_none, errW_some] <;> rfl) | (simp [*, errW_none, errW_some] <;> rfl), by first | exact Kd.R_nil _ _ _ _ _ | exact Kd.N_nil _ _ _ _ _ | exact Kd.V_nil _ _ _ _ _ | exact Kd.Q_nil _ _ _ _ _ | exact Kd.S_nil _ _ _ _ _, by first | (intro _; rfl) | rfl | (intro h_; cases h_), by repeat (first | (with_reducible first | exact HB.out | apply below_alloc | apply pw_below_drewN | apply below_drew1) | exact HB.out)⟩
         ·rw [if_neg c29] at H
          have c29b0 : decide (t120 < (a0.size : Int)) = false := decide_eq_false c29
          clear c29
          obtain ⟨y121, hy121⟩ : ∃ y_ : List ByteArray, y_ = (([a0, x4_4, (⟨#[]⟩ : ByteArray)] : List ByteArray)) := ⟨_, rfl⟩
          replace H : (some y121) = some r := by first | (rw [hy121]; with_reducible exact H) | (have H2_ := (Option.bind_some _ _).symm.trans H; rw [hy121]; with_reducible exact H2_) | (have H2_ := (Option.bind_some _ _).symm.trans H; with_reducible exact H2_) | with_reducible exact H | (rw [hy121]; exact H) | exact H
          have Ny121 := Aside0.mk hy121
          clear hy121
          obtain rfl := Option.some.inj H
          go_wp2_with (first | ((with_reducible refine gate_callee (f := 88) rfl ?_); refine goesL_ (some 45) rfl rfl Tryd.func88 (by kernel_rfl) rfl #[.string a0, .int .i64 (wrap64 (x3_4 + 1))] rfl (by (try simp only [List.map_toArray, List.map_cons, List.map_nil]); first | done | rfl | (simp only [List.length_drop, List.length_take]; rfl)) ?_; (with_reducible refine (version_zzWords.calls kj12 a0 (wrap64 (x3_4 + 1)) t115 _ A18.out).mono ?_); rintro e w' ⟨rfl, ⟨nd, rfl⟩⟩; refine ⟨_, rfl, ?_⟩) | ((with_reducible refine gate_callee (f := 82) rfl ?_); refine goesL_ (some 58) rfl rfl Tryd.func82 (by kernel_rfl) rfl #[.string a0, .int .i64 x3_4] rfl (by (try simp only [List.map_toArray, List.map_cons, List.map_nil]); first | done | rfl | (simp only [List.length_drop, List.length_take]; rfl)) ?_; (with_reducible refine (version_zzBlanks.calls kj12 a0 x3_4 t120 _ A28.out).mono ?_); rintro e w' ⟨rfl, ⟨nd, rfl⟩⟩; refine ⟨_, rfl, ?_⟩) | ((with_reducible refine gate_dst (N := 65) rfl ?_); refine Kd.R_lit Kd.string _ 9 ?hg (N := 65) ?hd (xs := ([a0, x4_4, (⟨#[]⟩ : ByteArray)] : List ByteArray)) (inner := [.string a0, .string x4_4, .string (⟨#[]⟩ : ByteArray)]) (ok := fun _ => True) (okp := fun _ => True) ?hr ?hp (fun _ hk => hk) trivial (Below.refl _ _) (Nat.le_refl _) (by simp) ?_; (case hd => rfl); (case hg => rfl); (case hr => first | (go_simp; done) | (go_simp; rfl)); (case hp => exact (Reps.one (show Kd.M Kd.string _ _ _ a0 [.string a0] from rfl) (Reps.one (show Kd.M Kd.string _ _ _ x4_4 [.string x4_4] from rfl) (Reps.one (show Kd.M Kd.string _ _ _ (⟨#[]⟩ : ByteArray) [.string (⟨#[]⟩ : ByteArray)] from rfl) (Reps.none _ _))))); intro v122 w30 ho31 hb hg_ hnew_; clear hg_ hnew_; (first | rw [← Ny121.out] at ho31 | (simp only [Int.reduceToNat] at ho31; rw [← Ny121.out] at ho31)); have n0_ := Aside0.mk (Kd.R_lower ho31 (below_size (by repeat (first | (with_reducible first | exact HB.out | apply below_alloc | apply pw_below_drewN | apply below_drew1) | exact HB.out)))); have n1_ := Aside0.mk (below_step (by repeat (first | (with_reducible first | exact HB.out | apply below_alloc | apply pw_below_drewN | apply below_drew1) | exact HB.out)) hb); clear HB; have HO123 := n0_; have HB := n1_; clear n0_ n1_; clear hb ho31))
          go_ret
          exact ⟨_, by first | rfl | (simp [errW_none, errW_some] <;> rfl) | (simp [*, errW_none, errW_some] <;> rfl), by (with_reducible repeat (first | apply Kd.R_alloc | apply Kd.R_drewN | apply Kd.R_drew)); exact HO123.out, by intro h_; exact absurd (h_.symm.trans Ny121.out) (by simp), by repeat (first | (with_reducible first | exact HB.out | apply below_alloc | apply pw_below_drewN | apply below_drew1) | exact HB.out)⟩
       ·replace c17 := Bool.eq_false_iff.mpr c17
        subst c17
        have H1 : ((version_zzBlanks.f kj12 a0 x3_4).bind fun t124 => (if t124 < (a0.size : Int) then (some ([] : List ByteArray)) else (some (([a0, x4_4, (⟨#[]⟩ : ByteArray)] : List ByteArray))))) = some r := by rw [if_neg (show ¬ (false = true) by decide)] at H; exact H
        clear H
        have H := H1
        clear H1
        replace H := Option.bind_eq_some_iff.mp H
        obtain ⟨t124, A320, H⟩ := H
        replace H : (if t124 < (a0.size : Int) then (some ([] : List ByteArray)) else (some (([a0, x4_4, (⟨#[]⟩ : ByteArray)] : List ByteArray)))) = some r := H
        have A32 := Aside0.mk A320
        clear A320
        by_cases c33 : t124 < (a0.size : Int)
        ·rw [if_pos c33] at H
         have c33b0 : decide (t124 < (a0.size : Int)) = true := decide_eq_true c33
         clear c33
         obtain rfl := Option.some.inj H
         go_wp2_with (first | ((with_reducible refine gate_callee (f := 82) rfl ?_); refine goesL_ (some 58) rfl rfl Tryd.func82 (by kernel_rfl) rfl #[.string a0, .int .i64 x3_4] rfl (by (try simp only [List.map_toArray, List.map_cons, List.map_nil]); first | done | rfl | (simp only [List.length_drop, List.length_take]; rfl)) ?_; (with_reducible refine (version_zzBlanks.calls kj12 a0 x3_4 t124 _ A32.out).mono ?_); rintro e w' ⟨rfl, ⟨nd, rfl⟩⟩; refine ⟨_, rfl, ?_⟩))
         go_ret
         exact ⟨_, by first | rfl | (simp [errW_none, errW_some] <;> rfl) | (simp [*, errW_none, errW_some] <;> rfl), by first | exact Kd.R_nil _ _ _ _ _ | exact Kd.N_nil _ _ _ _ _ | exact Kd.V_nil _ _ _ _ _ | exact Kd.Q_nil _ _ _ _ _ | exact Kd.S_nil _ _ _ _ _, by first | (intro _; rfl) | rfl | (intro h_; cases h_), by repeat (first | (with_reducible first | exact HB.out | apply below_alloc | apply pw_below_drewN | apply below_drew1) | exact HB.out)⟩
        ·rw [if_neg c33] at H
         have c33b0 : decide (t124 < (a0.size : Int)) = false := decide_eq_false c33
         clear c33
         obtain ⟨y125, hy125⟩ : ∃ y_ : List ByteArray, y_ = (([a0, x4_4, (⟨#[]⟩ : ByteArray)] : List ByteArray)) := ⟨_, rfl⟩
         replace H : (some y125) = some r := by first | (rw [hy125]; with_reducible exact H) | (have H2_ := (Option.bind_some _ _).symm.trans H; rw [hy125]; with_reducible exact H2_) | (have H2_ := (Option.bind_some _ _).symm.trans H; with_reducible exact H2_) | with_reducible exact H | (rw [hy125]; exact H) | exact H
         have Ny125 := Aside0.mk hy125
         clear hy125
         obtain rfl := Option.some.inj H
         go_wp2_with (first | ((with_reducible refine gate_callee (f := 82) rfl ?_); refine goesL_ (some 58) rfl rfl Tryd.func82 (by kernel_rfl) rfl #[.string a0, .int .i64 x3_4] rfl (by (try simp only [List.map_toArray, List.map_cons, List.map_nil]); first | done | rfl | (simp only [List.length_drop, List.length_take]; rfl)) ?_; (with_reducible refine (version_zzBlanks.calls kj12 a0 x3_4 t124 _ A32.out).mono ?_); rintro e w' ⟨rfl, ⟨nd, rfl⟩⟩; refine ⟨_, rfl, ?_⟩) | ((with_reducible refine gate_dst (N := 65) rfl ?_); refine Kd.R_lit Kd.string _ 9 ?hg (N := 65) ?hd (xs := ([a0, x4_4, (⟨#[]⟩ : ByteArray)] : List ByteArray)) (inner := [.string a0, .string x4_4, .string (⟨#[]⟩ : ByteArray)]) (ok := fun _ => True) (okp := fun _ => True) ?hr ?hp (fun _ hk => hk) trivial (Below.refl _ _) (Nat.le_refl _) (by simp) ?_; (case hd => rfl); (case hg => rfl); (case hr => first | (go_simp; done) | (go_simp; rfl)); (case hp => exact (Reps.one (show Kd.M Kd.string _ _ _ a0 [.string a0] from rfl) (Reps.one (show Kd.M Kd.string _ _ _ x4_4 [.string x4_4] from rfl) (Reps.one (show Kd.M Kd.string _ _ _ (⟨#[]⟩ : ByteArray) [.string (⟨#[]⟩ : ByteArray)] from rfl) (Reps.none _ _))))); intro v126 w34 ho35 hb hg_ hnew_; clear hg_ hnew_; (first | rw [← Ny125.out] at ho35 | (simp only [Int.reduceToNat] at ho35; rw [← Ny125.out] at ho35)); have n0_ := Aside0.mk (Kd.R_lower ho35 (below_size (by repeat (first | (with_reducible first | exact HB.out | apply below_alloc | apply pw_below_drewN | apply below_drew1) | exact HB.out)))); have n1_ := Aside0.mk (below_step (by repeat (first | (with_reducible first | exact HB.out | apply below_alloc | apply pw_below_drewN | apply below_drew1) | exact HB.out)) hb); clear HB; have HO127 := n0_; have HB := n1_; clear n0_ n1_; clear hb ho35))
         go_ret
         exact ⟨_, by first | rfl | (simp [errW_none, errW_some] <;> rfl) | (simp [*, errW_none, errW_some] <;> rfl), by (with_reducible repeat (first | apply Kd.R_alloc | apply Kd.R_drewN | apply Kd.R_drew)); exact HO127.out, by intro h_; exact absurd (h_.symm.trans Ny125.out) (by simp), by repeat (first | (with_reducible first | exact HB.out | apply below_alloc | apply pw_below_drewN | apply below_drew1) | exact HB.out)⟩
end Go.Proofs.YtmfgkidppchobaaDoor.XFnVersionWays

