/- A text of this session: the functions of the law FnVersionCompare, by a program that calls the kit's print and lays this session's own contracts of single functions beside. -/
import Derived.Test.YtmfgkidppchobaaDoorXFnVersionComparex0
import Derived.Test.YtmfgkidppchobaaDoorXFnVersionComparex1
import Derived.Test.YtmfgkidppchobaaDoorXFnVersionComparex2
namespace Go.Proofs.YtmfgkidppchobaaDoor.XFnVersionCompare
open Go.RowKit Go.Proofs.YtmfgkidppchobaaDoorW.PrintWords Go.Proofs.YtmfgkidppchobaaDoorW.PrintLast Go.Proofs.YtmfgkidppchobaaDoorW.PrintMore
attribute [local go_sem] max2_int min2_int max_two min_two max_three min_three max_four min_four
set_option linter.unusedVariables false
set_option linter.unusedSimpArgs false
mutual
def spec_VerIdentifiers.l0 : Nat → Bool → List ByteArray → Int → Option (Bool)
 | 0, _, _, _ => none
 | k + 1, x1, x5, x6 => if x6 < (x5.length : Int) then (spec_VerIdentifiers.l1 k x1 x5 x6 0) else (some true)
def spec_VerIdentifiers.l1 : Nat → Bool → List ByteArray → Int → Int → Option (Bool)
 | 0, _, _, _, _ => none
 | k + 1, x1, x5, x6, x7 => if 0 ≤ x6 then (if x6 < (x5.length : Int) then (if x7 < ((rdOf ByteArray.empty x5 x6).size : Int) then (if 0 ≤ x7 then ((spec_verDigit.f (bt (rdOf ByteArray.empty x5 x6) x7)).bind fun t128 => (if t128 = true then (spec_VerIdentifiers.l1 k x1 x5 x6 (wrap64 (x7 + 1))) else (if (bt (rdOf ByteArray.empty x5 x6) x7) = 45 then (spec_VerIdentifiers.l1 k x1 x5 x6 (wrap64 (x7 + 1))) else (if (bt (rdOf ByteArray.empty x5 x6) x7) < 97 then (if (bt (rdOf ByteArray.empty x5 x6) x7) < 65 then (some false) else (if (bt (rdOf ByteArray.empty x5 x6) x7) > 90 then (some false) else (spec_VerIdentifiers.l1 k x1 x5 x6 (wrap64 (x7 + 1))))) else (if (bt (rdOf ByteArray.empty x5 x6) x7) > 122 then (if (bt (rdOf ByteArray.empty x5 x6) x7) < 65 then (some false) else (if (bt (rdOf ByteArray.empty x5 x6) x7) > 90 then (some false) else (spec_VerIdentifiers.l1 k x1 x5 x6 (wrap64 (x7 + 1))))) else (spec_VerIdentifiers.l1 k x1 x5 x6 (wrap64 (x7 + 1)))))))) else (none)) else (if (rdOf ByteArray.empty x5 x6).toList = ([] : List UInt8) then (some false) else (if x1 = true then ((spec_VerNumeric.f k (rdOf ByteArray.empty x5 x6)).bind fun t131 => (if t131 = true then ((spec_VerPlainly.f (rdOf ByteArray.empty x5 x6)).bind fun t133 => (if t133 = true then (spec_VerIdentifiers.l0 k x1 x5 (wrap64 (x6 + 1))) else (some false))) else (spec_VerIdentifiers.l0 k x1 x5 (wrap64 (x6 + 1))))) else (spec_VerIdentifiers.l0 k x1 x5 (wrap64 (x6 + 1)))))) else (none)) else (none)
end
def spec_VerIdentifiers.f (k : Nat) (a0 : ByteArray) (a1 : Bool) : Option (Bool) := (spec_VerSplit.f k a0).bind fun t123 => (spec_VerIdentifiers.l0 k a1 t123 0)
set_option maxHeartbeats 8000000 in
set_option maxRecDepth 100000 in
theorem spec_VerIdentifiers.calls (k : Nat) (a0 : ByteArray) (a1 : Bool) (r : Bool) (w : World) (h : spec_VerIdentifiers.f k a0 a1 = some r) :
  Calls Tryd.prog 53 #[.string a0, .bool a1] w fun e w' => e = .returned (.bool r) ∧ Below w.heap.size w w' := by
 have HB := Aside0.mk (Below.refl w.heap.size w)
 have H : ((spec_VerSplit.f k a0).bind fun t123 => (spec_VerIdentifiers.l0 k a1 t123 0)) = some r := h
 clear h
 replace H := Option.bind_eq_some_iff.mp H
 obtain ⟨t123, A30, H⟩ := H
 replace H : (spec_VerIdentifiers.l0 k a1 t123 0) = some r := H
 have A3 := Aside0.mk A30
 clear A30
 have H' := Aside0.mk H
 clear H
 go_enter Tryd.func53, Tryd.ntmps53
 go_wp2_with (first | ((with_reducible refine gate_callee (f := 29) rfl ?_); refine goesL_ (some 10) rfl rfl Tryd.func29 (by kernel_rfl) rfl #[.string a0] rfl (by (try simp only [List.map_toArray, List.map_cons, List.map_nil]); first | done | rfl | (simp only [List.length_drop, List.length_take]; rfl)) ?_; (with_reducible refine (spec_VerSplit.calls k a0 t123 _ A3.out).mono ?_); rintro e w4 ⟨v124, rfl, ho0, hb⟩; refine ⟨_, rfl, ?_⟩; have n0_ := Aside0.mk (Kd.R_lower ho0 (below_size (by repeat (first | (with_reducible first | exact HB.out | apply below_alloc | apply pw_below_drewN | apply below_drew1) | exact HB.out)))); have n1_ := Aside0.mk (below_step (by repeat (first | (with_reducible first | exact HB.out | apply below_alloc | apply pw_below_drewN | apply below_drew1) | exact HB.out)) hb); clear HB; have HO125 := n0_; have HB := n1_; clear n0_ n1_; (try clear hb); (try clear hb2); (try clear hk); (try clear hi); (try clear ho0)))
 go_loopg [6] k (fun kq v6 w' => ∃ (x6_1 : Int), v6 = .int .i64 x6_1 ∧ Aside0 (spec_VerIdentifiers.l0 kq a1 t123 x6_1 = some r) ∧ Aside0 (kq ≤ k) ∧ Aside0 (Kd.R Kd.string 9 w' w.heap.size (fun _ => True) v124 t123) ∧ Aside0 (Below w.heap.size w w'))
 case atStart => exact ⟨(0), (by first | rfl | (simp; done) | (simp [*]; done)), H', ⟨Nat.le_refl _⟩, ⟨by (with_reducible repeat (first | apply Kd.R_alloc | apply Kd.R_drewN | apply Kd.R_drew)); exact HO125.out⟩, ⟨by repeat (first | (with_reducible first | exact HB.out | apply below_alloc | apply pw_below_drewN | apply below_drew1) | exact HB.out)⟩⟩
 case round =>
  clear H'
  try clear c2
  try clear p2
  obtain ⟨x6_1, rfl, HA, HK1, HO_5, HB⟩ := hrel
  cases gk with
  | zero => exact absurd HA.out (by simp [spec_VerIdentifiers.l0])
  | succ k1 =>
   have H := HA.out
   clear HA
   simp only [spec_VerIdentifiers.l0] at H
   by_cases c5 : x6_1 < (t123.length : Int)
   ·rw [if_pos c5] at H
    have c5b0 : decide (x6_1 < (t123.length : Int)) = true := decide_eq_true c5
    clear c5
    have H' := Aside0.mk H
    clear H
    obtain ⟨Ao6, co6, eo6⟩ := Kd.R_slice HO_5.out
    subst eo6
    go_wp2
    go_loopg [7] k1 (fun kq v7 w' => ∃ (x7_2 : Int), v7 = .int .i64 x7_2 ∧ Aside0 (spec_VerIdentifiers.l1 kq a1 t123 x6_1 x7_2 = some r) ∧ Aside0 (kq ≤ k1) ∧ Aside0 (Kd.R Kd.string 9 w' w.heap.size (fun _ => True) (.slice Ao6 t123.length co6) t123) ∧ Aside0 (Below w.heap.size w w'))
    case atStart => exact ⟨(0), (by first | rfl | (simp; done) | (simp [*]; done)), H', ⟨Nat.le_refl _⟩, ⟨by (with_reducible repeat (first | apply Kd.R_alloc | apply Kd.R_drewN | apply Kd.R_drew)); exact HO_5.out⟩, ⟨by repeat (first | (with_reducible first | exact HB.out | apply below_alloc | apply pw_below_drewN | apply below_drew1) | exact HB.out)⟩⟩
    case round =>
     clear H'
     try clear c2
     try clear p2
     try clear c5
     try clear c5b0
     try clear p2
     obtain ⟨x7_2, rfl, HA, HK2, HO_5, HB⟩ := hrel
     cases gk with
     | zero => exact absurd HA.out (by simp [spec_VerIdentifiers.l1])
     | succ k2 =>
      have H := HA.out
      clear HA
      simp only [spec_VerIdentifiers.l1] at H
      by_cases c7 : 0 ≤ x6_1
      ·rw [if_pos c7] at H
       have c7b0 : decide (0 ≤ x6_1) = true := decide_eq_true c7
       clear c7
       by_cases c8 : x6_1 < (t123.length : Int)
       ·rw [if_pos c8] at H
        have c8b0 : decide (x6_1 < (t123.length : Int)) = true := decide_eq_true c8
        clear c8
        by_cases c9 : x7_2 < ((rdOf ByteArray.empty t123 x6_1).size : Int)
        ·rw [if_pos c9] at H
         have c9b0 : decide (x7_2 < ((rdOf ByteArray.empty t123 x6_1).size : Int)) = true := decide_eq_true c9
         clear c9
         by_cases c10 : 0 ≤ x7_2
         ·rw [if_pos c10] at H
          have c10b0 : decide (0 ≤ x7_2) = true := decide_eq_true c10
          clear c10
          replace H := Option.bind_eq_some_iff.mp H
          obtain ⟨t128, A120, H⟩ := H
          replace H : (if t128 = true then (spec_VerIdentifiers.l1 k2 a1 t123 x6_1 (wrap64 (x7_2 + 1))) else (if (bt (rdOf ByteArray.empty t123 x6_1) x7_2) = 45 then (spec_VerIdentifiers.l1 k2 a1 t123 x6_1 (wrap64 (x7_2 + 1))) else (if (bt (rdOf ByteArray.empty t123 x6_1) x7_2) < 97 then (if (bt (rdOf ByteArray.empty t123 x6_1) x7_2) < 65 then (some false) else (if (bt (rdOf ByteArray.empty t123 x6_1) x7_2) > 90 then (some false) else (spec_VerIdentifiers.l1 k2 a1 t123 x6_1 (wrap64 (x7_2 + 1))))) else (if (bt (rdOf ByteArray.empty t123 x6_1) x7_2) > 122 then (if (bt (rdOf ByteArray.empty t123 x6_1) x7_2) < 65 then (some false) else (if (bt (rdOf ByteArray.empty t123 x6_1) x7_2) > 90 then (some false) else (spec_VerIdentifiers.l1 k2 a1 t123 x6_1 (wrap64 (x7_2 + 1))))) else (spec_VerIdentifiers.l1 k2 a1 t123 x6_1 (wrap64 (x7_2 + 1))))))) = some r := H
          have A12 := Aside0.mk A120
          clear A120
          by_cases c13 : t128 = true
          ·subst c13
           have H1 : (spec_VerIdentifiers.l1 k2 a1 t123 x6_1 (wrap64 (x7_2 + 1))) = some r := by rw [if_pos rfl] at H; exact H
           clear H
           have H := H1
           clear H1
           have H' := Aside0.mk H
           clear H
           have p126 : 0 ≤ (x6_1 : Int) := of_decide_eq_true (by assumption)
           have q126 : x6_1 < (t123.length : Int) := of_decide_eq_true (by assumption)
           obtain ⟨ad126, e126, hx126_0⟩ := Kd.at_string (Kd.R_reads' HO_5.out).2.2 x6_1 p126 q126
           cases e126
           replace p126 := eq_true p126
           replace q126 := eq_true q126
           have p127 : 0 ≤ (x6_1 : Int) := of_decide_eq_true (by assumption)
           have q127 : x6_1 < (t123.length : Int) := of_decide_eq_true (by assumption)
           obtain ⟨ad127, e127, hx127_0⟩ := Kd.at_string (Kd.R_reads' HO_5.out).2.2 x6_1 p127 q127
           obtain rfl : ad126 = ad127 := (by injection e127)
           replace p127 := eq_true p127
           replace q127 := eq_true q127
           have p11 : 0 ≤ (x7_2 : Int) := of_decide_eq_true (by assumption)
           have q11 : x7_2 < ((rdOf ByteArray.empty t123 x6_1).size : Int) := of_decide_eq_true (by assumption)
           have hx11 := bt_at (rdOf ByteArray.empty t123 x6_1) x7_2
           replace p11 := eq_true p11
           replace q11 := eq_true q11
           go_wp2_with (first | ((with_reducible refine gate_callee (f := 49) rfl ?_); refine goesL_ (some 33) rfl rfl Tryd.func49 (by kernel_rfl) rfl #[.int .u8 (bt (rdOf ByteArray.empty t123 x6_1) x7_2)] rfl (by (try simp only [List.map_toArray, List.map_cons, List.map_nil]); first | done | rfl | (simp only [List.length_drop, List.length_take]; rfl)) ?_; (with_reducible refine (spec_verDigit.calls (bt (rdOf ByteArray.empty t123 x6_1) x7_2) true _ A12.out).mono ?_); rintro e w' ⟨rfl, ⟨nd, rfl⟩⟩; refine ⟨_, rfl, ?_⟩))
           go_roundg k2
           case measure => have := HK1.out; have := HK2.out; omega
           case rel => exact ⟨(wrap64 (x7_2 + 1)), (by first | rfl | (simp; done) | (simp [*]; done)), H', ⟨by have := HK1.out; have := HK2.out; omega⟩, ⟨by (with_reducible repeat (first | apply Kd.R_alloc | apply Kd.R_drewN | apply Kd.R_drew)); exact HO_5.out⟩, ⟨by repeat (first | (with_reducible first | exact HB.out | apply below_alloc | apply pw_below_drewN | apply below_drew1) | exact HB.out)⟩⟩
          ·replace c13 := Bool.eq_false_iff.mpr c13
           subst c13
           have H1 : (if (bt (rdOf ByteArray.empty t123 x6_1) x7_2) = 45 then (spec_VerIdentifiers.l1 k2 a1 t123 x6_1 (wrap64 (x7_2 + 1))) else (if (bt (rdOf ByteArray.empty t123 x6_1) x7_2) < 97 then (if (bt (rdOf ByteArray.empty t123 x6_1) x7_2) < 65 then (some false) else (if (bt (rdOf ByteArray.empty t123 x6_1) x7_2) > 90 then (some false) else (spec_VerIdentifiers.l1 k2 a1 t123 x6_1 (wrap64 (x7_2 + 1))))) else (if (bt (rdOf ByteArray.empty t123 x6_1) x7_2) > 122 then (if (bt (rdOf ByteArray.empty t123 x6_1) x7_2) < 65 then (some false) else (if (bt (rdOf ByteArray.empty t123 x6_1) x7_2) > 90 then (some false) else (spec_VerIdentifiers.l1 k2 a1 t123 x6_1 (wrap64 (x7_2 + 1))))) else (spec_VerIdentifiers.l1 k2 a1 t123 x6_1 (wrap64 (x7_2 + 1)))))) = some r := by rw [if_neg (show ¬ (false = true) by decide)] at H; exact H
           clear H
           have H := H1
           clear H1
           by_cases c14 : (bt (rdOf ByteArray.empty t123 x6_1) x7_2) = 45
           ·rw [if_pos c14] at H
            have c14b0 : ((bt (rdOf ByteArray.empty t123 x6_1) x7_2) == 45) = true := beq_iff_eq.mpr c14
            have c14b1 : ((bt (rdOf ByteArray.empty t123 x6_1) x7_2) != 45) = false := bne_eq_false_iff_eq.mpr c14
            clear c14
            have H' := Aside0.mk H
            clear H
            have p126 : 0 ≤ (x6_1 : Int) := of_decide_eq_true (by assumption)
            have q126 : x6_1 < (t123.length : Int) := of_decide_eq_true (by assumption)
            obtain ⟨ad126, e126, hx126_0⟩ := Kd.at_string (Kd.R_reads' HO_5.out).2.2 x6_1 p126 q126
            cases e126
            replace p126 := eq_true p126
            replace q126 := eq_true q126
            have p127 : 0 ≤ (x6_1 : Int) := of_decide_eq_true (by assumption)
            have q127 : x6_1 < (t123.length : Int) := of_decide_eq_true (by assumption)
            obtain ⟨ad127, e127, hx127_0⟩ := Kd.at_string (Kd.R_reads' HO_5.out).2.2 x6_1 p127 q127
            obtain rfl : ad126 = ad127 := (by injection e127)
            replace p127 := eq_true p127
            replace q127 := eq_true q127
            have p11 : 0 ≤ (x7_2 : Int) := of_decide_eq_true (by assumption)
            have q11 : x7_2 < ((rdOf ByteArray.empty t123 x6_1).size : Int) := of_decide_eq_true (by assumption)
            have hx11 := bt_at (rdOf ByteArray.empty t123 x6_1) x7_2
            replace p11 := eq_true p11
            replace q11 := eq_true q11
            go_wp2_with (first | ((with_reducible refine gate_callee (f := 49) rfl ?_); refine goesL_ (some 33) rfl rfl Tryd.func49 (by kernel_rfl) rfl #[.int .u8 (bt (rdOf ByteArray.empty t123 x6_1) x7_2)] rfl (by (try simp only [List.map_toArray, List.map_cons, List.map_nil]); first | done | rfl | (simp only [List.length_drop, List.length_take]; rfl)) ?_; (with_reducible refine (spec_verDigit.calls (bt (rdOf ByteArray.empty t123 x6_1) x7_2) false _ A12.out).mono ?_); rintro e w' ⟨rfl, ⟨nd, rfl⟩⟩; refine ⟨_, rfl, ?_⟩))
            go_roundg k2
            case measure => have := HK1.out; have := HK2.out; omega
            case rel => exact ⟨(wrap64 (x7_2 + 1)), (by first | rfl | (simp; done) | (simp [*]; done)), H', ⟨by have := HK1.out; have := HK2.out; omega⟩, ⟨by (with_reducible repeat (first | apply Kd.R_alloc | apply Kd.R_drewN | apply Kd.R_drew)); exact HO_5.out⟩, ⟨by repeat (first | (with_reducible first | exact HB.out | apply below_alloc | apply pw_below_drewN | apply below_drew1) | exact HB.out)⟩⟩
           ·rw [if_neg c14] at H
            have c14b0 : ((bt (rdOf ByteArray.empty t123 x6_1) x7_2) == 45) = false := beq_eq_false_iff_ne.mpr c14
            have c14b1 : ((bt (rdOf ByteArray.empty t123 x6_1) x7_2) != 45) = true := bne_iff_ne.mpr c14
            by_cases c15 : (bt (rdOf ByteArray.empty t123 x6_1) x7_2) < 97
            ·rw [if_pos c15] at H
             have c15b0 : decide ((bt (rdOf ByteArray.empty t123 x6_1) x7_2) < 97) = true := decide_eq_true c15
             clear c15
             by_cases c16 : (bt (rdOf ByteArray.empty t123 x6_1) x7_2) < 65
             ·rw [if_pos c16] at H
              have c16b0 : decide ((bt (rdOf ByteArray.empty t123 x6_1) x7_2) < 65) = true := decide_eq_true c16
              clear c16
              obtain rfl := Option.some.inj H
              have p126 : 0 ≤ (x6_1 : Int) := of_decide_eq_true (by assumption)
              have q126 : x6_1 < (t123.length : Int) := of_decide_eq_true (by assumption)
              obtain ⟨ad126, e126, hx126_0⟩ := Kd.at_string (Kd.R_reads' HO_5.out).2.2 x6_1 p126 q126
              cases e126
              replace p126 := eq_true p126
              replace q126 := eq_true q126
              have p127 : 0 ≤ (x6_1 : Int) := of_decide_eq_true (by assumption)
              have q127 : x6_1 < (t123.length : Int) := of_decide_eq_true (by assumption)
              obtain ⟨ad127, e127, hx127_0⟩ := Kd.at_string (Kd.R_reads' HO_5.out).2.2 x6_1 p127 q127
              obtain rfl : ad126 = ad127 := (by injection e127)
              replace p127 := eq_true p127
              replace q127 := eq_true q127
              have p11 : 0 ≤ (x7_2 : Int) := of_decide_eq_true (by assumption)
              have q11 : x7_2 < ((rdOf ByteArray.empty t123 x6_1).size : Int) := of_decide_eq_true (by assumption)
              have hx11 := bt_at (rdOf ByteArray.empty t123 x6_1) x7_2
              replace p11 := eq_true p11
              replace q11 := eq_true q11
              go_wp2_with (first | ((with_reducible refine gate_callee (f := 49) rfl ?_); refine goesL_ (some 33) rfl rfl Tryd.func49 (by kernel_rfl) rfl #[.int .u8 (bt (rdOf ByteArray.empty t123 x6_1) x7_2)] rfl (by (try simp only [List.map_toArray, List.map_cons, List.map_nil]); first | done | rfl | (simp only [List.length_drop, List.length_take]; rfl)) ?_; (with_reducible refine (spec_verDigit.calls (bt (rdOf ByteArray.empty t123 x6_1) x7_2) false _ A12.out).mono ?_); rintro e w' ⟨rfl, ⟨nd, rfl⟩⟩; refine ⟨_, rfl, ?_⟩))
              go_ret
              exact ⟨by first | rfl | (simp [errW_none, errW_some] <;> rfl) | (simp [*, errW_none, errW_some] <;> rfl), by repeat (first | (with_reducible first | exact HB.out | apply below_alloc | apply pw_below_drewN | apply below_drew1) | exact HB.out)⟩
             ·rw [if_neg c16] at H
              have c16b0 : decide ((bt (rdOf ByteArray.empty t123 x6_1) x7_2) < 65) = false := decide_eq_false c16
              clear c16
              by_cases c17 : (bt (rdOf ByteArray.empty t123 x6_1) x7_2) > 90
              ·rw [if_pos c17] at H
               have c17b0 : decide (90 < (bt (rdOf ByteArray.empty t123 x6_1) x7_2)) = true := decide_eq_true c17
               clear c17
               obtain rfl := Option.some.inj H
               have p126 : 0 ≤ (x6_1 : Int) := of_decide_eq_true (by assumption)
               have q126 : x6_1 < (t123.length : Int) := of_decide_eq_true (by assumption)
               obtain ⟨ad126, e126, hx126_0⟩ := Kd.at_string (Kd.R_reads' HO_5.out).2.2 x6_1 p126 q126
               cases e126
               replace p126 := eq_true p126
               replace q126 := eq_true q126
               have p127 : 0 ≤ (x6_1 : Int) := of_decide_eq_true (by assumption)
               have q127 : x6_1 < (t123.length : Int) := of_decide_eq_true (by assumption)
               obtain ⟨ad127, e127, hx127_0⟩ := Kd.at_string (Kd.R_reads' HO_5.out).2.2 x6_1 p127 q127
               obtain rfl : ad126 = ad127 := (by injection e127)
               replace p127 := eq_true p127
               replace q127 := eq_true q127
               have p11 : 0 ≤ (x7_2 : Int) := of_decide_eq_true (by assumption)
               have q11 : x7_2 < ((rdOf ByteArray.empty t123 x6_1).size : Int) := of_decide_eq_true (by assumption)
               have hx11 := bt_at (rdOf ByteArray.empty t123 x6_1) x7_2
               replace p11 := eq_true p11
               replace q11 := eq_true q11
               go_wp2_with (first | ((with_reducible refine gate_callee (f := 49) rfl ?_); refine goesL_ (some 33) rfl rfl Tryd.func49 (by kernel_rfl) rfl #[.int .u8 (bt (rdOf ByteArray.empty t123 x6_1) x7_2)] rfl (by (try simp only [List.map_toArray, List.map_cons, List.map_nil]); first | done | rfl | (simp only [List.length_drop, List.length_take]; rfl)) ?_; (with_reducible refine (spec_verDigit.calls (bt (rdOf ByteArray.empty t123 x6_1) x7_2) false _ A12.out).mono ?_); rintro e w' ⟨rfl, ⟨nd, rfl⟩⟩; refine ⟨_, rfl, ?_⟩))
               go_ret
               exact ⟨by first | rfl | (simp [errW_none, errW_some] <;> rfl) | (simp [*, errW_none, errW_some] <;> rfl), by repeat (first | (with_reducible first | exact HB.out | apply below_alloc | apply pw_below_drewN | apply below_drew1) | exact HB.out)⟩
              ·rw [if_neg c17] at H
               have c17b0 : decide (90 < (bt (rdOf ByteArray.empty t123 x6_1) x7_2)) = false := decide_eq_false c17
               clear c17
               have H' := Aside0.mk H
               clear H
               have p126 : 0 ≤ (x6_1 : Int) := of_decide_eq_true (by assumption)
               have q126 : x6_1 < (t123.length : Int) := of_decide_eq_true (by assumption)
               obtain ⟨ad126, e126, hx126_0⟩ := Kd.at_string (Kd.R_reads' HO_5.out).2.2 x6_1 p126 q126
               cases e126
               replace p126 := eq_true p126
               replace q126 := eq_true q126
               have p127 : 0 ≤ (x6_1 : Int) := of_decide_eq_true (by assumption)
               have q127 : x6_1 < (t123.length : Int) := of_decide_eq_true (by assumption)
               obtain ⟨ad127, e127, hx127_0⟩ := Kd.at_string (Kd.R_reads' HO_5.out).2.2 x6_1 p127 q127
               obtain rfl : ad126 = ad127 := (by injection e127)
               replace p127 := eq_true p127
               replace q127 := eq_true q127
               have p11 : 0 ≤ (x7_2 : Int) := of_decide_eq_true (by assumption)
               have q11 : x7_2 < ((rdOf ByteArray.empty t123 x6_1).size : Int) := of_decide_eq_true (by assumption)
               have hx11 := bt_at (rdOf ByteArray.empty t123 x6_1) x7_2
               replace p11 := eq_true p11
               replace q11 := eq_true q11
               go_wp2_with (first | ((with_reducible refine gate_callee (f := 49) rfl ?_); refine goesL_ (some 33) rfl rfl Tryd.func49 (by kernel_rfl) rfl #[.int .u8 (bt (rdOf ByteArray.empty t123 x6_1) x7_2)] rfl (by (try simp only [List.map_toArray, List.map_cons, List.map_nil]); first | done | rfl | (simp only [List.length_drop, List.length_take]; rfl)) ?_; (with_reducible refine (spec_verDigit.calls (bt (rdOf ByteArray.empty t123 x6_1) x7_2) false _ A12.out).mono ?_); rintro e w' ⟨rfl, ⟨nd, rfl⟩⟩; refine ⟨_, rfl, ?_⟩))
               go_roundg k2
               case measure => have := HK1.out; have := HK2.out; omega
               case rel => exact ⟨(wrap64 (x7_2 + 1)), (by first | rfl | (simp; done) | (simp [*]; done)), H', ⟨by have := HK1.out; have := HK2.out; omega⟩, ⟨by (with_reducible repeat (first | apply Kd.R_alloc | apply Kd.R_drewN | apply Kd.R_drew)); exact HO_5.out⟩, ⟨by repeat (first | (with_reducible first | exact HB.out | apply below_alloc | apply pw_below_drewN | apply below_drew1) | exact HB.out)⟩⟩
            ·rw [if_neg c15] at H
             have c15b0 : decide ((bt (rdOf ByteArray.empty t123 x6_1) x7_2) < 97) = false := decide_eq_false c15
             clear c15
             by_cases c18 : (bt (rdOf ByteArray.empty t123 x6_1) x7_2) > 122
             ·rw [if_pos c18] at H
              have c18b0 : decide (122 < (bt (rdOf ByteArray.empty t123 x6_1) x7_2)) = true := decide_eq_true c18
              clear c18
              by_cases c19 : (bt (rdOf ByteArray.empty t123 x6_1) x7_2) < 65
              ·rw [if_pos c19] at H
               have c19b0 : decide ((bt (rdOf ByteArray.empty t123 x6_1) x7_2) < 65) = true := decide_eq_true c19
               clear c19
               obtain rfl := Option.some.inj H
               have p126 : 0 ≤ (x6_1 : Int) := of_decide_eq_true (by assumption)
               have q126 : x6_1 < (t123.length : Int) := of_decide_eq_true (by assumption)
               obtain ⟨ad126, e126, hx126_0⟩ := Kd.at_string (Kd.R_reads' HO_5.out).2.2 x6_1 p126 q126
               cases e126
               replace p126 := eq_true p126
               replace q126 := eq_true q126
               have p127 : 0 ≤ (x6_1 : Int) := of_decide_eq_true (by assumption)
               have q127 : x6_1 < (t123.length : Int) := of_decide_eq_true (by assumption)
               obtain ⟨ad127, e127, hx127_0⟩ := Kd.at_string (Kd.R_reads' HO_5.out).2.2 x6_1 p127 q127
               obtain rfl : ad126 = ad127 := (by injection e127)
               replace p127 := eq_true p127
               replace q127 := eq_true q127
               have p11 : 0 ≤ (x7_2 : Int) := of_decide_eq_true (by assumption)
               have q11 : x7_2 < ((rdOf ByteArray.empty t123 x6_1).size : Int) := of_decide_eq_true (by assumption)
               have hx11 := bt_at (rdOf ByteArray.empty t123 x6_1) x7_2
               replace p11 := eq_true p11
               replace q11 := eq_true q11
               go_wp2_with (first | ((with_reducible refine gate_callee (f := 49) rfl ?_); refine goesL_ (some 33) rfl rfl Tryd.func49 (by kernel_rfl) rfl #[.int .u8 (bt (rdOf ByteArray.empty t123 x6_1) x7_2)] rfl (by (try simp only [List.map_toArray, List.map_cons, List.map_nil]); first | done | rfl | (simp only [List.length_drop, List.length_take]; rfl)) ?_; (with_reducible refine (spec_verDigit.calls (bt (rdOf ByteArray.empty t123 x6_1) x7_2) false _ A12.out).mono ?_); rintro e w' ⟨rfl, ⟨nd, rfl⟩⟩; refine ⟨_, rfl, ?_⟩))
               go_ret
               exact ⟨by first | rfl | (simp [errW_none, errW_some] <;> rfl) | (simp [*, errW_none, errW_some] <;> rfl), by repeat (first | (with_reducible first | exact HB.out | apply below_alloc | apply pw_below_drewN | apply below_drew1) | exact HB.out)⟩
              ·rw [if_neg c19] at H
               have c19b0 : decide ((bt (rdOf ByteArray.empty t123 x6_1) x7_2) < 65) = false := decide_eq_false c19
               clear c19
               by_cases c20 : (bt (rdOf ByteArray.empty t123 x6_1) x7_2) > 90
               ·rw [if_pos c20] at H
                have c20b0 : decide (90 < (bt (rdOf ByteArray.empty t123 x6_1) x7_2)) = true := decide_eq_true c20
                clear c20
                obtain rfl := Option.some.inj H
                have p126 : 0 ≤ (x6_1 : Int) := of_decide_eq_true (by assumption)
                have q126 : x6_1 < (t123.length : Int) := of_decide_eq_true (by assumption)
                obtain ⟨ad126, e126, hx126_0⟩ := Kd.at_string (Kd.R_reads' HO_5.out).2.2 x6_1 p126 q126
                cases e126
                replace p126 := eq_true p126
                replace q126 := eq_true q126
                have p127 : 0 ≤ (x6_1 : Int) := of_decide_eq_true (by assumption)
                have q127 : x6_1 < (t123.length : Int) := of_decide_eq_true (by assumption)
                obtain ⟨ad127, e127, hx127_0⟩ := Kd.at_string (Kd.R_reads' HO_5.out).2.2 x6_1 p127 q127
                obtain rfl : ad126 = ad127 := (by injection e127)
                replace p127 := eq_true p127
                replace q127 := eq_true q127
                have p11 : 0 ≤ (x7_2 : Int) := of_decide_eq_true (by assumption)
                have q11 : x7_2 < ((rdOf ByteArray.empty t123 x6_1).size : Int) := of_decide_eq_true (by assumption)
                have hx11 := bt_at (rdOf ByteArray.empty t123 x6_1) x7_2
                replace p11 := eq_true p11
                replace q11 := eq_true q11
                go_wp2_with (first | ((with_reducible refine gate_callee (f := 49) rfl ?_); refine goesL_ (some 33) rfl rfl Tryd.func49 (by kernel_rfl) rfl #[.int .u8 (bt (rdOf ByteArray.empty t123 x6_1) x7_2)] rfl (by (try simp only [List.map_toArray, List.map_cons, List.map_nil]); first | done | rfl | (simp only [List.length_drop, List.length_take]; rfl)) ?_; (with_reducible refine (spec_verDigit.calls (bt (rdOf ByteArray.empty t123 x6_1) x7_2) false _ A12.out).mono ?_); rintro e w' ⟨rfl, ⟨nd, rfl⟩⟩; refine ⟨_, rfl, ?_⟩))
                go_ret
                exact ⟨by first | rfl | (simp [errW_none, errW_some] <;> rfl) | (simp [*, errW_none, errW_some] <;> rfl), by repeat (first | (with_reducible first | exact HB.out | apply below_alloc | apply pw_below_drewN | apply below_drew1) | exact HB.out)⟩
               ·rw [if_neg c20] at H
                have c20b0 : decide (90 < (bt (rdOf ByteArray.empty t123 x6_1) x7_2)) = false := decide_eq_false c20
                clear c20
                have H' := Aside0.mk H
                clear H
                have p126 : 0 ≤ (x6_1 : Int) := of_decide_eq_true (by assumption)
                have q126 : x6_1 < (t123.length : Int) := of_decide_eq_true (by assumption)
                obtain ⟨ad126, e126, hx126_0⟩ := Kd.at_string (Kd.R_reads' HO_5.out).2.2 x6_1 p126 q126
                cases e126
                replace p126 := eq_true p126
                replace q126 := eq_true q126
                have p127 : 0 ≤ (x6_1 : Int) := of_decide_eq_true (by assumption)
                have q127 : x6_1 < (t123.length : Int) := of_decide_eq_true (by assumption)
                obtain ⟨ad127, e127, hx127_0⟩ := Kd.at_string (Kd.R_reads' HO_5.out).2.2 x6_1 p127 q127
                obtain rfl : ad126 = ad127 := (by injection e127)
                replace p127 := eq_true p127
                replace q127 := eq_true q127
                have p11 : 0 ≤ (x7_2 : Int) := of_decide_eq_true (by assumption)
                have q11 : x7_2 < ((rdOf ByteArray.empty t123 x6_1).size : Int) := of_decide_eq_true (by assumption)
                have hx11 := bt_at (rdOf ByteArray.empty t123 x6_1) x7_2
                replace p11 := eq_true p11
                replace q11 := eq_true q11
                go_wp2_with (first | ((with_reducible refine gate_callee (f := 49) rfl ?_); refine goesL_ (some 33) rfl rfl Tryd.func49 (by kernel_rfl) rfl #[.int .u8 (bt (rdOf ByteArray.empty t123 x6_1) x7_2)] rfl (by (try simp only [List.map_toArray, List.map_cons, List.map_nil]); first | done | rfl | (simp only [List.length_drop, List.length_take]; rfl)) ?_; (with_reducible refine (spec_verDigit.calls (bt (rdOf ByteArray.empty t123 x6_1) x7_2) false _ A12.out).mono ?_); rintro e w' ⟨rfl, ⟨nd, rfl⟩⟩; refine ⟨_, rfl, ?_⟩))
                go_roundg k2
                case measure => have := HK1.out; have := HK2.out; omega
                case rel => exact ⟨(wrap64 (x7_2 + 1)), (by first | rfl | (simp; done) | (simp [*]; done)), H', ⟨by have := HK1.out; have := HK2.out; omega⟩, ⟨by (with_reducible repeat (first | apply Kd.R_alloc | apply Kd.R_drewN | apply Kd.R_drew)); exact HO_5.out⟩, ⟨by repeat (first | (with_reducible first | exact HB.out | apply below_alloc | apply pw_below_drewN | apply below_drew1) | exact HB.out)⟩⟩
             ·rw [if_neg c18] at H
              have c18b0 : decide (122 < (bt (rdOf ByteArray.empty t123 x6_1) x7_2)) = false := decide_eq_false c18
              clear c18
              have H' := Aside0.mk H
              clear H
              have p126 : 0 ≤ (x6_1 : Int) := of_decide_eq_true (by assumption)
              have q126 : x6_1 < (t123.length : Int) := of_decide_eq_true (by assumption)
              obtain ⟨ad126, e126, hx126_0⟩ := Kd.at_string (Kd.R_reads' HO_5.out).2.2 x6_1 p126 q126
              cases e126
              replace p126 := eq_true p126
              replace q126 := eq_true q126
              have p127 : 0 ≤ (x6_1 : Int) := of_decide_eq_true (by assumption)
              have q127 : x6_1 < (t123.length : Int) := of_decide_eq_true (by assumption)
              obtain ⟨ad127, e127, hx127_0⟩ := Kd.at_string (Kd.R_reads' HO_5.out).2.2 x6_1 p127 q127
              obtain rfl : ad126 = ad127 := (by injection e127)
              replace p127 := eq_true p127
              replace q127 := eq_true q127
              have p11 : 0 ≤ (x7_2 : Int) := of_decide_eq_true (by assumption)
              have q11 : x7_2 < ((rdOf ByteArray.empty t123 x6_1).size : Int) := of_decide_eq_true (by assumption)
              have hx11 := bt_at (rdOf ByteArray.empty t123 x6_1) x7_2
              replace p11 := eq_true p11
              replace q11 := eq_true q11
              go_wp2_with (first | ((with_reducible refine gate_callee (f := 49) rfl ?_); refine goesL_ (some 33) rfl rfl Tryd.func49 (by kernel_rfl) rfl #[.int .u8 (bt (rdOf ByteArray.empty t123 x6_1) x7_2)] rfl (by (try simp only [List.map_toArray, List.map_cons, List.map_nil]); first | done | rfl | (simp only [List.length_drop, List.length_take]; rfl)) ?_; (with_reducible refine (spec_verDigit.calls (bt (rdOf ByteArray.empty t123 x6_1) x7_2) false _ A12.out).mono ?_); rintro e w' ⟨rfl, ⟨nd, rfl⟩⟩; refine ⟨_, rfl, ?_⟩))
              go_roundg k2
              case measure => have := HK1.out; have := HK2.out; omega
              case rel => exact ⟨(wrap64 (x7_2 + 1)), (by first | rfl | (simp; done) | (simp [*]; done)), H', ⟨by have := HK1.out; have := HK2.out; omega⟩, ⟨by (with_reducible repeat (first | apply Kd.R_alloc | apply Kd.R_drewN | apply Kd.R_drew)); exact HO_5.out⟩, ⟨by repeat (first | (with_reducible first | exact HB.out | apply below_alloc | apply pw_below_drewN | apply below_drew1) | exact HB.out)⟩⟩
         ·rw [if_neg c10] at H
          exact absurd H (by simp)
        ·rw [if_neg c9] at H
         have c9b0 : decide (x7_2 < ((rdOf ByteArray.empty t123 x6_1).size : Int)) = false := decide_eq_false c9
         clear c9
         by_cases c21 : (rdOf ByteArray.empty t123 x6_1).toList = ([] : List UInt8)
         ·rw [if_pos c21] at H
          have c21b0 : ((rdOf ByteArray.empty t123 x6_1).toList == ([] : List UInt8)) = true := beq_iff_eq.mpr c21
          have c21b1 : ((rdOf ByteArray.empty t123 x6_1).toList != ([] : List UInt8)) = false := bne_eq_false_iff_eq.mpr c21
          clear c21
          obtain rfl := Option.some.inj H
          have p126 : 0 ≤ (x6_1 : Int) := of_decide_eq_true (by assumption)
          have q126 : x6_1 < (t123.length : Int) := of_decide_eq_true (by assumption)
          obtain ⟨ad126, e126, hx126_0⟩ := Kd.at_string (Kd.R_reads' HO_5.out).2.2 x6_1 p126 q126
          cases e126
          replace p126 := eq_true p126
          replace q126 := eq_true q126
          have p129 : 0 ≤ (x6_1 : Int) := of_decide_eq_true (by assumption)
          have q129 : x6_1 < (t123.length : Int) := of_decide_eq_true (by assumption)
          obtain ⟨ad129, e129, hx129_0⟩ := Kd.at_string (Kd.R_reads' HO_5.out).2.2 x6_1 p129 q129
          obtain rfl : ad126 = ad129 := (by injection e129)
          replace p129 := eq_true p129
          replace q129 := eq_true q129
          go_wp2
          go_ret
          exact ⟨by first | rfl | (simp [errW_none, errW_some] <;> rfl) | (simp [*, errW_none, errW_some] <;> rfl), by repeat (first | (with_reducible first | exact HB.out | apply below_alloc | apply pw_below_drewN | apply below_drew1) | exact HB.out)⟩
         ·rw [if_neg c21] at H
          have c21b0 : ((rdOf ByteArray.empty t123 x6_1).toList == ([] : List UInt8)) = false := beq_eq_false_iff_ne.mpr c21
          have c21b1 : ((rdOf ByteArray.empty t123 x6_1).toList != ([] : List UInt8)) = true := bne_iff_ne.mpr c21
          by_cases c22 : a1 = true
          ·subst c22
           have H1 : ((spec_VerNumeric.f k2 (rdOf ByteArray.empty t123 x6_1)).bind fun t131 => (if t131 = true then ((spec_VerPlainly.f (rdOf ByteArray.empty t123 x6_1)).bind fun t133 => (if t133 = true then (spec_VerIdentifiers.l0 k2 true t123 (wrap64 (x6_1 + 1))) else (some false))) else (spec_VerIdentifiers.l0 k2 true t123 (wrap64 (x6_1 + 1))))) = some r := by rw [if_pos rfl] at H; exact H
           clear H
           have H := H1
           clear H1
           replace H := Option.bind_eq_some_iff.mp H
           obtain ⟨t131, A230, H⟩ := H
           replace H : (if t131 = true then ((spec_VerPlainly.f (rdOf ByteArray.empty t123 x6_1)).bind fun t133 => (if t133 = true then (spec_VerIdentifiers.l0 k2 true t123 (wrap64 (x6_1 + 1))) else (some false))) else (spec_VerIdentifiers.l0 k2 true t123 (wrap64 (x6_1 + 1)))) = some r := H
           have A23 := Aside0.mk A230
           clear A230
           by_cases c24 : t131 = true
           ·subst c24
            have H1 : ((spec_VerPlainly.f (rdOf ByteArray.empty t123 x6_1)).bind fun t133 => (if t133 = true then (spec_VerIdentifiers.l0 k2 true t123 (wrap64 (x6_1 + 1))) else (some false))) = some r := by rw [if_pos rfl] at H; exact H
            clear H
            have H := H1
            clear H1
            replace H := Option.bind_eq_some_iff.mp H
            obtain ⟨t133, A250, H⟩ := H
            replace H : (if t133 = true then (spec_VerIdentifiers.l0 k2 true t123 (wrap64 (x6_1 + 1))) else (some false)) = some r := H
            have A25 := Aside0.mk A250
            clear A250
            by_cases c26 : t133 = true
            ·subst c26
             have H1 : (spec_VerIdentifiers.l0 k2 true t123 (wrap64 (x6_1 + 1))) = some r := by rw [if_pos rfl] at H; exact H
             clear H
             have H := H1
             clear H1
             have H' := Aside0.mk H
             clear H
             have p126 : 0 ≤ (x6_1 : Int) := of_decide_eq_true (by assumption)
             have q126 : x6_1 < (t123.length : Int) := of_decide_eq_true (by assumption)
             obtain ⟨ad126, e126, hx126_0⟩ := Kd.at_string (Kd.R_reads' HO_5.out).2.2 x6_1 p126 q126
             cases e126
             replace p126 := eq_true p126
             replace q126 := eq_true q126
             have p129 : 0 ≤ (x6_1 : Int) := of_decide_eq_true (by assumption)
             have q129 : x6_1 < (t123.length : Int) := of_decide_eq_true (by assumption)
             obtain ⟨ad129, e129, hx129_0⟩ := Kd.at_string (Kd.R_reads' HO_5.out).2.2 x6_1 p129 q129
             obtain rfl : ad126 = ad129 := (by injection e129)
             replace p129 := eq_true p129
             replace q129 := eq_true q129
             have p130 : 0 ≤ (x6_1 : Int) := of_decide_eq_true (by assumption)
             have q130 : x6_1 < (t123.length : Int) := of_decide_eq_true (by assumption)
             obtain ⟨ad130, e130, hx130_0⟩ := Kd.at_string (Kd.R_reads' HO_5.out).2.2 x6_1 p130 q130
             obtain rfl : ad126 = ad130 := (by injection e130)
             replace p130 := eq_true p130
             replace q130 := eq_true q130
             go_wp2_with (first | (go_at_call 60; (with_reducible refine (spec_VerNumeric.calls k2 (rdOf ByteArray.empty t123 x6_1) true _ A23.out).mono ?_); rintro e w' ⟨rfl, ⟨nd, rfl⟩⟩; have p132 : 0 ≤ (x6_1 : Int) := of_decide_eq_true (by assumption); have q132 : x6_1 < (t123.length : Int) := of_decide_eq_true (by assumption); obtain ⟨ad132, e132, hx132_0⟩ := Kd.at_string (Kd.R_reads' HO_5.out).2.2 x6_1 p132 q132; obtain rfl : ad126 = ad132 := (by injection e132); replace p132 := eq_true p132; replace q132 := eq_true q132) | (go_at_call 52; (with_reducible refine (spec_VerPlainly.calls (rdOf ByteArray.empty t123 x6_1) true _ A25.out).mono ?_); rintro e w' ⟨rfl, ⟨nd, rfl⟩⟩))
             go_roundg k2
             case measure => have := HK1.out; have := HK2.out; omega
             case rel => exact ⟨(wrap64 (x6_1 + 1)), (by first | rfl | (simp; done) | (simp [*]; done)), H', ⟨by have := HK1.out; have := HK2.out; omega⟩, ⟨by (with_reducible repeat (first | apply Kd.R_alloc | apply Kd.R_drewN | apply Kd.R_drew)); exact HO_5.out⟩, ⟨by repeat (first | (with_reducible first | exact HB.out | apply below_alloc | apply pw_below_drewN | apply below_drew1) | exact HB.out)⟩⟩
            ·replace c26 := Bool.eq_false_iff.mpr c26
             subst c26
             have H1 : (some false) = some r := by rw [if_neg (show ¬ (false = true) by decide)] at H; exact H
             clear H
             have H := H1
             clear H1
             obtain rfl := Option.some.inj H
             have p126 : 0 ≤ (x6_1 : Int) := of_decide_eq_true (by assumption)
             have q126 : x6_1 < (t123.length : Int) := of_decide_eq_true (by assumption)
             obtain ⟨ad126, e126, hx126_0⟩ := Kd.at_string (Kd.R_reads' HO_5.out).2.2 x6_1 p126 q126
             cases e126
             replace p126 := eq_true p126
             replace q126 := eq_true q126
             have p129 : 0 ≤ (x6_1 : Int) := of_decide_eq_true (by assumption)
             have q129 : x6_1 < (t123.length : Int) := of_decide_eq_true (by assumption)
             obtain ⟨ad129, e129, hx129_0⟩ := Kd.at_string (Kd.R_reads' HO_5.out).2.2 x6_1 p129 q129
             obtain rfl : ad126 = ad129 := (by injection e129)
             replace p129 := eq_true p129
             replace q129 := eq_true q129
             have p130 : 0 ≤ (x6_1 : Int) := of_decide_eq_true (by assumption)
             have q130 : x6_1 < (t123.length : Int) := of_decide_eq_true (by assumption)
             obtain ⟨ad130, e130, hx130_0⟩ := Kd.at_string (Kd.R_reads' HO_5.out).2.2 x6_1 p130 q130
             obtain rfl : ad126 = ad130 := (by injection e130)
             replace p130 := eq_true p130
             replace q130 := eq_true q130
             go_wp2_with (first | (go_at_call 60; (with_reducible refine (spec_VerNumeric.calls k2 (rdOf ByteArray.empty t123 x6_1) true _ A23.out).mono ?_); rintro e w' ⟨rfl, ⟨nd, rfl⟩⟩; have p132 : 0 ≤ (x6_1 : Int) := of_decide_eq_true (by assumption); have q132 : x6_1 < (t123.length : Int) := of_decide_eq_true (by assumption); obtain ⟨ad132, e132, hx132_0⟩ := Kd.at_string (Kd.R_reads' HO_5.out).2.2 x6_1 p132 q132; obtain rfl : ad126 = ad132 := (by injection e132); replace p132 := eq_true p132; replace q132 := eq_true q132) | (go_at_call 52; (with_reducible refine (spec_VerPlainly.calls (rdOf ByteArray.empty t123 x6_1) false _ A25.out).mono ?_); rintro e w' ⟨rfl, ⟨nd, rfl⟩⟩))
             go_ret
             exact ⟨by first | rfl | (simp [errW_none, errW_some] <;> rfl) | (simp [*, errW_none, errW_some] <;> rfl), by repeat (first | (with_reducible first | exact HB.out | apply below_alloc | apply pw_below_drewN | apply below_drew1) | exact HB.out)⟩
           ·replace c24 := Bool.eq_false_iff.mpr c24
            subst c24
            have H1 : (spec_VerIdentifiers.l0 k2 true t123 (wrap64 (x6_1 + 1))) = some r := by rw [if_neg (show ¬ (false = true) by decide)] at H; exact H
            clear H
            have H := H1
            clear H1
            have H' := Aside0.mk H
            clear H
            have p126 : 0 ≤ (x6_1 : Int) := of_decide_eq_true (by assumption)
            have q126 : x6_1 < (t123.length : Int) := of_decide_eq_true (by assumption)
            obtain ⟨ad126, e126, hx126_0⟩ := Kd.at_string (Kd.R_reads' HO_5.out).2.2 x6_1 p126 q126
            cases e126
            replace p126 := eq_true p126
            replace q126 := eq_true q126
            have p129 : 0 ≤ (x6_1 : Int) := of_decide_eq_true (by assumption)
            have q129 : x6_1 < (t123.length : Int) := of_decide_eq_true (by assumption)
            obtain ⟨ad129, e129, hx129_0⟩ := Kd.at_string (Kd.R_reads' HO_5.out).2.2 x6_1 p129 q129
            obtain rfl : ad126 = ad129 := (by injection e129)
            replace p129 := eq_true p129
            replace q129 := eq_true q129
            have p130 : 0 ≤ (x6_1 : Int) := of_decide_eq_true (by assumption)
            have q130 : x6_1 < (t123.length : Int) := of_decide_eq_true (by assumption)
            obtain ⟨ad130, e130, hx130_0⟩ := Kd.at_string (Kd.R_reads' HO_5.out).2.2 x6_1 p130 q130
            obtain rfl : ad126 = ad130 := (by injection e130)
            replace p130 := eq_true p130
            replace q130 := eq_true q130
            go_wp2_with (first | (go_at_call 60; (with_reducible refine (spec_VerNumeric.calls k2 (rdOf ByteArray.empty t123 x6_1) false _ A23.out).mono ?_); rintro e w' ⟨rfl, ⟨nd, rfl⟩⟩))
            go_roundg k2
            case measure => have := HK1.out; have := HK2.out; omega
            case rel => exact ⟨(wrap64 (x6_1 + 1)), (by first | rfl | (simp; done) | (simp [*]; done)), H', ⟨by have := HK1.out; have := HK2.out; omega⟩, ⟨by (with_reducible repeat (first | apply Kd.R_alloc | apply Kd.R_drewN | apply Kd.R_drew)); exact HO_5.out⟩, ⟨by repeat (first | (with_reducible first | exact HB.out | apply below_alloc | apply pw_below_drewN | apply below_drew1) | exact HB.out)⟩⟩
          ·replace c22 := Bool.eq_false_iff.mpr c22
           subst c22
           have H1 : (spec_VerIdentifiers.l0 k2 false t123 (wrap64 (x6_1 + 1))) = some r := by rw [if_neg (show ¬ (false = true) by decide)] at H; exact H
           clear H
           have H := H1
           clear H1
           have H' := Aside0.mk H
           clear H
           have p126 : 0 ≤ (x6_1 : Int) := of_decide_eq_true (by assumption)
           have q126 : x6_1 < (t123.length : Int) := of_decide_eq_true (by assumption)
           obtain ⟨ad126, e126, hx126_0⟩ := Kd.at_string (Kd.R_reads' HO_5.out).2.2 x6_1 p126 q126
           cases e126
           replace p126 := eq_true p126
           replace q126 := eq_true q126
           have p129 : 0 ≤ (x6_1 : Int) := of_decide_eq_true (by assumption)
           have q129 : x6_1 < (t123.length : Int) := of_decide_eq_true (by assumption)
           obtain ⟨ad129, e129, hx129_0⟩ := Kd.at_string (Kd.R_reads' HO_5.out).2.2 x6_1 p129 q129
           obtain rfl : ad126 = ad129 := (by injection e129)
           replace p129 := eq_true p129
           replace q129 := eq_true q129
           go_wp2
           go_roundg k2
           case measure => have := HK1.out; have := HK2.out; omega
           case rel => exact ⟨(wrap64 (x6_1 + 1)), (by first | rfl | (simp; done) | (simp [*]; done)), H', ⟨by have := HK1.out; have := HK2.out; omega⟩, ⟨by (with_reducible repeat (first | apply Kd.R_alloc | apply Kd.R_drewN | apply Kd.R_drew)); exact HO_5.out⟩, ⟨by repeat (first | (with_reducible first | exact HB.out | apply below_alloc | apply pw_below_drewN | apply below_drew1) | exact HB.out)⟩⟩
       ·rw [if_neg c8] at H
        exact absurd H (by simp)
      ·rw [if_neg c7] at H
       exact absurd H (by simp)
   ·rw [if_neg c5] at H
    have c5b0 : decide (x6_1 < (t123.length : Int)) = false := decide_eq_false c5
    clear c5
    obtain rfl := Option.some.inj H
    obtain ⟨Ao27, co27, eo27⟩ := Kd.R_slice HO_5.out
    subst eo27
    go_wp2
    go_ret
    exact ⟨by first | rfl | (simp [errW_none, errW_some] <;> rfl) | (simp [*, errW_none, errW_some] <;> rfl), by repeat (first | (with_reducible first | exact HB.out | apply below_alloc | apply pw_below_drewN | apply below_drew1) | exact HB.out)⟩
end Go.Proofs.YtmfgkidppchobaaDoor.XFnVersionCompare

