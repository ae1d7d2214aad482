/- A text of this session: the functions of the law FnVersionCompare, by a program that calls the kit's print and lays this session's own contracts of single functions beside. -/
import Derived.Test.YtmfgkidppchobaaDoorXFnVersionComparex0
import Derived.Test.YtmfgkidppchobaaDoorXFnVersionComparex2
namespace Go.Proofs.YtmfgkidppchobaaDoor.XFnVersionCompare
open Go.RowKit Go.Proofs.YtmfgkidppchobaaDoorW.PrintWords Go.Proofs.YtmfgkidppchobaaDoorW.PrintLast Go.Proofs.YtmfgkidppchobaaDoorW.PrintMore
attribute [local go_sem] max2_int min2_int max_two min_two max_three min_three max_four min_four
set_option linter.unusedVariables false
set_option linter.unusedSimpArgs false
def spec_Version_part.f (l0_0 : List Int) (a0_1 : Bool) (a0_2 : ByteArray) (a0_3 : ByteArray) (a1 : Int) : Option (Int) := if a1 < (l0_0.length : Int) then (if 0 ≤ a1 then (some (rd l0_0 a1)) else (none)) else (some 0)
set_option maxHeartbeats 8000000 in
set_option maxRecDepth 100000 in
theorem spec_Version_part.calls (A0_0 : Option Addr) (c0_0 : Nat) (l0_0 : List Int) (a0_1 : Bool) (a0_2 : ByteArray) (a0_3 : ByteArray) (a1 : Int) (r : Int) (w : World) (hr0_0 : Kd.C (Kd.int .u64) w A0_0 l0_0.length l0_0) (hc0_0 : l0_0.length ≤ c0_0) (h : spec_Version_part.f l0_0 a0_1 a0_2 a0_3 a1 = some r) :
  Calls Tryd.prog 31 #[.agg #[.slice A0_0 l0_0.length c0_0, .bool a0_1, .string a0_2, .string a0_3], .int .i64 a1] w fun e w' => e = .returned (.int .u64 r) ∧ Below w.heap.size w w' := by
 have hu25 := Tryd.underlying25
 have HR0_0 := Aside0.mk hr0_0
 have HC0_0 := Aside0.mk hc0_0
 clear hr0_0 hc0_0
 have HB := Aside0.mk (Below.refl w.heap.size w)
 have H : (if a1 < (l0_0.length : Int) then (if 0 ≤ a1 then (some (rd l0_0 a1)) else (none)) else (some 0)) = some r := h
 clear h
 by_cases c3 : a1 < (l0_0.length : Int)
 ·rw [if_pos c3] at H
  have c3b0 : decide (a1 < (l0_0.length : Int)) = true := decide_eq_true c3
  clear c3
  by_cases c4 : 0 ≤ a1
  ·rw [if_pos c4] at H
   have c4b0 : decide (0 ≤ a1) = true := decide_eq_true c4
   clear c4
   obtain rfl := Option.some.inj H
   go_enter Tryd.func31, Tryd.ntmps31
   go_wp2_with (first | ((with_reducible refine gate_dst (N := 2) rfl ?_); refine box_event ?hg (N := 2) ?hd (cs := #[.slice A0_0 l0_0.length c0_0, .bool a0_1, .string a0_2, .string a0_3]) (t := 25) ?hr ?_; (case hd => rfl); (case hg => rfl); (case hr => first | (go_simp; done) | (go_simp; rfl)); intro gb224 hg w5 hbox hb; have n0_ := Aside0.mk (below_step (by repeat (first | (with_reducible first | exact HB.out | apply below_alloc | apply pw_below_drewN | apply below_drew1) | exact HB.out)) hb); have n1_ := Aside0.mk (hbox); have n2_ := Aside0.mk ((by rw [hg]; exact (below_size (by repeat (first | (with_reducible first | exact HB.out | apply below_alloc | apply pw_below_drewN | apply below_drew1) | exact HB.out))) : w.heap.size ≤ gb224)); have n3_ := Aside0.mk ((by rw [hg]; exact (below_size (by repeat (first | (with_reducible first | exact HB.out | apply below_alloc | apply pw_below_drewN | apply below_drew1) | exact HB.out))) : w.heap.size ≤ gb224)); clear HB; have HB := n0_; have BK224 := n1_; have GW224 := n2_; have GE224 := n3_; clear n0_ n1_ n2_ n3_; clear hb hbox hg; have hcz6_0 : w5.cell? ⟨gb224, 0, none⟩ = some (.slice A0_0 l0_0.length c0_0) := (blk_cell BK224.out 0).trans rfl; have hcz6_1 : w5.cell? ⟨gb224, 1, none⟩ = some (.bool a0_1) := (blk_cell BK224.out 1).trans rfl; have hcz6_2 : w5.cell? ⟨gb224, 2, none⟩ = some (.string a0_2) := (blk_cell BK224.out 2).trans rfl; have hcz6_3 : w5.cell? ⟨gb224, 3, none⟩ = some (.string a0_3) := (blk_cell BK224.out 3).trans rfl; have hfz6_0 := blk_frozen BK224.out 0; have hfz6_1 := blk_frozen BK224.out 1; have hfz6_2 := blk_frozen BK224.out 2; have hfz6_3 := blk_frozen BK224.out 3; have p225 : 0 ≤ (a1 : Int) := of_decide_eq_true (by assumption); have q225 : a1 < (l0_0.length : Int) := of_decide_eq_true (by assumption); obtain ⟨ad225, e225, hx225_0⟩ := Kd.at_int HR0_0.out a1 p225 q225; cases e225; replace hx225_0 := (HB.out.cell (World.block_lt_of_cell? w _ hx225_0)).trans hx225_0; replace p225 := eq_true p225; replace q225 := eq_true q225))
   go_ret
   exact ⟨by first | rfl | (simp [errW_none, errW_some] <;> rfl) | (simp [*, errW_none, errW_some] <;> rfl), by repeat (first | (with_reducible first | exact HB.out | apply below_alloc | apply pw_below_drewN | apply below_drew1 | refine below_set ?_ GE224.out) | exact HB.out)⟩
  ·rw [if_neg c4] at H
   exact absurd H (by simp)
 ·rw [if_neg c3] at H
  have c3b0 : decide (a1 < (l0_0.length : Int)) = false := decide_eq_false c3
  clear c3
  obtain rfl := Option.some.inj H
  go_enter Tryd.func31, Tryd.ntmps31
  go_wp2_with (first | ((with_reducible refine gate_dst (N := 2) rfl ?_); refine box_event ?hg (N := 2) ?hd (cs := #[.slice A0_0 l0_0.length c0_0, .bool a0_1, .string a0_2, .string a0_3]) (t := 25) ?hr ?_; (case hd => rfl); (case hg => rfl); (case hr => first | (go_simp; done) | (go_simp; rfl)); intro gb224 hg w7 hbox hb; have n0_ := Aside0.mk (below_step (by repeat (first | (with_reducible first | exact HB.out | apply below_alloc | apply pw_below_drewN | apply below_drew1) | exact HB.out)) hb); have n1_ := Aside0.mk (hbox); have n2_ := Aside0.mk ((by rw [hg]; exact (below_size (by repeat (first | (with_reducible first | exact HB.out | apply below_alloc | apply pw_below_drewN | apply below_drew1) | exact HB.out))) : w.heap.size ≤ gb224)); have n3_ := Aside0.mk ((by rw [hg]; exact (below_size (by repeat (first | (with_reducible first | exact HB.out | apply below_alloc | apply pw_below_drewN | apply below_drew1) | exact HB.out))) : w.heap.size ≤ gb224)); clear HB; have HB := n0_; have BK224 := n1_; have GW224 := n2_; have GE224 := n3_; clear n0_ n1_ n2_ n3_; clear hb hbox hg; have hcz8_0 : w7.cell? ⟨gb224, 0, none⟩ = some (.slice A0_0 l0_0.length c0_0) := (blk_cell BK224.out 0).trans rfl; have hcz8_1 : w7.cell? ⟨gb224, 1, none⟩ = some (.bool a0_1) := (blk_cell BK224.out 1).trans rfl; have hcz8_2 : w7.cell? ⟨gb224, 2, none⟩ = some (.string a0_2) := (blk_cell BK224.out 2).trans rfl; have hcz8_3 : w7.cell? ⟨gb224, 3, none⟩ = some (.string a0_3) := (blk_cell BK224.out 3).trans rfl; have hfz8_0 := blk_frozen BK224.out 0; have hfz8_1 := blk_frozen BK224.out 1; have hfz8_2 := blk_frozen BK224.out 2; have hfz8_3 := blk_frozen BK224.out 3))
  go_ret
  exact ⟨by first | rfl | (simp [errW_none, errW_some] <;> rfl) | (simp [*, errW_none, errW_some] <;> rfl), by repeat (first | (with_reducible first | exact HB.out | apply below_alloc | apply pw_below_drewN | apply below_drew1 | refine below_set ?_ GE224.out) | exact HB.out)⟩
mutual
def spec_verIdentifier.j0 : Nat → ByteArray → ByteArray → Bool → Bool → Bool → Option (Int)
 | 0, _, _, _, _, _ => none
 | k + 1, x0, x1, x5, x6, x11 => if x11 = true then (some (-1)) else (if x5 = true then (spec_verIdentifier.j1 k x0 x1 x5 false) else (spec_verIdentifier.j1 k x0 x1 x5 x6))
def spec_verIdentifier.j1 : Nat → ByteArray → ByteArray → Bool → Bool → Option (Int)
 | 0, _, _, _, _ => none
 | k + 1, x0, x1, x5, x17 => if x17 = true then (some 1) else (if x5 = true then (spec_verIdentifier.j2 k x0 x1 ((x0.size : Int) != (x1.size : Int))) else (spec_verIdentifier.j2 k x0 x1 false))
def spec_verIdentifier.j2 : Nat → ByteArray → ByteArray → Bool → Option (Int)
 | 0, _, _, _ => none
 | k + 1, x0, x1, x23 => if x23 = true then (if (x0.size : Int) < (x1.size : Int) then (some (-1)) else (some 1)) else (if (Op.bytesLess x0.toList x1.toList) = true then (some (-1)) else (if (Op.bytesLess x1.toList x0.toList) = true then (some 1) else (some 0)))
end
def spec_verIdentifier.f (k : Nat) (a0 : ByteArray) (a1 : ByteArray) : Option (Int) := (spec_VerNumeric.f k a0).bind fun t226 => ((spec_VerNumeric.f k a1).bind fun t227 => (if t226 = true then (spec_verIdentifier.j0 k a0 a1 t226 t227 (!t227)) else (spec_verIdentifier.j0 k a0 a1 t226 t227 false)))
set_option maxHeartbeats 8000000 in
set_option maxRecDepth 100000 in
theorem spec_verIdentifier.calls (k : Nat) (a0 : ByteArray) (a1 : ByteArray) (r : Int) (w : World) (h : spec_verIdentifier.f k a0 a1 = some r) :
  Calls Tryd.prog 61 #[.string a0, .string a1] w fun e w' => e = .returned (.int .i64 r) ∧ Drawn0 w w' := by
 have H : ((spec_VerNumeric.f k a0).bind fun t226 => ((spec_VerNumeric.f k a1).bind fun t227 => (if t226 = true then (spec_verIdentifier.j0 k a0 a1 t226 t227 (!t227)) else (spec_verIdentifier.j0 k a0 a1 t226 t227 false)))) = some r := h
 clear h
 replace H := Option.bind_eq_some_iff.mp H
 obtain ⟨t226, A30, H⟩ := H
 replace H : ((spec_VerNumeric.f k a1).bind fun t227 => (if t226 = true then (spec_verIdentifier.j0 k a0 a1 t226 t227 (!t227)) else (spec_verIdentifier.j0 k a0 a1 t226 t227 false))) = some r := H
 have A3 := Aside0.mk A30
 clear A30
 replace H := Option.bind_eq_some_iff.mp H
 obtain ⟨t227, A40, H⟩ := H
 replace H : (if t226 = true then (spec_verIdentifier.j0 k a0 a1 t226 t227 (!t227)) else (spec_verIdentifier.j0 k a0 a1 t226 t227 false)) = some r := H
 have A4 := Aside0.mk A40
 clear A40
 have HC5 := Aside0.mk H
 clear H
 go_enter Tryd.func61, Tryd.ntmps61
 go_upto_region 2 with (first | ((with_reducible refine gate_callee (f := 60) rfl ?_); refine goesL_ (some 8) rfl rfl Tryd.func60 (by kernel_rfl) rfl #[.string a0] rfl (by (try simp only [List.map_toArray, List.map_cons, List.map_nil]); first | done | rfl | (simp only [List.length_drop, List.length_take]; rfl)) ?_; (with_reducible refine (spec_VerNumeric.calls k a0 t226 _ A3.out).mono ?_); rintro e w' ⟨rfl, ⟨nd, rfl⟩⟩; refine ⟨_, rfl, ?_⟩) | ((with_reducible refine gate_callee (f := 60) rfl ?_); refine goesL_ (some 10) rfl rfl Tryd.func60 (by kernel_rfl) rfl #[.string a1] rfl (by (try simp only [List.map_toArray, List.map_cons, List.map_nil]); first | done | rfl | (simp only [List.length_drop, List.length_take]; rfl)) ?_; (with_reducible refine (spec_VerNumeric.calls k a1 t227 _ A4.out).mono ?_); rintro e w' ⟨rfl, ⟨nd, rfl⟩⟩; refine ⟨_, rfl, ?_⟩))
 (try simp only [Act.put, List.setIfInBounds_toArray, List.set_cons_zero, List.set_cons_succ])
 go_cut [11] (fun v11 wc => ∃ (kq : Nat) (x11_4 : Bool), v11 = .bool x11_4 ∧ Aside0 (spec_verIdentifier.j0 kq a0 a1 t226 t227 x11_4 = some r) ∧ Aside0 (kq ≤ k) ∧ Drawn0 w wc)
 case first =>
  have H := HC5.out
  clear HC5
  by_cases c6 : t226 = true
  ·subst c6
   have H1 : (spec_verIdentifier.j0 k a0 a1 true t227 (!t227)) = some r := by rw [if_pos rfl] at H; exact H
   clear H
   have H := H1
   clear H1
   have H' := Aside0.mk H
   clear H
   go_wp2
   go_meet
   case rel => exact ⟨_, (!t227), (by first | rfl | (simp; done) | (simp [*]; done)), H', ⟨by first | omega | exact Nat.le_refl _⟩, by repeat (first | exact Drawn0.refl _ | apply Drawn0.step)⟩
  ·replace c6 := Bool.eq_false_iff.mpr c6
   subst c6
   have H1 : (spec_verIdentifier.j0 k a0 a1 false t227 false) = some r := by rw [if_neg (show ¬ (false = true) by decide)] at H; exact H
   clear H
   have H := H1
   clear H1
   have H' := Aside0.mk H
   clear H
   go_wp2
   go_meet
   case rel => exact ⟨_, (false), (by first | rfl | (simp; done) | (simp [*]; done)), H', ⟨by first | omega | exact Nat.le_refl _⟩, by repeat (first | exact Drawn0.refl _ | apply Drawn0.step)⟩
 case rest =>
  clear HC5
  try clear p2
  try clear c6
  obtain ⟨kq, x11_4, rfl, HA, HJ4, ⟨mc4, rfl⟩⟩ := hcut
  cases kq with
  | zero => exact absurd HA.out (by simp [spec_verIdentifier.j0])
  | succ kj4 =>
   have H := HA.out
   clear HA
   simp only [spec_verIdentifier.j0] at H
   by_cases c7 : x11_4 = true
   ·subst c7
    have H1 : (some (-1)) = some r := by rw [if_pos rfl] at H; exact H
    clear H
    have H := H1
    clear H1
    obtain rfl := Option.some.inj H
    go_wp2
    go_ret
    exact ⟨by first | rfl | (simp; done) | (simp [*]; done), by repeat (first | exact Drawn0.refl _ | apply Drawn0.step)⟩
   ·replace c7 := Bool.eq_false_iff.mpr c7
    subst c7
    have H1 : (if t226 = true then (spec_verIdentifier.j1 kj4 a0 a1 t226 false) else (spec_verIdentifier.j1 kj4 a0 a1 t226 t227)) = some r := by rw [if_neg (show ¬ (false = true) by decide)] at H; exact H
    clear H
    have H := H1
    clear H1
    have HC8 := Aside0.mk H
    clear H
    go_upto_region 4 with (fail)
    go_cut [17] (fun v17 wc => ∃ (kq : Nat) (x17_7 : Bool), v17 = .bool x17_7 ∧ Aside0 (spec_verIdentifier.j1 kq a0 a1 t226 x17_7 = some r) ∧ Aside0 (kq ≤ kj4) ∧ Drawn0 w wc)
    case first =>
     have H := HC8.out
     clear HC8
     by_cases c9 : t226 = true
     ·subst c9
      have H1 : (spec_verIdentifier.j1 kj4 a0 a1 true false) = some r := by rw [if_pos rfl] at H; exact H
      clear H
      have H := H1
      clear H1
      have H' := Aside0.mk H
      clear H
      go_wp2
      go_meet
      case rel => exact ⟨_, (false), (by first | rfl | (simp; done) | (simp [*]; done)), H', ⟨by have := HJ4.out; first | omega | exact Nat.le_refl _⟩, by repeat (first | exact Drawn0.refl _ | apply Drawn0.step)⟩
     ·replace c9 := Bool.eq_false_iff.mpr c9
      subst c9
      have H1 : (spec_verIdentifier.j1 kj4 a0 a1 false t227) = some r := by rw [if_neg (show ¬ (false = true) by decide)] at H; exact H
      clear H
      have H := H1
      clear H1
      have H' := Aside0.mk H
      clear H
      go_wp2
      go_meet
      case rel => exact ⟨_, (t227), (by first | rfl | (simp; done) | (simp [*]; done)), H', ⟨by have := HJ4.out; first | omega | exact Nat.le_refl _⟩, by repeat (first | exact Drawn0.refl _ | apply Drawn0.step)⟩
    case rest =>
     clear HC8
     try clear p2
     try clear c4
     try clear c6
     try clear c7
     try clear c9
     try clear p2
     obtain ⟨kq, x17_7, rfl, HA, HJ7, ⟨mc7, rfl⟩⟩ := hcut
     cases kq with
     | zero => exact absurd HA.out (by simp [spec_verIdentifier.j1])
     | succ kj7 =>
      have H := HA.out
      clear HA
      simp only [spec_verIdentifier.j1] at H
      by_cases c10 : x17_7 = true
      ·subst c10
       have H1 : (some 1) = some r := by rw [if_pos rfl] at H; exact H
       clear H
       have H := H1
       clear H1
       obtain rfl := Option.some.inj H
       go_wp2
       go_ret
       exact ⟨by first | rfl | (simp; done) | (simp [*]; done), by repeat (first | exact Drawn0.refl _ | apply Drawn0.step)⟩
      ·replace c10 := Bool.eq_false_iff.mpr c10
       subst c10
       have H1 : (if t226 = true then (spec_verIdentifier.j2 kj7 a0 a1 ((a0.size : Int) != (a1.size : Int))) else (spec_verIdentifier.j2 kj7 a0 a1 false)) = some r := by rw [if_neg (show ¬ (false = true) by decide)] at H; exact H
       clear H
       have H := H1
       clear H1
       have HC11 := Aside0.mk H
       clear H
       go_upto_region 6 with (fail)
       go_cut [23] (fun v23 wc => ∃ (kq : Nat) (x23_10 : Bool), v23 = .bool x23_10 ∧ Aside0 (spec_verIdentifier.j2 kq a0 a1 x23_10 = some r) ∧ Aside0 (kq ≤ kj7) ∧ Drawn0 w wc)
       case first =>
        have H := HC11.out
        clear HC11
        by_cases c12 : t226 = true
        ·subst c12
         have H1 : (spec_verIdentifier.j2 kj7 a0 a1 ((a0.size : Int) != (a1.size : Int))) = some r := by rw [if_pos rfl] at H; exact H
         clear H
         have H := H1
         clear H1
         have H' := Aside0.mk H
         clear H
         go_wp2
         go_meet
         case rel => exact ⟨_, (((a0.size : Int) != (a1.size : Int))), (by first | rfl | (simp; done) | (simp [*]; done)), H', ⟨by have := HJ4.out; have := HJ7.out; first | omega | exact Nat.le_refl _⟩, by repeat (first | exact Drawn0.refl _ | apply Drawn0.step)⟩
        ·replace c12 := Bool.eq_false_iff.mpr c12
         subst c12
         have H1 : (spec_verIdentifier.j2 kj7 a0 a1 false) = some r := by rw [if_neg (show ¬ (false = true) by decide)] at H; exact H
         clear H
         have H := H1
         clear H1
         have H' := Aside0.mk H
         clear H
         go_wp2
         go_meet
         case rel => exact ⟨_, (false), (by first | rfl | (simp; done) | (simp [*]; done)), H', ⟨by have := HJ4.out; have := HJ7.out; first | omega | exact Nat.le_refl _⟩, by repeat (first | exact Drawn0.refl _ | apply Drawn0.step)⟩
       case rest =>
        clear HC11
        try clear c1
        try clear p2
        try clear c4
        try clear c6
        try clear c7
        try clear c9
        try clear c10
        try clear c12
        try clear p2
        obtain ⟨kq, x23_10, rfl, HA, HJ10, ⟨mc10, rfl⟩⟩ := hcut
        cases kq with
        | zero => exact absurd HA.out (by simp [spec_verIdentifier.j2])
        | succ kj10 =>
         have H := HA.out
         clear HA
         simp only [spec_verIdentifier.j2] at H
         by_cases c13 : x23_10 = true
         ·subst c13
          have H1 : (if (a0.size : Int) < (a1.size : Int) then (some (-1)) else (some 1)) = some r := by rw [if_pos rfl] at H; exact H
          clear H
          have H := H1
          clear H1
          by_cases c14 : (a0.size : Int) < (a1.size : Int)
          ·rw [if_pos c14] at H
           have c14b0 : decide ((a0.size : Int) < (a1.size : Int)) = true := decide_eq_true c14
           have c14b1 : decide (a0.size < a1.size) = true := decide_eq_true (Int.ofNat_lt.mp c14)
           clear c14
           obtain rfl := Option.some.inj H
           go_wp2
           go_ret
           exact ⟨by first | rfl | (simp; done) | (simp [*]; done), by repeat (first | exact Drawn0.refl _ | apply Drawn0.step)⟩
          ·rw [if_neg c14] at H
           have c14b0 : decide ((a0.size : Int) < (a1.size : Int)) = false := decide_eq_false c14
           have c14b1 : decide (a0.size < a1.size) = false := decide_eq_false (fun h => c14 (Int.ofNat_lt.mpr h))
           clear c14
           obtain rfl := Option.some.inj H
           go_wp2
           go_ret
           exact ⟨by first | rfl | (simp; done) | (simp [*]; done), by repeat (first | exact Drawn0.refl _ | apply Drawn0.step)⟩
         ·replace c13 := Bool.eq_false_iff.mpr c13
          subst c13
          have H1 : (if (Op.bytesLess a0.toList a1.toList) = true then (some (-1)) else (if (Op.bytesLess a1.toList a0.toList) = true then (some 1) else (some 0))) = some r := by rw [if_neg (show ¬ (false = true) by decide)] at H; exact H
          clear H
          have H := H1
          clear H1
          by_cases c15 : (Op.bytesLess a0.toList a1.toList) = true
          ·rw [if_pos c15] at H
           have c15b0 : (Op.bytesLess a0.toList a1.toList) = true := c15
           clear c15
           obtain rfl := Option.some.inj H
           go_wp2
           go_ret
           exact ⟨by first | rfl | (simp; done) | (simp [*]; done), by repeat (first | exact Drawn0.refl _ | apply Drawn0.step)⟩
          ·rw [if_neg c15] at H
           have c15b0 : (Op.bytesLess a0.toList a1.toList) = false := by simpa using c15
           clear c15
           by_cases c16 : (Op.bytesLess a1.toList a0.toList) = true
           ·rw [if_pos c16] at H
            have c16b0 : (Op.bytesLess a1.toList a0.toList) = true := c16
            have hxg_ : (a0.toList == a1.toList) = false := by
             cases hx : (a0.toList == a1.toList) with
             | false => rfl
             | true => rw [gt_eq a0.toList a1.toList, hx] at c16; simp at c16
            clear c16
            obtain rfl := Option.some.inj H
            go_wp2
            go_ret
            exact ⟨by first | rfl | (simp; done) | (simp [*]; done), by repeat (first | exact Drawn0.refl _ | apply Drawn0.step)⟩
           ·rw [if_neg c16] at H
            have c16b0 : (Op.bytesLess a1.toList a0.toList) = false := by simpa using c16
            have hxg_ : (a0.toList == a1.toList) = true := by
             cases hx : (a0.toList == a1.toList) with
             | true => rfl
             | false => exact absurd (by rw [gt_eq a0.toList a1.toList, hx, c15b0]; rfl) c16
            clear c16
            obtain rfl := Option.some.inj H
            go_wp2
            go_ret
            exact ⟨by first | rfl | (simp; done) | (simp [*]; done), by repeat (first | exact Drawn0.refl _ | apply Drawn0.step)⟩
mutual
def spec_VerPrecedence.j0 : Nat → ByteArray → ByteArray → Bool → Option (Int)
 | 0, _, _, _ => none
 | k + 1, x0, x1, x14 => if x14 = true then (if x0.toList = x1.toList then (some 0) else (if x0.toList = ([] : List UInt8) then (some 1) else (some (-1)))) else ((spec_VerSplit.f k x0).bind fun t228 => ((spec_VerSplit.f k x1).bind fun t231 => (spec_VerPrecedence.l0 k t228 t231 0)))
def spec_VerPrecedence.l0 : Nat → List ByteArray → List ByteArray → Int → Option (Int)
 | 0, _, _, _ => none
 | k + 1, x5, x6, x7 => if x7 < (x5.length : Int) then (spec_VerPrecedence.j2 k x5 x6 x7 (decide (x7 < (x6.length : Int)))) else (spec_VerPrecedence.j2 k x5 x6 x7 false)
def spec_VerPrecedence.j2 : Nat → List ByteArray → List ByteArray → Int → Bool → Option (Int)
 | 0, _, _, _, _ => none
 | k + 1, x5, x6, x7, x35 => if x35 = true then (if 0 ≤ x7 then (if x7 < (x5.length : Int) then (if x7 < (x6.length : Int) then ((spec_verIdentifier.f k (rdOf ByteArray.empty x5 x7) (rdOf ByteArray.empty x6 x7)).bind fun t236 => (if t236 = 0 then (spec_VerPrecedence.l0 k x5 x6 (wrap64 (x7 + 1))) else (some t236))) else (none)) else (none)) else (none)) else (if (x5.length : Int) < (x6.length : Int) then (some (-1)) else (if (x5.length : Int) > (x6.length : Int) then (some 1) else (some 0)))
end
def spec_VerPrecedence.f (k : Nat) (a0 : ByteArray) (a1 : ByteArray) : Option (Int) := if a0.toList = ([] : List UInt8) then (spec_VerPrecedence.j0 k a0 a1 true) else (spec_VerPrecedence.j0 k a0 a1 (a1.toList == ([] : List UInt8)))
set_option maxHeartbeats 8000000 in
set_option maxRecDepth 100000 in
theorem spec_VerPrecedence.calls (k : Nat) (a0 : ByteArray) (a1 : ByteArray) (r : Int) (w : World) (h : spec_VerPrecedence.f k a0 a1 = some r) :
  Calls Tryd.prog 32 #[.string a0, .string a1] w fun e w' => e = .returned (.int .i64 r) ∧ Below w.heap.size w w' := by
 have HB := Aside0.mk (Below.refl w.heap.size w)
 have H : (if a0.toList = ([] : List UInt8) then (spec_VerPrecedence.j0 k a0 a1 true) else (spec_VerPrecedence.j0 k a0 a1 (a1.toList == ([] : List UInt8)))) = some r := h
 clear h
 have HC3 := Aside0.mk H
 clear H
 go_enter Tryd.func32, Tryd.ntmps32
 go_upto_region 1 with (fail)
 repeat (go_quiet (fail); go_upto_region 1 with (fail))
 go_cut [14] (fun v14 wc => ∃ (kq : Nat) (x14_2 : Bool), v14 = .bool x14_2 ∧ Aside0 (spec_VerPrecedence.j0 kq a0 a1 x14_2 = some r) ∧ Aside0 (kq ≤ k) ∧ Aside0 (Below w.heap.size w wc))
 case first =>
  have H := HC3.out
  clear HC3
  by_cases c4 : a0.toList = ([] : List UInt8)
  ·rw [if_pos c4] at H
   have c4b0 : (a0.toList == ([] : List UInt8)) = true := beq_iff_eq.mpr c4
   have c4b1 : (a0.toList != ([] : List UInt8)) = false := bne_eq_false_iff_eq.mpr c4
   clear c4
   (first | rw [c4b0] | (simp only [i64_w, i32_w]; rw [c4b0]) | skip)
   have H' := Aside0.mk H
   clear H
   go_wp2
   repeat (go_quiet (fail); try go_wp2)
   go_meet
   case rel => exact ⟨_, (true), (by first | rfl | (simp; done) | (simp [*]; done)), H', ⟨by first | omega | exact Nat.le_refl _⟩, ⟨by repeat (first | (with_reducible first | exact HB.out | apply below_alloc | apply pw_below_drewN | apply below_drew1) | exact HB.out)⟩⟩
  ·rw [if_neg c4] at H
   have c4b0 : (a0.toList == ([] : List UInt8)) = false := beq_eq_false_iff_ne.mpr c4
   have c4b1 : (a0.toList != ([] : List UInt8)) = true := bne_iff_ne.mpr c4
   (first | rw [c4b0] | (simp only [i64_w, i32_w]; rw [c4b0]) | skip)
   have H' := Aside0.mk H
   clear H
   go_wp2
   repeat (go_quiet (fail); try go_wp2)
   go_meet
   case rel => exact ⟨_, ((a1.toList == ([] : List UInt8))), (by first | rfl | (simp; done) | (simp [*]; done)), H', ⟨by first | omega | exact Nat.le_refl _⟩, ⟨by repeat (first | (with_reducible first | exact HB.out | apply below_alloc | apply pw_below_drewN | apply below_drew1) | exact HB.out)⟩⟩
 case rest =>
  clear HC3
  try clear p2
  try clear c3
  try clear c4
  try clear c4b0
  try clear c4b1
  obtain ⟨kq, x14_2, rfl, HA, HJ2, HB⟩ := hcut
  cases kq with
  | zero => exact absurd HA.out (by simp [spec_VerPrecedence.j0])
  | succ kj2 =>
   have H := HA.out
   clear HA
   simp only [spec_VerPrecedence.j0] at H
   by_cases c5 : x14_2 = true
   ·subst c5
    have H1 : (if a0.toList = a1.toList then (some 0) else (if a0.toList = ([] : List UInt8) then (some 1) else (some (-1)))) = some r := by rw [if_pos rfl] at H; exact H
    clear H
    have H := H1
    clear H1
    by_cases c6 : a0.toList = a1.toList
    ·rw [if_pos c6] at H
     have c6b0 : (a0.toList == a1.toList) = true := beq_iff_eq.mpr c6
     have c6b1 : (a0.toList != a1.toList) = false := bne_eq_false_iff_eq.mpr c6
     clear c6
     obtain rfl := Option.some.inj H
     go_wp2
     repeat (go_quiet (fail); try go_wp2)
     go_ret
     exact ⟨by first | rfl | (simp [errW_none, errW_some] <;> rfl) | (simp [*, errW_none, errW_some] <;> rfl), by repeat (first | (with_reducible first | exact HB.out | apply below_alloc | apply pw_below_drewN | apply below_drew1) | exact HB.out)⟩
    ·rw [if_neg c6] at H
     have c6b0 : (a0.toList == a1.toList) = false := beq_eq_false_iff_ne.mpr c6
     have c6b1 : (a0.toList != a1.toList) = true := bne_iff_ne.mpr c6
     by_cases c7 : a0.toList = ([] : List UInt8)
     ·rw [if_pos c7] at H
      have c7b0 : (a0.toList == ([] : List UInt8)) = true := beq_iff_eq.mpr c7
      have c7b1 : (a0.toList != ([] : List UInt8)) = false := bne_eq_false_iff_eq.mpr c7
      clear c7
      obtain rfl := Option.some.inj H
      go_wp2
      repeat (go_quiet (fail); try go_wp2)
      go_ret
      exact ⟨by first | rfl | (simp [errW_none, errW_some] <;> rfl) | (simp [*, errW_none, errW_some] <;> rfl), by repeat (first | (with_reducible first | exact HB.out | apply below_alloc | apply pw_below_drewN | apply below_drew1) | exact HB.out)⟩
     ·rw [if_neg c7] at H
      have c7b0 : (a0.toList == ([] : List UInt8)) = false := beq_eq_false_iff_ne.mpr c7
      have c7b1 : (a0.toList != ([] : List UInt8)) = true := bne_iff_ne.mpr c7
      obtain rfl := Option.some.inj H
      go_wp2
      repeat (go_quiet (fail); try go_wp2)
      go_ret
      exact ⟨by first | rfl | (simp [errW_none, errW_some] <;> rfl) | (simp [*, errW_none, errW_some] <;> rfl), by repeat (first | (with_reducible first | exact HB.out | apply below_alloc | apply pw_below_drewN | apply below_drew1) | exact HB.out)⟩
   ·replace c5 := Bool.eq_false_iff.mpr c5
    subst c5
    have H1 : ((spec_VerSplit.f kj2 a0).bind fun t228 => ((spec_VerSplit.f kj2 a1).bind fun t231 => (spec_VerPrecedence.l0 kj2 t228 t231 0))) = some r := by rw [if_neg (show ¬ (false = true) by decide)] at H; exact H
    clear H
    have H := H1
    clear H1
    replace H := Option.bind_eq_some_iff.mp H
    obtain ⟨t228, A80, H⟩ := H
    replace H : ((spec_VerSplit.f kj2 a1).bind fun t231 => (spec_VerPrecedence.l0 kj2 t228 t231 0)) = some r := H
    have A8 := Aside0.mk A80
    clear A80
    replace H := Option.bind_eq_some_iff.mp H
    obtain ⟨t231, A90, H⟩ := H
    replace H : (spec_VerPrecedence.l0 kj2 t228 t231 0) = some r := H
    have A9 := Aside0.mk A90
    clear A90
    have H' := Aside0.mk H
    clear H
    go_wp2_with (first | (go_at_call 29; (with_reducible refine (spec_VerSplit.calls kj2 a0 t228 _ A8.out).mono ?_); rintro e w10 ⟨v229, rfl, ho0, hb⟩; have n0_ := Aside0.mk (Kd.R_lower ho0 (below_size (by repeat (first | (with_reducible first | exact HB.out | apply below_alloc | apply pw_below_drewN | apply below_drew1) | exact HB.out)))); have n1_ := Aside0.mk (below_step (by repeat (first | (with_reducible first | exact HB.out | apply below_alloc | apply pw_below_drewN | apply below_drew1) | exact HB.out)) hb); clear HB; have HO230 := n0_; have HB := n1_; clear n0_ n1_; (try clear hb); (try clear hb2); (try clear hk); (try clear hi); (try clear ho0)) | (go_at_call 29; (with_reducible refine (spec_VerSplit.calls kj2 a1 t231 _ A9.out).mono ?_); rintro e w11 ⟨v232, rfl, ho0, hb⟩; have n0_ := Aside0.mk (Kd.R_elder' (by (with_reducible repeat (first | apply Kd.R_alloc | apply Kd.R_drewN | apply Kd.R_drew)); exact HO230.out) (Kd.R_base ho0) hb); have n1_ := Aside0.mk (Kd.R_lower (Kd.R_new' ho0 (Kd.R_lt (by (with_reducible repeat (first | apply Kd.R_alloc | apply Kd.R_drewN | apply Kd.R_drew)); exact HO230.out))) (below_size (by repeat (first | (with_reducible first | exact HB.out | apply below_alloc | apply pw_below_drewN | apply below_drew1) | exact HB.out)))); have n2_ := Aside0.mk (below_step (by repeat (first | (with_reducible first | exact HB.out | apply below_alloc | apply pw_below_drewN | apply below_drew1) | exact HB.out)) hb); clear HO230; clear HB; have HO230 := n0_; have HO233 := n1_; have HB := n2_; clear n0_ n1_ n2_; (try clear hb); (try clear hb2); (try clear hk); (try clear hi); (try clear ho0)))
    repeat (go_quiet (first | (go_at_call 29; (with_reducible refine (spec_VerSplit.calls kj2 a0 t228 _ A8.out).mono ?_); rintro e w10 ⟨v229, rfl, ho0, hb⟩; have n0_ := Aside0.mk (Kd.R_lower ho0 (below_size (by repeat (first | (with_reducible first | exact HB.out | apply below_alloc | apply pw_below_drewN | apply below_drew1) | exact HB.out)))); have n1_ := Aside0.mk (below_step (by repeat (first | (with_reducible first | exact HB.out | apply below_alloc | apply pw_below_drewN | apply below_drew1) | exact HB.out)) hb); clear HB; have HO230 := n0_; have HB := n1_; clear n0_ n1_; (try clear hb); (try clear hb2); (try clear hk); (try clear hi); (try clear ho0)) | (go_at_call 29; (with_reducible refine (spec_VerSplit.calls kj2 a1 t231 _ A9.out).mono ?_); rintro e w11 ⟨v232, rfl, ho0, hb⟩; have n0_ := Aside0.mk (Kd.R_elder' (by (with_reducible repeat (first | apply Kd.R_alloc | apply Kd.R_drewN | apply Kd.R_drew)); exact HO230.out) (Kd.R_base ho0) hb); have n1_ := Aside0.mk (Kd.R_lower (Kd.R_new' ho0 (Kd.R_lt (by (with_reducible repeat (first | apply Kd.R_alloc | apply Kd.R_drewN | apply Kd.R_drew)); exact HO230.out))) (below_size (by repeat (first | (with_reducible first | exact HB.out | apply below_alloc | apply pw_below_drewN | apply below_drew1) | exact HB.out)))); have n2_ := Aside0.mk (below_step (by repeat (first | (with_reducible first | exact HB.out | apply below_alloc | apply pw_below_drewN | apply below_drew1) | exact HB.out)) hb); clear HO230; clear HB; have HO230 := n0_; have HO233 := n1_; have HB := n2_; clear n0_ n1_ n2_; (try clear hb); (try clear hb2); (try clear hk); (try clear hi); (try clear ho0))); try go_wp2_with (first | (go_at_call 29; (with_reducible refine (spec_VerSplit.calls kj2 a0 t228 _ A8.out).mono ?_); rintro e w10 ⟨v229, rfl, ho0, hb⟩; have n0_ := Aside0.mk (Kd.R_lower ho0 (below_size (by repeat (first | (with_reducible first | exact HB.out | apply below_alloc | apply pw_below_drewN | apply below_drew1) | exact HB.out)))); have n1_ := Aside0.mk (below_step (by repeat (first | (with_reducible first | exact HB.out | apply below_alloc | apply pw_below_drewN | apply below_drew1) | exact HB.out)) hb); clear HB; have HO230 := n0_; have HB := n1_; clear n0_ n1_; (try clear hb); (try clear hb2); (try clear hk); (try clear hi); (try clear ho0)) | (go_at_call 29; (with_reducible refine (spec_VerSplit.calls kj2 a1 t231 _ A9.out).mono ?_); rintro e w11 ⟨v232, rfl, ho0, hb⟩; have n0_ := Aside0.mk (Kd.R_elder' (by (with_reducible repeat (first | apply Kd.R_alloc | apply Kd.R_drewN | apply Kd.R_drew)); exact HO230.out) (Kd.R_base ho0) hb); have n1_ := Aside0.mk (Kd.R_lower (Kd.R_new' ho0 (Kd.R_lt (by (with_reducible repeat (first | apply Kd.R_alloc | apply Kd.R_drewN | apply Kd.R_drew)); exact HO230.out))) (below_size (by repeat (first | (with_reducible first | exact HB.out | apply below_alloc | apply pw_below_drewN | apply below_drew1) | exact HB.out)))); have n2_ := Aside0.mk (below_step (by repeat (first | (with_reducible first | exact HB.out | apply below_alloc | apply pw_below_drewN | apply below_drew1) | exact HB.out)) hb); clear HO230; clear HB; have HO230 := n0_; have HO233 := n1_; have HB := n2_; clear n0_ n1_ n2_; (try clear hb); (try clear hb2); (try clear hk); (try clear hi); (try clear ho0))))
    go_loopg [7] kj2 (fun kq v7 w' => ∃ (x7_2 : Int), v7 = .int .i64 x7_2 ∧ Aside0 (spec_VerPrecedence.l0 kq t228 t231 x7_2 = some r) ∧ Aside0 (kq ≤ kj2) ∧ Aside0 (Kd.R Kd.string 9 w' w.heap.size (fun k_ => some k_ ≠ (v232 : Value).ownBlock) v229 t228) ∧ Aside0 (Kd.R Kd.string 9 w' w.heap.size (fun k_ => some k_ ≠ (v229 : Value).ownBlock) v232 t231) ∧ Aside0 (Below w.heap.size w w'))
    case atStart => exact ⟨(0), (by first | rfl | (simp; done) | (simp [*]; done)), H', ⟨Nat.le_refl _⟩, ⟨by (with_reducible repeat (first | apply Kd.R_alloc | apply Kd.R_drewN | apply Kd.R_drew)); exact Kd.R_mono HO230.out (fun _ hk => hk.2)⟩, ⟨by (with_reducible repeat (first | apply Kd.R_alloc | apply Kd.R_drewN | apply Kd.R_drew)); exact Kd.R_mono HO233.out (fun _ hk => hk.2)⟩, ⟨by repeat (first | (with_reducible first | exact HB.out | apply below_alloc | apply pw_below_drewN | apply below_drew1) | exact HB.out)⟩⟩
    case round =>
     clear H'
     try clear p2
     try clear c3
     try clear c4
     try clear c4b0
     try clear c4b1
     try clear c5
     try clear c6
     try clear c6b0
     try clear c6b1
     try clear c7
     try clear c7b0
     try clear c7b1
     try clear p2
     obtain ⟨x7_2, rfl, HA, HK2, HO_5, HO_6, HB⟩ := hrel
     cases gk with
     | zero => exact absurd HA.out (by simp [spec_VerPrecedence.l0])
     | succ k2 =>
      have H := HA.out
      clear HA
      simp only [spec_VerPrecedence.l0] at H
      have HC12 := Aside0.mk H
      clear H
      go_upto_region 9 with (fail)
      repeat (go_quiet (fail); go_upto_region 9 with (fail))
      go_cut [35] (fun v35 wc => ∃ (kq : Nat) (x35_11 : Bool), v35 = .bool x35_11 ∧ Aside0 (spec_VerPrecedence.j2 kq t228 t231 x7_2 x35_11 = some r) ∧ Aside0 (kq ≤ k2) ∧ Aside0 (Kd.R Kd.string 9 wc w.heap.size (fun k_ => some k_ ≠ (v232 : Value).ownBlock) v229 t228) ∧ Aside0 (Kd.R Kd.string 9 wc w.heap.size (fun k_ => some k_ ≠ (v229 : Value).ownBlock) v232 t231) ∧ Aside0 (Below w.heap.size w wc))
      case first =>
       have H := HC12.out
       clear HC12
       by_cases c13 : x7_2 < (t228.length : Int)
       ·rw [if_pos c13] at H
        have c13b0 : decide (x7_2 < (t228.length : Int)) = true := decide_eq_true c13
        clear c13
        (first | rw [c13b0] | (simp only [i64_w, i32_w]; rw [c13b0]) | skip)
        have H' := Aside0.mk H
        clear H
        obtain ⟨Ao14, co14, eo14⟩ := Kd.R_slice HO_5.out
        subst eo14
        obtain ⟨Ao15, co15, eo15⟩ := Kd.R_slice HO_6.out
        subst eo15
        go_wp2
        repeat (go_quiet (fail); try go_wp2)
        go_meet
        case rel => exact ⟨_, (decide (x7_2 < (t231.length : Int))), (by first | rfl | (simp; done) | (simp [*]; done)), H', ⟨by have := HJ2.out; have := HK2.out; first | omega | exact Nat.le_refl _⟩, ⟨by (with_reducible repeat (first | apply Kd.R_alloc | apply Kd.R_drewN | apply Kd.R_drew)); exact HO_5.out⟩, ⟨by (with_reducible repeat (first | apply Kd.R_alloc | apply Kd.R_drewN | apply Kd.R_drew)); exact HO_6.out⟩, ⟨by repeat (first | (with_reducible first | exact HB.out | apply below_alloc | apply pw_below_drewN | apply below_drew1) | exact HB.out)⟩⟩
       ·rw [if_neg c13] at H
        have c13b0 : decide (x7_2 < (t228.length : Int)) = false := decide_eq_false c13
        clear c13
        (first | rw [c13b0] | (simp only [i64_w, i32_w]; rw [c13b0]) | skip)
        have H' := Aside0.mk H
        clear H
        obtain ⟨Ao16, co16, eo16⟩ := Kd.R_slice HO_5.out
        subst eo16
        go_wp2
        repeat (go_quiet (fail); try go_wp2)
        go_meet
        case rel => exact ⟨_, (false), (by first | rfl | (simp; done) | (simp [*]; done)), H', ⟨by have := HJ2.out; have := HK2.out; first | omega | exact Nat.le_refl _⟩, ⟨by (with_reducible repeat (first | apply Kd.R_alloc | apply Kd.R_drewN | apply Kd.R_drew)); exact HO_5.out⟩, ⟨by (with_reducible repeat (first | apply Kd.R_alloc | apply Kd.R_drewN | apply Kd.R_drew)); exact HO_6.out⟩, ⟨by repeat (first | (with_reducible first | exact HB.out | apply below_alloc | apply pw_below_drewN | apply below_drew1) | exact HB.out)⟩⟩
      case rest =>
       clear HC12
       try clear c1
       try clear p2
       try clear c3
       try clear c4
       try clear c4b0
       try clear c4b1
       try clear c5
       try clear c6
       try clear c6b0
       try clear c6b1
       try clear c7
       try clear c7b0
       try clear c7b1
       try clear c13
       try clear c13b0
       try clear p2
       obtain ⟨kq, x35_11, rfl, HA, HJ11, HO_5, HO_6, HB⟩ := hcut
       cases kq with
       | zero => exact absurd HA.out (by simp [spec_VerPrecedence.j2])
       | succ kj11 =>
        have H := HA.out
        clear HA
        simp only [spec_VerPrecedence.j2] at H
        by_cases c17 : x35_11 = true
        ·subst c17
         have H1 : (if 0 ≤ x7_2 then (if x7_2 < (t228.length : Int) then (if x7_2 < (t231.length : Int) then ((spec_verIdentifier.f kj11 (rdOf ByteArray.empty t228 x7_2) (rdOf ByteArray.empty t231 x7_2)).bind fun t236 => (if t236 = 0 then (spec_VerPrecedence.l0 kj11 t228 t231 (wrap64 (x7_2 + 1))) else (some t236))) else (none)) else (none)) else (none)) = some r := by rw [if_pos rfl] at H; exact H
         clear H
         have H := H1
         clear H1
         by_cases c18 : 0 ≤ x7_2
         ·rw [if_pos c18] at H
          have c18b0 : decide (0 ≤ x7_2) = true := decide_eq_true c18
          clear c18
          by_cases c19 : x7_2 < (t228.length : Int)
          ·rw [if_pos c19] at H
           have c19b0 : decide (x7_2 < (t228.length : Int)) = true := decide_eq_true c19
           clear c19
           by_cases c20 : x7_2 < (t231.length : Int)
           ·rw [if_pos c20] at H
            have c20b0 : decide (x7_2 < (t231.length : Int)) = true := decide_eq_true c20
            clear c20
            replace H := Option.bind_eq_some_iff.mp H
            obtain ⟨t236, A210, H⟩ := H
            replace H : (if t236 = 0 then (spec_VerPrecedence.l0 kj11 t228 t231 (wrap64 (x7_2 + 1))) else (some t236)) = some r := H
            have A21 := Aside0.mk A210
            clear A210
            by_cases c22 : t236 = 0
            ·rw [if_pos c22] at H
             have c22b0 : (t236 == 0) = true := beq_iff_eq.mpr c22
             have c22b1 : (t236 != 0) = false := bne_eq_false_iff_eq.mpr c22
             clear c22
             have H' := Aside0.mk H
             clear H
             obtain ⟨Ao23, co23, eo23⟩ := Kd.R_slice HO_5.out
             subst eo23
             have p234 : 0 ≤ (x7_2 : Int) := of_decide_eq_true (by assumption)
             have q234 : x7_2 < (t228.length : Int) := of_decide_eq_true (by assumption)
             obtain ⟨ad234, e234, hx234_0⟩ := Kd.at_string (Kd.R_reads' HO_5.out).2.2 x7_2 p234 q234
             cases e234
             replace p234 := eq_true p234
             replace q234 := eq_true q234
             obtain ⟨Ao24, co24, eo24⟩ := Kd.R_slice HO_6.out
             subst eo24
             have p235 : 0 ≤ (x7_2 : Int) := of_decide_eq_true (by assumption)
             have q235 : x7_2 < (t231.length : Int) := of_decide_eq_true (by assumption)
             obtain ⟨ad235, e235, hx235_0⟩ := Kd.at_string (Kd.R_reads' HO_6.out).2.2 x7_2 p235 q235
             cases e235
             replace p235 := eq_true p235
             replace q235 := eq_true q235
             go_wp2_with (first | (go_at_call 61; (with_reducible refine (spec_verIdentifier.calls kj11 (rdOf ByteArray.empty t228 x7_2) (rdOf ByteArray.empty t231 x7_2) t236 _ A21.out).mono ?_); rintro e w' ⟨rfl, ⟨nd, rfl⟩⟩; (try first | exact ⟨rfl, _, World.drewN_drewN _ _ _⟩ | exact ⟨rfl, _, Eq.trans (World.drewN_drewN _ _ _) (congrArg (World.drewN _) (Nat.add_assoc _ _ _))⟩)))
             repeat (go_quiet (first | (go_at_call 61; (with_reducible refine (spec_verIdentifier.calls kj11 (rdOf ByteArray.empty t228 x7_2) (rdOf ByteArray.empty t231 x7_2) t236 _ A21.out).mono ?_); rintro e w' ⟨rfl, ⟨nd, rfl⟩⟩; (try first | exact ⟨rfl, _, World.drewN_drewN _ _ _⟩ | exact ⟨rfl, _, Eq.trans (World.drewN_drewN _ _ _) (congrArg (World.drewN _) (Nat.add_assoc _ _ _))⟩))); try go_wp2_with (first | (go_at_call 61; (with_reducible refine (spec_verIdentifier.calls kj11 (rdOf ByteArray.empty t228 x7_2) (rdOf ByteArray.empty t231 x7_2) t236 _ A21.out).mono ?_); rintro e w' ⟨rfl, ⟨nd, rfl⟩⟩; (try first | exact ⟨rfl, _, World.drewN_drewN _ _ _⟩ | exact ⟨rfl, _, Eq.trans (World.drewN_drewN _ _ _) (congrArg (World.drewN _) (Nat.add_assoc _ _ _))⟩))))
             go_roundg kj11
             case measure => have := HJ2.out; have := HK2.out; have := HJ11.out; omega
             case rel => exact ⟨(wrap64 (x7_2 + 1)), (by first | rfl | (simp; done) | (simp [*]; done)), H', ⟨by have := HJ2.out; have := HK2.out; have := HJ11.out; omega⟩, ⟨by (with_reducible repeat (first | apply Kd.R_alloc | apply Kd.R_drewN | apply Kd.R_drew)); exact HO_5.out⟩, ⟨by (with_reducible repeat (first | apply Kd.R_alloc | apply Kd.R_drewN | apply Kd.R_drew)); exact HO_6.out⟩, ⟨by repeat (first | (with_reducible first | exact HB.out | apply below_alloc | apply pw_below_drewN | apply below_drew1) | exact HB.out)⟩⟩
            ·rw [if_neg c22] at H
             have c22b0 : (t236 == 0) = false := beq_eq_false_iff_ne.mpr c22
             have c22b1 : (t236 != 0) = true := bne_iff_ne.mpr c22
             obtain rfl := Option.some.inj H
             obtain ⟨Ao25, co25, eo25⟩ := Kd.R_slice HO_5.out
             subst eo25
             have p234 : 0 ≤ (x7_2 : Int) := of_decide_eq_true (by assumption)
             have q234 : x7_2 < (t228.length : Int) := of_decide_eq_true (by assumption)
             obtain ⟨ad234, e234, hx234_0⟩ := Kd.at_string (Kd.R_reads' HO_5.out).2.2 x7_2 p234 q234
             cases e234
             replace p234 := eq_true p234
             replace q234 := eq_true q234
             obtain ⟨Ao26, co26, eo26⟩ := Kd.R_slice HO_6.out
             subst eo26
             have p235 : 0 ≤ (x7_2 : Int) := of_decide_eq_true (by assumption)
             have q235 : x7_2 < (t231.length : Int) := of_decide_eq_true (by assumption)
             obtain ⟨ad235, e235, hx235_0⟩ := Kd.at_string (Kd.R_reads' HO_6.out).2.2 x7_2 p235 q235
             cases e235
             replace p235 := eq_true p235
             replace q235 := eq_true q235
             go_wp2_with (first | (go_at_call 61; (with_reducible refine (spec_verIdentifier.calls kj11 (rdOf ByteArray.empty t228 x7_2) (rdOf ByteArray.empty t231 x7_2) t236 _ A21.out).mono ?_); rintro e w' ⟨rfl, ⟨nd, rfl⟩⟩; (try first | exact ⟨rfl, _, World.drewN_drewN _ _ _⟩ | exact ⟨rfl, _, Eq.trans (World.drewN_drewN _ _ _) (congrArg (World.drewN _) (Nat.add_assoc _ _ _))⟩)))
             repeat (go_quiet (first | (go_at_call 61; (with_reducible refine (spec_verIdentifier.calls kj11 (rdOf ByteArray.empty t228 x7_2) (rdOf ByteArray.empty t231 x7_2) t236 _ A21.out).mono ?_); rintro e w' ⟨rfl, ⟨nd, rfl⟩⟩; (try first | exact ⟨rfl, _, World.drewN_drewN _ _ _⟩ | exact ⟨rfl, _, Eq.trans (World.drewN_drewN _ _ _) (congrArg (World.drewN _) (Nat.add_assoc _ _ _))⟩))); try go_wp2_with (first | (go_at_call 61; (with_reducible refine (spec_verIdentifier.calls kj11 (rdOf ByteArray.empty t228 x7_2) (rdOf ByteArray.empty t231 x7_2) t236 _ A21.out).mono ?_); rintro e w' ⟨rfl, ⟨nd, rfl⟩⟩; (try first | exact ⟨rfl, _, World.drewN_drewN _ _ _⟩ | exact ⟨rfl, _, Eq.trans (World.drewN_drewN _ _ _) (congrArg (World.drewN _) (Nat.add_assoc _ _ _))⟩))))
             go_ret
             exact ⟨by first | rfl | (simp [errW_none, errW_some] <;> rfl) | (simp [*, errW_none, errW_some] <;> rfl), by repeat (first | (with_reducible first | exact HB.out | apply below_alloc | apply pw_below_drewN | apply below_drew1) | exact HB.out)⟩
           ·rw [if_neg c20] at H
            exact absurd H (by simp)
          ·rw [if_neg c19] at H
           exact absurd H (by simp)
         ·rw [if_neg c18] at H
          exact absurd H (by simp)
        ·replace c17 := Bool.eq_false_iff.mpr c17
         subst c17
         have H1 : (if (t228.length : Int) < (t231.length : Int) then (some (-1)) else (if (t228.length : Int) > (t231.length : Int) then (some 1) else (some 0))) = some r := by rw [if_neg (show ¬ (false = true) by decide)] at H; exact H
         clear H
         have H := H1
         clear H1
         by_cases c27 : (t228.length : Int) < (t231.length : Int)
         ·rw [if_pos c27] at H
          have c27b0 : decide ((t228.length : Int) < (t231.length : Int)) = true := decide_eq_true c27
          have c27b1 : decide (t228.length < t231.length) = true := decide_eq_true (Int.ofNat_lt.mp c27)
          clear c27
          obtain rfl := Option.some.inj H
          obtain ⟨Ao28, co28, eo28⟩ := Kd.R_slice HO_5.out
          subst eo28
          obtain ⟨Ao29, co29, eo29⟩ := Kd.R_slice HO_6.out
          subst eo29
          go_wp2
          repeat (go_quiet (fail); try go_wp2)
          go_ret
          exact ⟨by first | rfl | (simp [errW_none, errW_some] <;> rfl) | (simp [*, errW_none, errW_some] <;> rfl), by repeat (first | (with_reducible first | exact HB.out | apply below_alloc | apply pw_below_drewN | apply below_drew1) | exact HB.out)⟩
         ·rw [if_neg c27] at H
          have c27b0 : decide ((t228.length : Int) < (t231.length : Int)) = false := decide_eq_false c27
          have c27b1 : decide (t228.length < t231.length) = false := decide_eq_false (fun h => c27 (Int.ofNat_lt.mpr h))
          clear c27
          by_cases c30 : (t228.length : Int) > (t231.length : Int)
          ·rw [if_pos c30] at H
           have c30b0 : decide ((t231.length : Int) < (t228.length : Int)) = true := decide_eq_true c30
           have c30b1 : decide (t231.length < t228.length) = true := decide_eq_true (Int.ofNat_lt.mp c30)
           clear c30
           obtain rfl := Option.some.inj H
           obtain ⟨Ao31, co31, eo31⟩ := Kd.R_slice HO_5.out
           subst eo31
           obtain ⟨Ao32, co32, eo32⟩ := Kd.R_slice HO_6.out
           subst eo32
           go_wp2
           repeat (go_quiet (fail); try go_wp2)
           go_ret
           exact ⟨by first | rfl | (simp [errW_none, errW_some] <;> rfl) | (simp [*, errW_none, errW_some] <;> rfl), by repeat (first | (with_reducible first | exact HB.out | apply below_alloc | apply pw_below_drewN | apply below_drew1) | exact HB.out)⟩
          ·rw [if_neg c30] at H
           have c30b0 : decide ((t231.length : Int) < (t228.length : Int)) = false := decide_eq_false c30
           have c30b1 : decide (t231.length < t228.length) = false := decide_eq_false (fun h => c30 (Int.ofNat_lt.mpr h))
           clear c30
           obtain rfl := Option.some.inj H
           obtain ⟨Ao33, co33, eo33⟩ := Kd.R_slice HO_5.out
           subst eo33
           obtain ⟨Ao34, co34, eo34⟩ := Kd.R_slice HO_6.out
           subst eo34
           go_wp2
           repeat (go_quiet (fail); try go_wp2)
           go_ret
           exact ⟨by first | rfl | (simp [errW_none, errW_some] <;> rfl) | (simp [*, errW_none, errW_some] <;> rfl), by repeat (first | (with_reducible first | exact HB.out | apply below_alloc | apply pw_below_drewN | apply below_drew1) | exact HB.out)⟩
end Go.Proofs.YtmfgkidppchobaaDoor.XFnVersionCompare

