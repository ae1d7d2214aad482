/- A text of this session: the functions of the law FnKubeMade, by a program that calls the kit's print and lays this session's own contracts of single functions beside. -/
import Derived.Test.YtmkpkpkcoieeiaaDoorXFnKubeMadex0
namespace Go.Proofs.YtmkpkpkcoieeiaaDoor.XFnKubeMade
open Go.RowKit Go.Proofs.YtmkpkpkcoieeiaaDoorW.PrintWords Go.Proofs.YtmkpkpkcoieeiaaDoorW.PrintLast Go.Proofs.YtmkpkpkcoieeiaaDoorW.PrintMore
attribute [local go_sem] max2_int min2_int max_two min_two max_three min_three max_four min_four   -- for this text's walks alone
set_option linter.unusedVariables false
set_option linter.unusedSimpArgs false

/-! ### spec_VerUintText: function 13 -/
def spec_VerUintText.f : Nat → Int → Option (ByteArray)
  | 0, _ => none
  | k + 1, a0 => (some (([(IntKind.u64.wrap (48 + (Int.tmod a0 10))) % 256] : List Int) : List Int)).bind fun y124 => (if a0 < 10 then (some (strOfNums y124)) else ((spec_VerUintText.f k (IntKind.u64.wrap (Int.tdiv a0 10))).bind fun t127 => (if t127.size + (strOfNums y124).size ≤ 9223372036854775807 then (some (t127 ++ (strOfNums y124))) else (none))))
theorem spec_VerUintText.mono_l : ∀ k, (∀ y0, LeO (spec_VerUintText.f k y0) (spec_VerUintText.f (k + 1) y0))
  | 0 => fun _ r h => by simp [spec_VerUintText.f] at h
  | k + 1 => by
    have ih0 := spec_VerUintText.mono_l k
    · intro y0
      unfold spec_VerUintText.f
      repeat' first
      | (with_reducible exact ih0 _)
      | (with_reducible exact LeO.refl _)
      | (with_reducible exact LeO.none _)
      | (with_reducible refine LeO.ite ?_ ?_)
      | (with_reducible refine LeO.bind ?_ (fun _ => ?_))
      | exact ih0 _
      | exact LeO.none _
      | refine LeO.ite ?_ ?_
      | refine LeO.bind ?_ (fun _ => ?_)
theorem spec_VerUintText.mono : ∀ a0 k, LeO (spec_VerUintText.f k a0) (spec_VerUintText.f (k + 1) a0) := by
  intro a0 k
  have ih0 := spec_VerUintText.mono_l k
  exact ih0 a0
set_option maxHeartbeats 8000000 in
set_option maxRecDepth 100000 in
theorem spec_VerUintText.calls (k : Nat) : ∀ (a0 : Int) (r : ByteArray) (w : World) (h : spec_VerUintText.f k a0 = some r),
    Calls Tryd.prog 13 #[.int .u64 a0] w fun e w' => e = .returned (.string r) ∧ Below w.heap.size w w' := by
  induction k using Nat.strongRecOn with
  | _ k ih =>
  intro a0 r w h
  cases k with
  | zero => exact absurd h (by simp [spec_VerUintText.f])
  | succ k =>
  simp only [spec_VerUintText.f] at h
  have HB := Aside0.mk (Below.refl w.heap.size w)
  have H : ((some (([(IntKind.u64.wrap (48 + (Int.tmod a0 10))) % 256] : List Int) : List Int)).bind fun y124 => (if a0 < 10 then (some (strOfNums y124)) else ((spec_VerUintText.f k (IntKind.u64.wrap (Int.tdiv a0 10))).bind fun t127 => (if t127.size + (strOfNums y124).size ≤ 9223372036854775807 then (some (t127 ++ (strOfNums y124))) else (none))))) = some r := h
  clear h
  obtain ⟨y124, hy124⟩ : ∃ y_ : List Int, y_ = (([(IntKind.u64.wrap (48 + (Int.tmod a0 10))) % 256] : List Int)) := ⟨_, rfl⟩
  replace H : (if a0 < 10 then (some (strOfNums y124)) else ((spec_VerUintText.f k (IntKind.u64.wrap (Int.tdiv a0 10))).bind fun t127 => (if t127.size + (strOfNums y124).size ≤ 9223372036854775807 then (some (t127 ++ (strOfNums y124))) else (none)))) = some r := by first | (rw [hy124]; with_reducible exact H) | (have H2_ := (Option.bind_some _ _).symm.trans H; rw [hy124]; with_reducible exact H2_) | (have H2_ := (Option.bind_some _ _).symm.trans H; with_reducible exact H2_) | with_reducible exact H | (rw [hy124]; exact H) | exact H
  have Ny124 := Aside0.mk hy124
  clear hy124
  by_cases c2 : a0 < 10
  · rw [if_pos c2] at H
    have c2b0 : decide (a0 < 10) = true := decide_eq_true c2
    clear c2
    obtain rfl := Option.some.inj H
    go_enter Tryd.func13, Tryd.ntmps13
    go_wp2_with (first | ((with_reducible refine gate_dst (N := 8) rfl ?_); refine Kd.R_lit (Kd.int .u8) _ 5 ?hg (N := 8) ?hd (xs := ([(IntKind.u64.wrap (48 + (Int.tmod a0 10))) % 256] : List Int)) (inner := [.int .u8 ((IntKind.u64.wrap (48 + (Int.tmod a0 10))) % 256)]) (ok := fun _ => True) (okp := fun _ => True) ?hr ?hp (fun _ hk => hk) trivial (Below.refl _ _) (Nat.le_refl _) (by simp) ?_; (case hd => rfl); (case hg => rfl); (case hr => first | (go_simp; done) | (go_simp; rfl)); (case hp => exact (Reps.one (show Kd.M (Kd.int .u8) _ _ _ ((IntKind.u64.wrap (48 + (Int.tmod a0 10))) % 256) [.int .u8 ((IntKind.u64.wrap (48 + (Int.tmod a0 10))) % 256)] from rfl) (Reps.none _ _))); intro v125 w3 ho4 hb hg_ hnew_; clear hg_ hnew_; (first | rw [← Ny124.out] at ho4 | (simp only [Int.reduceToNat] at ho4; rw [← Ny124.out] at ho4)); have n0_ := Aside0.mk (Kd.R_lower ho4 (below_size (by repeat (first | (with_reducible first | exact HB.out | apply below_alloc | apply pw_below_drewN | apply below_drew1) | exact HB.out)))); have n1_ := Aside0.mk (below_step (by repeat (first | (with_reducible first | exact HB.out | apply below_alloc | apply pw_below_drewN | apply below_drew1) | exact HB.out)) hb); clear HB; have HO126 := n0_; have HB := n1_; clear n0_ n1_; clear hb ho4; have hcv5 := own_string (P := Tryd.prog) Tryd.underlying46 Tryd.underlying5 Tryd.underlying9 (Kd.own_of_R HO126.out)))
    go_ret
    exact ⟨by first | rfl | (simp [errW_none, errW_some] <;> rfl) | (simp [*, errW_none, errW_some] <;> rfl), by repeat (first | (with_reducible first | exact HB.out | apply below_alloc | apply pw_below_drewN | apply below_drew1) | exact HB.out)⟩
  · rw [if_neg c2] at H
    have c2b0 : decide (a0 < 10) = false := decide_eq_false c2
    clear c2
    replace H := Option.bind_eq_some_iff.mp H
    obtain ⟨t127, A60, H⟩ := H
    replace H : (if t127.size + (strOfNums y124).size ≤ 9223372036854775807 then (some (t127 ++ (strOfNums y124))) else (none)) = some r := H
    have A6 := Aside0.mk A60
    clear A60
    by_cases c7 : t127.size + (strOfNums y124).size ≤ 9223372036854775807
    · rw [if_pos c7] at H
      have c7b0 := eq_true c7
      have c7b1 : decide (t127.size + (strOfNums y124).size ≤ 9223372036854775807) = true := decide_eq_true c7
      try have c7b2 : (9223372036854775807 < t127.size + (strOfNums y124).size) = False := eq_false (Nat.not_lt.2 c7)
      obtain rfl := Option.some.inj H
      go_enter Tryd.func13, Tryd.ntmps13
      go_wp2_with (first | ((with_reducible refine gate_dst (N := 8) rfl ?_); refine Kd.R_lit (Kd.int .u8) _ 5 ?hg (N := 8) ?hd (xs := ([(IntKind.u64.wrap (48 + (Int.tmod a0 10))) % 256] : List Int)) (inner := [.int .u8 ((IntKind.u64.wrap (48 + (Int.tmod a0 10))) % 256)]) (ok := fun _ => True) (okp := fun _ => True) ?hr ?hp (fun _ hk => hk) trivial (Below.refl _ _) (Nat.le_refl _) (by simp) ?_; (case hd => rfl); (case hg => rfl); (case hr => first | (go_simp; done) | (go_simp; rfl)); (case hp => exact (Reps.one (show Kd.M (Kd.int .u8) _ _ _ ((IntKind.u64.wrap (48 + (Int.tmod a0 10))) % 256) [.int .u8 ((IntKind.u64.wrap (48 + (Int.tmod a0 10))) % 256)] from rfl) (Reps.none _ _))); intro v125 w8 ho9 hb hg_ hnew_; clear hg_ hnew_; (first | rw [← Ny124.out] at ho9 | (simp only [Int.reduceToNat] at ho9; rw [← Ny124.out] at ho9)); have n0_ := Aside0.mk (Kd.R_lower ho9 (below_size (by repeat (first | (with_reducible first | exact HB.out | apply below_alloc | apply pw_below_drewN | apply below_drew1) | exact HB.out)))); have n1_ := Aside0.mk (below_step (by repeat (first | (with_reducible first | exact HB.out | apply below_alloc | apply pw_below_drewN | apply below_drew1) | exact HB.out)) hb); clear HB; have HO126 := n0_; have HB := n1_; clear n0_ n1_; clear hb ho9; have hcv10 := own_string (P := Tryd.prog) Tryd.underlying46 Tryd.underlying5 Tryd.underlying9 (Kd.own_of_R HO126.out)) | ((with_reducible refine gate_callee (f := 13) rfl ?_); refine goesL_ (some 15) rfl rfl Tryd.func13 (by kernel_rfl) rfl #[.int .u64 (IntKind.u64.wrap (Int.tdiv a0 10))] rfl (by (try simp only [List.map_toArray, List.map_cons, List.map_nil]); first | done | rfl | (simp only [List.length_drop, List.length_take]; rfl)) ?_; (with_reducible refine (ih k (by omega) (IntKind.u64.wrap (Int.tdiv a0 10)) t127 _ A6.out).mono ?_); rintro e w11 ⟨rfl, hb⟩; refine ⟨_, rfl, ?_⟩; have n0_ := Aside0.mk (Kd.R_below (by (with_reducible repeat (first | apply Kd.R_alloc | apply Kd.R_drewN | apply Kd.R_drew)); exact HO126.out) hb); have n1_ := Aside0.mk (below_step (by repeat (first | (with_reducible first | exact HB.out | apply below_alloc | apply pw_below_drewN | apply below_drew1) | exact HB.out)) hb); clear HO126; clear HB; have HO126 := n0_; have HB := n1_; clear n0_ n1_; (try clear hb); (try clear hb2); (try clear hk); (try clear hi)))
      go_ret
      exact ⟨by first | rfl | (simp [errW_none, errW_some] <;> rfl) | (simp [*, errW_none, errW_some] <;> rfl), by repeat (first | (with_reducible first | exact HB.out | apply below_alloc | apply pw_below_drewN | apply below_drew1) | exact HB.out)⟩
    · rw [if_neg c7] at H
      exact absurd H (by simp)

/-! ### laws_FnKubeMade_1: function 12 -/
def laws_FnKubeMade_1.f (k : Nat) (a0 : Int) (a1 : Int) (a2 : Int) : Option (ByteArray) := (spec_VerUintText.f k (IntKind.u64.wrap (a1))).bind fun t128 => (if 1 + t128.size ≤ 9223372036854775807 then (if (Int.tmod a0 3) = 0 then (if ((⟨#[118]⟩ : ByteArray) ++ t128).size + 5 ≤ 9223372036854775807 then ((spec_VerUintText.f k (IntKind.u64.wrap (a2))).bind fun t129 => (if (((⟨#[118]⟩ : ByteArray) ++ t128) ++ (⟨#[97, 108, 112, 104, 97]⟩ : ByteArray)).size + t129.size ≤ 9223372036854775807 then (some ((((⟨#[118]⟩ : ByteArray) ++ t128) ++ (⟨#[97, 108, 112, 104, 97]⟩ : ByteArray)) ++ t129)) else (none))) else (none)) else (if (Int.tmod a0 3) = 1 then (if ((⟨#[118]⟩ : ByteArray) ++ t128).size + 4 ≤ 9223372036854775807 then ((spec_VerUintText.f k (IntKind.u64.wrap (a2))).bind fun t130 => (if (((⟨#[118]⟩ : ByteArray) ++ t128) ++ (⟨#[98, 101, 116, 97]⟩ : ByteArray)).size + t130.size ≤ 9223372036854775807 then (some ((((⟨#[118]⟩ : ByteArray) ++ t128) ++ (⟨#[98, 101, 116, 97]⟩ : ByteArray)) ++ t130)) else (none))) else (none)) else (some ((⟨#[118]⟩ : ByteArray) ++ t128)))) else (none))
theorem laws_FnKubeMade_1.mono : ∀ a0 a1 a2 k, LeO (laws_FnKubeMade_1.f k a0 a1 a2) (laws_FnKubeMade_1.f (k + 1) a0 a1 a2) := by
  intro a0 a1 a2 k
  unfold laws_FnKubeMade_1.f
  repeat' first
      | (with_reducible exact spec_VerUintText.mono _ _)
      | (with_reducible exact LeO.refl _)
      | (with_reducible exact LeO.none _)
      | (with_reducible refine LeO.ite ?_ ?_)
      | (with_reducible refine LeO.bind ?_ (fun _ => ?_))
      | exact spec_VerUintText.mono _ _
      | exact LeO.none _
      | refine LeO.ite ?_ ?_
      | refine LeO.bind ?_ (fun _ => ?_)
set_option maxHeartbeats 8000000 in
set_option maxRecDepth 100000 in
theorem laws_FnKubeMade_1.calls (k : Nat) (a0 : Int) (a1 : Int) (a2 : Int) (r : ByteArray) (w : World) (h : laws_FnKubeMade_1.f k a0 a1 a2 = some r) :
    Calls Tryd.prog 12 #[.int .u8 a0, .int .u32 a1, .int .u32 a2] w fun e w' => e = .returned (.string r) ∧ Below w.heap.size w w' := by
  have HB := Aside0.mk (Below.refl w.heap.size w)
  have H : ((spec_VerUintText.f k (IntKind.u64.wrap (a1))).bind fun t128 => (if 1 + t128.size ≤ 9223372036854775807 then (if (Int.tmod a0 3) = 0 then (if ((⟨#[118]⟩ : ByteArray) ++ t128).size + 5 ≤ 9223372036854775807 then ((spec_VerUintText.f k (IntKind.u64.wrap (a2))).bind fun t129 => (if (((⟨#[118]⟩ : ByteArray) ++ t128) ++ (⟨#[97, 108, 112, 104, 97]⟩ : ByteArray)).size + t129.size ≤ 9223372036854775807 then (some ((((⟨#[118]⟩ : ByteArray) ++ t128) ++ (⟨#[97, 108, 112, 104, 97]⟩ : ByteArray)) ++ t129)) else (none))) else (none)) else (if (Int.tmod a0 3) = 1 then (if ((⟨#[118]⟩ : ByteArray) ++ t128).size + 4 ≤ 9223372036854775807 then ((spec_VerUintText.f k (IntKind.u64.wrap (a2))).bind fun t130 => (if (((⟨#[118]⟩ : ByteArray) ++ t128) ++ (⟨#[98, 101, 116, 97]⟩ : ByteArray)).size + t130.size ≤ 9223372036854775807 then (some ((((⟨#[118]⟩ : ByteArray) ++ t128) ++ (⟨#[98, 101, 116, 97]⟩ : ByteArray)) ++ t130)) else (none))) else (none)) else (some ((⟨#[118]⟩ : ByteArray) ++ t128)))) else (none))) = some r := h
  clear h
  replace H := Option.bind_eq_some_iff.mp H
  obtain ⟨t128, A40, H⟩ := H
  replace H : (if 1 + t128.size ≤ 9223372036854775807 then (if (Int.tmod a0 3) = 0 then (if ((⟨#[118]⟩ : ByteArray) ++ t128).size + 5 ≤ 9223372036854775807 then ((spec_VerUintText.f k (IntKind.u64.wrap (a2))).bind fun t129 => (if (((⟨#[118]⟩ : ByteArray) ++ t128) ++ (⟨#[97, 108, 112, 104, 97]⟩ : ByteArray)).size + t129.size ≤ 9223372036854775807 then (some ((((⟨#[118]⟩ : ByteArray) ++ t128) ++ (⟨#[97, 108, 112, 104, 97]⟩ : ByteArray)) ++ t129)) else (none))) else (none)) else (if (Int.tmod a0 3) = 1 then (if ((⟨#[118]⟩ : ByteArray) ++ t128).size + 4 ≤ 9223372036854775807 then ((spec_VerUintText.f k (IntKind.u64.wrap (a2))).bind fun t130 => (if (((⟨#[118]⟩ : ByteArray) ++ t128) ++ (⟨#[98, 101, 116, 97]⟩ : ByteArray)).size + t130.size ≤ 9223372036854775807 then (some ((((⟨#[118]⟩ : ByteArray) ++ t128) ++ (⟨#[98, 101, 116, 97]⟩ : ByteArray)) ++ t130)) else (none))) else (none)) else (some ((⟨#[118]⟩ : ByteArray) ++ t128)))) else (none)) = some r := H
  have A4 := Aside0.mk A40
  clear A40
  by_cases c5 : 1 + t128.size ≤ 9223372036854775807
  · rw [if_pos c5] at H
    have c5b0 := eq_true c5
    have c5b1 : decide (1 + t128.size ≤ 9223372036854775807) = true := decide_eq_true c5
    try have c5b2 : (9223372036854775807 < 1 + t128.size) = False := eq_false (Nat.not_lt.2 c5)
    by_cases c6 : (Int.tmod a0 3) = 0
    · rw [if_pos c6] at H
      have c6b0 : ((Int.tmod a0 3) == 0) = true := beq_iff_eq.mpr c6
      have c6b1 : ((Int.tmod a0 3) != 0) = false := bne_eq_false_iff_eq.mpr c6
      clear c6
      by_cases c7 : ((⟨#[118]⟩ : ByteArray) ++ t128).size + 5 ≤ 9223372036854775807
      · rw [if_pos c7] at H
        have c7b0 := eq_true c7
        have c7b1 : decide (((⟨#[118]⟩ : ByteArray) ++ t128).size + 5 ≤ 9223372036854775807) = true := decide_eq_true c7
        try have c7b2 : (9223372036854775807 < ((⟨#[118]⟩ : ByteArray) ++ t128).size + 5) = False := eq_false (Nat.not_lt.2 c7)
        (try (have c7b9 : (9223372036854775807 < 1 + t128.size + 5) = False := eq_false (fun hq_ => by have h_ := c7; simp only [ByteArray.size_append] at h_; have e0_ : (⟨#[118]⟩ : ByteArray).size = 1 := rfl; omega)))
        replace H := Option.bind_eq_some_iff.mp H
        obtain ⟨t129, A80, H⟩ := H
        replace H : (if (((⟨#[118]⟩ : ByteArray) ++ t128) ++ (⟨#[97, 108, 112, 104, 97]⟩ : ByteArray)).size + t129.size ≤ 9223372036854775807 then (some ((((⟨#[118]⟩ : ByteArray) ++ t128) ++ (⟨#[97, 108, 112, 104, 97]⟩ : ByteArray)) ++ t129)) else (none)) = some r := H
        have A8 := Aside0.mk A80
        clear A80
        by_cases c9 : (((⟨#[118]⟩ : ByteArray) ++ t128) ++ (⟨#[97, 108, 112, 104, 97]⟩ : ByteArray)).size + t129.size ≤ 9223372036854775807
        · rw [if_pos c9] at H
          have c9b0 := eq_true c9
          have c9b1 : decide ((((⟨#[118]⟩ : ByteArray) ++ t128) ++ (⟨#[97, 108, 112, 104, 97]⟩ : ByteArray)).size + t129.size ≤ 9223372036854775807) = true := decide_eq_true c9
          try have c9b2 : (9223372036854775807 < (((⟨#[118]⟩ : ByteArray) ++ t128) ++ (⟨#[97, 108, 112, 104, 97]⟩ : ByteArray)).size + t129.size) = False := eq_false (Nat.not_lt.2 c9)
          (try (have c9b9 : (9223372036854775807 < 1 + t128.size + 5 + t129.size) = False := eq_false (fun hq_ => by have h_ := c9; simp only [ByteArray.size_append] at h_; have e0_ : (⟨#[118]⟩ : ByteArray).size = 1 := rfl; have e1_ : (⟨#[97, 108, 112, 104, 97]⟩ : ByteArray).size = 5 := rfl; omega)))
          obtain rfl := Option.some.inj H
          go_enter Tryd.func12, Tryd.ntmps12
          go_wp2_with (first | ((with_reducible refine gate_callee (f := 13) rfl ?_); refine goesL_ (some 10) rfl rfl Tryd.func13 (by kernel_rfl) rfl #[.int .u64 (IntKind.u64.wrap (a1))] rfl (by (try simp only [List.map_toArray, List.map_cons, List.map_nil]); first | done | rfl | (simp only [List.length_drop, List.length_take]; rfl)) ?_; (with_reducible refine (spec_VerUintText.calls k (IntKind.u64.wrap (a1)) t128 _ A4.out).mono ?_); rintro e w10 ⟨rfl, hb⟩; refine ⟨_, rfl, ?_⟩; have n0_ := Aside0.mk (below_step (by repeat (first | (with_reducible first | exact HB.out | apply below_alloc | apply pw_below_drewN | apply below_drew1) | exact HB.out)) hb); clear HB; have HB := n0_; clear n0_; (try clear hb); (try clear hb2); (try clear hk); (try clear hi)) | ((with_reducible refine gate_callee (f := 13) rfl ?_); refine goesL_ (some 20) rfl rfl Tryd.func13 (by kernel_rfl) rfl #[.int .u64 (IntKind.u64.wrap (a2))] rfl (by (try simp only [List.map_toArray, List.map_cons, List.map_nil]); first | done | rfl | (simp only [List.length_drop, List.length_take]; rfl)) ?_; (with_reducible refine (spec_VerUintText.calls k (IntKind.u64.wrap (a2)) t129 _ A8.out).mono ?_); rintro e w11 ⟨rfl, hb⟩; refine ⟨_, rfl, ?_⟩; have n0_ := Aside0.mk (below_step (by repeat (first | (with_reducible first | exact HB.out | apply below_alloc | apply pw_below_drewN | apply below_drew1) | exact HB.out)) hb); clear HB; have HB := n0_; clear n0_; (try clear hb); (try clear hb2); (try clear hk); (try clear hi)))
          go_ret
          exact ⟨by first | rfl | (simp [errW_none, errW_some] <;> rfl) | (simp [*, errW_none, errW_some] <;> rfl), by repeat (first | (with_reducible first | exact HB.out | apply below_alloc | apply pw_below_drewN | apply below_drew1) | exact HB.out)⟩
        · rw [if_neg c9] at H
          exact absurd H (by simp)
      · rw [if_neg c7] at H
        exact absurd H (by simp)
    · rw [if_neg c6] at H
      have c6b0 : ((Int.tmod a0 3) == 0) = false := beq_eq_false_iff_ne.mpr c6
      have c6b1 : ((Int.tmod a0 3) != 0) = true := bne_iff_ne.mpr c6
      by_cases c12 : (Int.tmod a0 3) = 1
      · rw [if_pos c12] at H
        have c12b0 : ((Int.tmod a0 3) == 1) = true := beq_iff_eq.mpr c12
        have c12b1 : ((Int.tmod a0 3) != 1) = false := bne_eq_false_iff_eq.mpr c12
        clear c12
        by_cases c13 : ((⟨#[118]⟩ : ByteArray) ++ t128).size + 4 ≤ 9223372036854775807
        · rw [if_pos c13] at H
          have c13b0 := eq_true c13
          have c13b1 : decide (((⟨#[118]⟩ : ByteArray) ++ t128).size + 4 ≤ 9223372036854775807) = true := decide_eq_true c13
          try have c13b2 : (9223372036854775807 < ((⟨#[118]⟩ : ByteArray) ++ t128).size + 4) = False := eq_false (Nat.not_lt.2 c13)
          (try (have c13b9 : (9223372036854775807 < 1 + t128.size + 4) = False := eq_false (fun hq_ => by have h_ := c13; simp only [ByteArray.size_append] at h_; have e0_ : (⟨#[118]⟩ : ByteArray).size = 1 := rfl; omega)))
          replace H := Option.bind_eq_some_iff.mp H
          obtain ⟨t130, A140, H⟩ := H
          replace H : (if (((⟨#[118]⟩ : ByteArray) ++ t128) ++ (⟨#[98, 101, 116, 97]⟩ : ByteArray)).size + t130.size ≤ 9223372036854775807 then (some ((((⟨#[118]⟩ : ByteArray) ++ t128) ++ (⟨#[98, 101, 116, 97]⟩ : ByteArray)) ++ t130)) else (none)) = some r := H
          have A14 := Aside0.mk A140
          clear A140
          by_cases c15 : (((⟨#[118]⟩ : ByteArray) ++ t128) ++ (⟨#[98, 101, 116, 97]⟩ : ByteArray)).size + t130.size ≤ 9223372036854775807
          · rw [if_pos c15] at H
            have c15b0 := eq_true c15
            have c15b1 : decide ((((⟨#[118]⟩ : ByteArray) ++ t128) ++ (⟨#[98, 101, 116, 97]⟩ : ByteArray)).size + t130.size ≤ 9223372036854775807) = true := decide_eq_true c15
            try have c15b2 : (9223372036854775807 < (((⟨#[118]⟩ : ByteArray) ++ t128) ++ (⟨#[98, 101, 116, 97]⟩ : ByteArray)).size + t130.size) = False := eq_false (Nat.not_lt.2 c15)
            (try (have c15b9 : (9223372036854775807 < 1 + t128.size + 4 + t130.size) = False := eq_false (fun hq_ => by have h_ := c15; simp only [ByteArray.size_append] at h_; have e0_ : (⟨#[118]⟩ : ByteArray).size = 1 := rfl; have e1_ : (⟨#[98, 101, 116, 97]⟩ : ByteArray).size = 4 := rfl; omega)))
            obtain rfl := Option.some.inj H
            go_enter Tryd.func12, Tryd.ntmps12
            go_wp2_with (first | ((with_reducible refine gate_callee (f := 13) rfl ?_); refine goesL_ (some 10) rfl rfl Tryd.func13 (by kernel_rfl) rfl #[.int .u64 (IntKind.u64.wrap (a1))] rfl (by (try simp only [List.map_toArray, List.map_cons, List.map_nil]); first | done | rfl | (simp only [List.length_drop, List.length_take]; rfl)) ?_; (with_reducible refine (spec_VerUintText.calls k (IntKind.u64.wrap (a1)) t128 _ A4.out).mono ?_); rintro e w16 ⟨rfl, hb⟩; refine ⟨_, rfl, ?_⟩; have n0_ := Aside0.mk (below_step (by repeat (first | (with_reducible first | exact HB.out | apply below_alloc | apply pw_below_drewN | apply below_drew1) | exact HB.out)) hb); clear HB; have HB := n0_; clear n0_; (try clear hb); (try clear hb2); (try clear hk); (try clear hi)) | ((with_reducible refine gate_callee (f := 13) rfl ?_); refine goesL_ (some 28) rfl rfl Tryd.func13 (by kernel_rfl) rfl #[.int .u64 (IntKind.u64.wrap (a2))] rfl (by (try simp only [List.map_toArray, List.map_cons, List.map_nil]); first | done | rfl | (simp only [List.length_drop, List.length_take]; rfl)) ?_; (with_reducible refine (spec_VerUintText.calls k (IntKind.u64.wrap (a2)) t130 _ A14.out).mono ?_); rintro e w17 ⟨rfl, hb⟩; refine ⟨_, rfl, ?_⟩; have n0_ := Aside0.mk (below_step (by repeat (first | (with_reducible first | exact HB.out | apply below_alloc | apply pw_below_drewN | apply below_drew1) | exact HB.out)) hb); clear HB; have HB := n0_; clear n0_; (try clear hb); (try clear hb2); (try clear hk); (try clear hi)))
            go_ret
            exact ⟨by first | rfl | (simp [errW_none, errW_some] <;> rfl) | (simp [*, errW_none, errW_some] <;> rfl), by repeat (first | (with_reducible first | exact HB.out | apply below_alloc | apply pw_below_drewN | apply below_drew1) | exact HB.out)⟩
          · rw [if_neg c15] at H
            exact absurd H (by simp)
        · rw [if_neg c13] at H
          exact absurd H (by simp)
      · rw [if_neg c12] at H
        have c12b0 : ((Int.tmod a0 3) == 1) = false := beq_eq_false_iff_ne.mpr c12
        have c12b1 : ((Int.tmod a0 3) != 1) = true := bne_iff_ne.mpr c12
        obtain rfl := Option.some.inj H
        go_enter Tryd.func12, Tryd.ntmps12
        go_wp2_with (first | ((with_reducible refine gate_callee (f := 13) rfl ?_); refine goesL_ (some 10) rfl rfl Tryd.func13 (by kernel_rfl) rfl #[.int .u64 (IntKind.u64.wrap (a1))] rfl (by (try simp only [List.map_toArray, List.map_cons, List.map_nil]); first | done | rfl | (simp only [List.length_drop, List.length_take]; rfl)) ?_; (with_reducible refine (spec_VerUintText.calls k (IntKind.u64.wrap (a1)) t128 _ A4.out).mono ?_); rintro e w18 ⟨rfl, hb⟩; refine ⟨_, rfl, ?_⟩; have n0_ := Aside0.mk (below_step (by repeat (first | (with_reducible first | exact HB.out | apply below_alloc | apply pw_below_drewN | apply below_drew1) | exact HB.out)) hb); clear HB; have HB := n0_; clear n0_; (try clear hb); (try clear hb2); (try clear hk); (try clear hi)))
        go_ret
        exact ⟨by first | rfl | (simp [errW_none, errW_some] <;> rfl) | (simp [*, errW_none, errW_some] <;> rfl), by repeat (first | (with_reducible first | exact HB.out | apply below_alloc | apply pw_below_drewN | apply below_drew1) | exact HB.out)⟩
  · rw [if_neg c5] at H
    exact absurd H (by simp)

end Go.Proofs.YtmkpkpkcoieeiaaDoor.XFnKubeMade
