/- A text of this session: the functions of the law FnVersionCompare, by a program that calls the kit's print and lays this session's own contracts of single functions beside. -/
import Derived.Test.YtmfgkidppchobaaDoorVerH
import Derived.Test.YtmfgkidppchobaaDoorXFnVersionComparex0
import Derived.Test.YtmfgkidppchobaaDoorXFnVersionComparex1
import Derived.Test.YtmfgkidppchobaaDoorXFnVersionComparex2
import Derived.Test.YtmfgkidppchobaaDoorXFnVersionComparex4
import Derived.Test.YtmfgkidppchobaaDoorXFnVersionComparex5
namespace Go.Proofs.YtmfgkidppchobaaDoor.XFnVersionCompare
open Go.Proofs.YtmfgkidppchobaaDoor.Ver5 Go.RowKit Go.Proofs.YtmfgkidppchobaaDoorW.PrintWords Go.Proofs.YtmfgkidppchobaaDoorW.PrintLast Go.Proofs.YtmfgkidppchobaaDoorW.PrintMore
attribute [local go_sem] max2_int min2_int max_two min_two max_three min_three max_four min_four
set_option linter.unusedVariables false
set_option linter.unusedSimpArgs false
mutual
def spec_VerParsed.j0 : Nat → Int → ByteArray → Bool → Option (List Int × Bool × ByteArray × ByteArray × Bool × Bool)
 | 0, _, _, _ => none
 | k + 1, x0, x1, x31 => if x31 = true then (some (([] : List Int), false, (⟨#[]⟩ : ByteArray), (⟨#[]⟩ : ByteArray), false, false)) else (if x0 = 1 then (spec_VerParsed.j1 k x0 x1 false) else (spec_VerParsed.j1 k x0 x1 (x0 != 3)))
def spec_VerParsed.j1 : Nat → Int → ByteArray → Bool → Option (List Int × Bool × ByteArray × ByteArray × Bool × Bool)
 | 0, _, _, _ => none
 | k + 1, x0, x1, x38 => if x38 = true then ((spec_VerSemantic.f k x1).bind fun bt177 => (if bt177.2.2.2.2 = true then (spec_VerParsed.j2 k x0 x1 bt177.2.2.2.2 true bt177.1 bt177.2.1 bt177.2.2.1 bt177.2.2.2.1) else (spec_VerParsed.j2 k x0 x1 bt177.2.2.2.2 (x0 == 2) bt177.1 bt177.2.1 bt177.2.2.1 bt177.2.2.2.1))) else ((spec_VerGeneric.f k x1).bind fun bt196 => (if bt196.2.2.2.2.1 = true then (if x0 = 3 then (if 2 ≤ (bt196.1.length : Int) then (some ((bt196.1.take (2 : Int).toNat), bt196.2.1, bt196.2.2.1, bt196.2.2.2.1, bt196.2.2.2.2.1, bt196.2.2.2.2.2)) else (none)) else (some (bt196.1, bt196.2.1, bt196.2.2.1, bt196.2.2.2.1, bt196.2.2.2.2.1, bt196.2.2.2.2.2))) else (some (bt196.1, bt196.2.1, bt196.2.2.1, bt196.2.2.2.1, bt196.2.2.2.2.1, bt196.2.2.2.2.2))))
def spec_VerParsed.j2 : Nat → Int → ByteArray → Bool → Bool → List Int → Bool → ByteArray → ByteArray → Option (List Int × Bool × ByteArray × ByteArray × Bool × Bool)
 | 0, _, _, _, _, _, _, _, _ => none
 | k + 1, x0, x1, x10, x48, x185000, x185001, x185002, x185003 => if x48 = true then (some (x185000, x185001, x185002, x185003, x10, true)) else ((spec_VerGeneric.f k x1).bind fun bt185 => (if bt185.2.2.2.2.1 = true then (if x0 = 3 then (if 2 ≤ (bt185.1.length : Int) then (some ((bt185.1.take (2 : Int).toNat), bt185.2.1, bt185.2.2.1, bt185.2.2.2.1, bt185.2.2.2.2.1, bt185.2.2.2.2.2)) else (none)) else (some (bt185.1, bt185.2.1, bt185.2.2.1, bt185.2.2.2.1, bt185.2.2.2.2.1, bt185.2.2.2.2.2))) else (some (bt185.1, bt185.2.1, bt185.2.2.1, bt185.2.2.2.1, bt185.2.2.2.2.1, bt185.2.2.2.2.2))))
end
def spec_VerParsed.f (k : Nat) (a0 : Int) (a1 : ByteArray) : Option (List Int × Bool × ByteArray × ByteArray × Bool × Bool) := (spec_verAhead.f k a1).bind fun t170 => ((spec_verFields.f k t170).bind fun bt171 => ((spec_verPlace.f k bt171.2 10).bind fun t175 => (if t175 ≥ 0 then (spec_VerParsed.j0 k a0 a1 true) else (if a0 = 1 then (spec_VerParsed.j0 k a0 a1 false) else (if a0 = 3 then (spec_VerParsed.j0 k a0 a1 false) else ((spec_VerLong.f k bt171.2).bind fun t176 => (spec_VerParsed.j0 k a0 a1 t176)))))))
set_option maxHeartbeats 8000000 in
set_option maxRecDepth 100000 in
theorem spec_VerParsed.calls (k : Nat) (a0 : Int) (a1 : ByteArray) (r1 : List Int) (r2 : Bool) (r3 : ByteArray) (r4 : ByteArray) (r5 : Bool) (r6 : Bool) (w : World) (h : spec_VerParsed.f k a0 a1 = some (r1, r2, r3, r4, r5, r6)) :
  Calls Tryd.prog 9 #[.int .i64 a0, .string a1] w fun e w' => ∃ v0_ : Value, e = .returned (.tuple #[.agg #[v0_, .bool r2, .string r3, .string r4], .bool r5, .bool r6]) ∧ Kd.R (Kd.int .u64) 36 w' w.heap.size (fun _ => True) v0_ r1 ∧ Below w.heap.size w w' := by
 have hu25 := Tryd.underlying25
 have HB := Aside0.mk (Below.refl w.heap.size w)
 have H : ((spec_verAhead.f k a1).bind fun t170 => ((spec_verFields.f k t170).bind fun bt171 => ((spec_verPlace.f k bt171.2 10).bind fun t175 => (if t175 ≥ 0 then (spec_VerParsed.j0 k a0 a1 true) else (if a0 = 1 then (spec_VerParsed.j0 k a0 a1 false) else (if a0 = 3 then (spec_VerParsed.j0 k a0 a1 false) else ((spec_VerLong.f k bt171.2).bind fun t176 => (spec_VerParsed.j0 k a0 a1 t176)))))))) = some (r1, r2, r3, r4, r5, r6) := h
 clear h
 replace H := Option.bind_eq_some_iff.mp H
 obtain ⟨t170, A30, H⟩ := H
 replace H : ((spec_verFields.f k t170).bind fun bt171 => ((spec_verPlace.f k bt171.2 10).bind fun t175 => (if t175 ≥ 0 then (spec_VerParsed.j0 k a0 a1 true) else (if a0 = 1 then (spec_VerParsed.j0 k a0 a1 false) else (if a0 = 3 then (spec_VerParsed.j0 k a0 a1 false) else ((spec_VerLong.f k bt171.2).bind fun t176 => (spec_VerParsed.j0 k a0 a1 t176))))))) = some (r1, r2, r3, r4, r5, r6) := H
 have A3 := Aside0.mk A30
 clear A30
 replace H := Option.bind_eq_some_iff.mp H
 obtain ⟨⟨t171, t172⟩, A40, H⟩ := H
 replace H : ((spec_verPlace.f k t172 10).bind fun t175 => (if t175 ≥ 0 then (spec_VerParsed.j0 k a0 a1 true) else (if a0 = 1 then (spec_VerParsed.j0 k a0 a1 false) else (if a0 = 3 then (spec_VerParsed.j0 k a0 a1 false) else ((spec_VerLong.f k t172).bind fun t176 => (spec_VerParsed.j0 k a0 a1 t176)))))) = some (r1, r2, r3, r4, r5, r6) := H
 have A4 := Aside0.mk A40
 clear A40
 have HC5 := Aside0.mk H
 clear H
 go_enter Tryd.func9, Tryd.ntmps9
 go_upto_region 2 with (first | ((with_reducible refine gate_dst (N := 4) rfl ?_); refine box_event ?hg (N := 4) ?hd (cs := #[.slice none 0 0, .bool false, .string (⟨#[]⟩ : ByteArray), .string (⟨#[]⟩ : ByteArray)]) (t := 25) ?hr ?_; (case hd => rfl); (case hg => rfl); (case hr => first | (go_simp; done) | (go_simp; rfl)); intro gb169 hg w6 hbox hb; have n0_ := Aside0.mk (below_step (by repeat (first | (with_reducible first | exact HB.out | apply below_alloc | apply pw_below_drewN | apply below_drew1) | exact HB.out)) hb); have n1_ := Aside0.mk (hbox); have n2_ := Aside0.mk ((by rw [hg]; exact (below_size (by repeat (first | (with_reducible first | exact HB.out | apply below_alloc | apply pw_below_drewN | apply below_drew1) | exact HB.out))) : w.heap.size ≤ gb169)); have n3_ := Aside0.mk ((by rw [hg]; exact (below_size (by repeat (first | (with_reducible first | exact HB.out | apply below_alloc | apply pw_below_drewN | apply below_drew1) | exact HB.out))) : w.heap.size ≤ gb169)); clear HB; have HB := n0_; have BK169 := n1_; have GW169 := n2_; have GE169 := n3_; clear n0_ n1_ n2_ n3_; clear hb hbox hg) | ((with_reducible refine gate_callee (f := 22) rfl ?_); refine goesL_ (some 13) rfl rfl Tryd.func22 (by kernel_rfl) rfl #[.string a1] rfl (by (try simp only [List.map_toArray, List.map_cons, List.map_nil]); first | done | rfl | (simp only [List.length_drop, List.length_take]; rfl)) ?_; (with_reducible refine (spec_verAhead.calls k a1 t170 _ A3.out).mono ?_); rintro e w' ⟨rfl, ⟨nd, rfl⟩⟩; refine ⟨_, rfl, ?_⟩) | ((with_reducible refine gate_callee (f := 21) rfl ?_); refine goesL_ (some 14) rfl rfl Tryd.func21 (by kernel_rfl) rfl #[.string t170] rfl (by (try simp only [List.map_toArray, List.map_cons, List.map_nil]); first | done | rfl | (simp only [List.length_drop, List.length_take]; rfl)) ?_; (with_reducible refine (spec_verFields.calls k t170 t171 t172 _ A4.out).mono ?_); rintro e w7 ⟨v173, rfl, ho0, hb⟩; refine ⟨_, rfl, ?_⟩; have n0_ := Aside0.mk (Kd.R_lower ho0 (below_size (by repeat (first | (with_reducible first | exact HB.out | apply below_alloc | apply pw_below_drewN | apply below_drew1 | refine below_set ?_ GE169.out) | exact HB.out)))); have n1_ := Aside0.mk (blk_below (g := gb169) (o := .cells #[.slice none 0 0, .bool false, .string (⟨#[]⟩ : ByteArray), .string (⟨#[]⟩ : ByteArray)] 25 (0, 0)) (by (with_reducible repeat (first | refine blk_drewN ?_ _ | refine blk_drew ?_ | refine blk_alloc ?_ _)); exact BK169.out) hb); have n2_ := Aside0.mk (below_step (by repeat (first | (with_reducible first | exact HB.out | apply below_alloc | apply pw_below_drewN | apply below_drew1 | refine below_set ?_ GE169.out) | exact HB.out)) hb); clear BK169; clear HB; have HO174 := n0_; have BK169 := n1_; have HB := n2_; clear n0_ n1_ n2_; (try clear hb); (try clear hb2); (try clear hk); (try clear hi); (try clear ho0)))
 (try simp only [Act.put, List.setIfInBounds_toArray, List.set_cons_zero, List.set_cons_succ])
 go_cut [31] (fun v31 wc => ∃ (kq : Nat) (x31_4 : Bool), v31 = .bool x31_4 ∧ Aside0 (spec_VerParsed.j0 kq a0 a1 x31_4 = some (r1, r2, r3, r4, r5, r6)) ∧ Aside0 (kq ≤ k) ∧ Aside0 (wc.heap[gb169]? = some (.cells #[(.slice none 0 0), .bool false, .string (⟨#[]⟩ : ByteArray), .string (⟨#[]⟩ : ByteArray)] 25 (0, 0))) ∧ Aside0 (Below w.heap.size w wc))
 case first =>
  have H := HC5.out
  clear HC5
  replace H := Option.bind_eq_some_iff.mp H
  obtain ⟨t175, A80, H⟩ := H
  replace H : (if t175 ≥ 0 then (spec_VerParsed.j0 k a0 a1 true) else (if a0 = 1 then (spec_VerParsed.j0 k a0 a1 false) else (if a0 = 3 then (spec_VerParsed.j0 k a0 a1 false) else ((spec_VerLong.f k t172).bind fun t176 => (spec_VerParsed.j0 k a0 a1 t176))))) = some (r1, r2, r3, r4, r5, r6) := H
  have A8 := Aside0.mk A80
  clear A80
  by_cases c9 : t175 ≥ 0
  ·rw [if_pos c9] at H
   have c9b0 : decide (0 ≤ t175) = true := decide_eq_true c9
   clear c9
   (first | rw [c9b0] | (simp only [i64_w, i32_w]; rw [c9b0]) | skip)
   have H' := Aside0.mk H
   clear H
   go_wp2_with (first | ((with_reducible refine gate_callee (f := 23) rfl ?_); refine goesL_ (some 18) rfl rfl Tryd.func23 (by kernel_rfl) rfl #[.string t172, .int .u8 10] rfl (by (try simp only [List.map_toArray, List.map_cons, List.map_nil]); first | done | rfl | (simp only [List.length_drop, List.length_take]; rfl)) ?_; (with_reducible refine (spec_verPlace.calls k t172 10 t175 _ A8.out).mono ?_); rintro e w' ⟨rfl, ⟨nd, rfl⟩⟩; refine ⟨_, rfl, ?_⟩))
   go_meet
   case rel => exact ⟨_, (true), (by first | rfl | (simp; done) | (simp [*]; done)), H', ⟨by first | omega | exact Nat.le_refl _⟩, ⟨by (with_reducible repeat (first | refine blk_drewN ?_ _ | refine blk_drew ?_ | refine blk_alloc ?_ _)); exact BK169.out⟩, ⟨by repeat (first | (with_reducible first | exact HB.out | apply below_alloc | apply pw_below_drewN | apply below_drew1 | refine below_set ?_ GE169.out) | exact HB.out)⟩⟩
  ·rw [if_neg c9] at H
   have c9b0 : decide (0 ≤ t175) = false := decide_eq_false c9
   clear c9
   (first | rw [c9b0] | (simp only [i64_w, i32_w]; rw [c9b0]) | skip)
   by_cases c10 : a0 = 1
   ·rw [if_pos c10] at H
    have c10b0 : (a0 == 1) = true := beq_iff_eq.mpr c10
    have c10b1 : (a0 != 1) = false := bne_eq_false_iff_eq.mpr c10
    clear c10
    have H' := Aside0.mk H
    clear H
    go_wp2_with (first | ((with_reducible refine gate_callee (f := 23) rfl ?_); refine goesL_ (some 18) rfl rfl Tryd.func23 (by kernel_rfl) rfl #[.string t172, .int .u8 10] rfl (by (try simp only [List.map_toArray, List.map_cons, List.map_nil]); first | done | rfl | (simp only [List.length_drop, List.length_take]; rfl)) ?_; (with_reducible refine (spec_verPlace.calls k t172 10 t175 _ A8.out).mono ?_); rintro e w' ⟨rfl, ⟨nd, rfl⟩⟩; refine ⟨_, rfl, ?_⟩))
    go_meet
    case rel => exact ⟨_, (false), (by first | rfl | (simp; done) | (simp [*]; done)), H', ⟨by first | omega | exact Nat.le_refl _⟩, ⟨by (with_reducible repeat (first | refine blk_drewN ?_ _ | refine blk_drew ?_ | refine blk_alloc ?_ _)); exact BK169.out⟩, ⟨by repeat (first | (with_reducible first | exact HB.out | apply below_alloc | apply pw_below_drewN | apply below_drew1 | refine below_set ?_ GE169.out) | exact HB.out)⟩⟩
   ·rw [if_neg c10] at H
    have c10b0 : (a0 == 1) = false := beq_eq_false_iff_ne.mpr c10
    have c10b1 : (a0 != 1) = true := bne_iff_ne.mpr c10
    by_cases c11 : a0 = 3
    ·rw [if_pos c11] at H
     have c11b0 : (a0 == 3) = true := beq_iff_eq.mpr c11
     have c11b1 : (a0 != 3) = false := bne_eq_false_iff_eq.mpr c11
     clear c11
     have H' := Aside0.mk H
     clear H
     go_wp2_with (first | ((with_reducible refine gate_callee (f := 23) rfl ?_); refine goesL_ (some 18) rfl rfl Tryd.func23 (by kernel_rfl) rfl #[.string t172, .int .u8 10] rfl (by (try simp only [List.map_toArray, List.map_cons, List.map_nil]); first | done | rfl | (simp only [List.length_drop, List.length_take]; rfl)) ?_; (with_reducible refine (spec_verPlace.calls k t172 10 t175 _ A8.out).mono ?_); rintro e w' ⟨rfl, ⟨nd, rfl⟩⟩; refine ⟨_, rfl, ?_⟩))
     go_meet
     case rel => exact ⟨_, (false), (by first | rfl | (simp; done) | (simp [*]; done)), H', ⟨by first | omega | exact Nat.le_refl _⟩, ⟨by (with_reducible repeat (first | refine blk_drewN ?_ _ | refine blk_drew ?_ | refine blk_alloc ?_ _)); exact BK169.out⟩, ⟨by repeat (first | (with_reducible first | exact HB.out | apply below_alloc | apply pw_below_drewN | apply below_drew1 | refine below_set ?_ GE169.out) | exact HB.out)⟩⟩
    ·rw [if_neg c11] at H
     have c11b0 : (a0 == 3) = false := beq_eq_false_iff_ne.mpr c11
     have c11b1 : (a0 != 3) = true := bne_iff_ne.mpr c11
     replace H := Option.bind_eq_some_iff.mp H
     obtain ⟨t176, A120, H⟩ := H
     replace H : (spec_VerParsed.j0 k a0 a1 t176) = some (r1, r2, r3, r4, r5, r6) := H
     have A12 := Aside0.mk A120
     clear A120
     have H' := Aside0.mk H
     clear H
     go_wp2_with (first | ((with_reducible refine gate_callee (f := 23) rfl ?_); refine goesL_ (some 18) rfl rfl Tryd.func23 (by kernel_rfl) rfl #[.string t172, .int .u8 10] rfl (by (try simp only [List.map_toArray, List.map_cons, List.map_nil]); first | done | rfl | (simp only [List.length_drop, List.length_take]; rfl)) ?_; (with_reducible refine (spec_verPlace.calls k t172 10 t175 _ A8.out).mono ?_); rintro e w' ⟨rfl, ⟨nd, rfl⟩⟩; refine ⟨_, rfl, ?_⟩) | (go_at_call 24; (with_reducible refine (spec_VerLong.calls k t172 t176 _ A12.out).mono ?_); rintro e w' ⟨rfl, ⟨nd, rfl⟩⟩))
     go_meet
     case rel => exact ⟨_, (t176), (by first | rfl | (simp; done) | (simp [*]; done)), H', ⟨by first | omega | exact Nat.le_refl _⟩, ⟨by (with_reducible repeat (first | refine blk_drewN ?_ _ | refine blk_drew ?_ | refine blk_alloc ?_ _)); exact BK169.out⟩, ⟨by repeat (first | (with_reducible first | exact HB.out | apply below_alloc | apply pw_below_drewN | apply below_drew1 | refine below_set ?_ GE169.out) | exact HB.out)⟩⟩
 case rest =>
  clear HC5
  try clear c1
  try clear c2
  try clear p2
  try clear c9
  try clear c9b0
  try clear c10
  try clear c10b0
  try clear c10b1
  try clear c11
  try clear c11b0
  try clear c11b1
  obtain ⟨kq, x31_4, rfl, HA, HJ4, BK169, HB⟩ := hcut
  cases kq with
  | zero => exact absurd HA.out (by simp [spec_VerParsed.j0])
  | succ kj4 =>
   have H := HA.out
   clear HA
   simp only [spec_VerParsed.j0] at H
   by_cases c13 : x31_4 = true
   ·subst c13
    have H1 : (some (([] : List Int), false, (⟨#[]⟩ : ByteArray), (⟨#[]⟩ : ByteArray), false, false)) = some (r1, r2, r3, r4, r5, r6) := by rw [if_pos rfl] at H; exact H
    clear H
    have H := H1
    clear H1
    simp only [Option.some.injEq, Prod.mk.injEq] at H
    obtain ⟨rfl, rfl, rfl, rfl, rfl, rfl⟩ := H
    have hcz14_0 : wc.cell? ⟨gb169, 0, none⟩ = some (.slice none 0 0) := (blk_cell BK169.out 0).trans rfl
    have hcz14_1 : wc.cell? ⟨gb169, 1, none⟩ = some (.bool false) := (blk_cell BK169.out 1).trans rfl
    have hcz14_2 : wc.cell? ⟨gb169, 2, none⟩ = some (.string (⟨#[]⟩ : ByteArray)) := (blk_cell BK169.out 2).trans rfl
    have hcz14_3 : wc.cell? ⟨gb169, 3, none⟩ = some (.string (⟨#[]⟩ : ByteArray)) := (blk_cell BK169.out 3).trans rfl
    have hfz14_0 := blk_frozen BK169.out 0
    have hfz14_1 := blk_frozen BK169.out 1
    have hfz14_2 := blk_frozen BK169.out 2
    have hfz14_3 := blk_frozen BK169.out 3
    go_wp2
    refine bodyPost_ret (results_ctt rfl _ _ gb169 25 #[.slice none 0 0, .bool false, .string (⟨#[]⟩ : ByteArray), .string (⟨#[]⟩ : ByteArray)] (0, 0) _ rfl (by (with_reducible repeat (first | refine blk_drewN ?_ _ | refine blk_drew ?_ | refine blk_alloc ?_ _)); refine blk_put (cs := #[.slice none 0 0, .bool false, .string (⟨#[]⟩ : ByteArray), .string (⟨#[]⟩ : ByteArray)]) ?_ 3 _ rfl; (with_reducible repeat (first | refine blk_drewN ?_ _ | refine blk_drew ?_ | refine blk_alloc ?_ _)); refine blk_put (cs := #[.slice none 0 0, .bool false, .string (⟨#[]⟩ : ByteArray), .string (⟨#[]⟩ : ByteArray)]) ?_ 2 _ rfl; (with_reducible repeat (first | refine blk_drewN ?_ _ | refine blk_drew ?_ | refine blk_alloc ?_ _)); refine blk_put (cs := #[.slice none 0 0, .bool false, .string (⟨#[]⟩ : ByteArray), .string (⟨#[]⟩ : ByteArray)]) ?_ 1 _ rfl; (with_reducible repeat (first | refine blk_drewN ?_ _ | refine blk_drew ?_ | refine blk_alloc ?_ _)); refine blk_put (cs := #[.slice none 0 0, .bool false, .string (⟨#[]⟩ : ByteArray), .string (⟨#[]⟩ : ByteArray)]) ?_ 0 _ rfl; (with_reducible repeat (first | refine blk_drewN ?_ _ | refine blk_drew ?_ | refine blk_alloc ?_ _)); exact BK169.out) Tryd.underlying25 rfl (by kernel_rfl)) rfl ?_
    exact ⟨_, by first | rfl | (simp [errW_none, errW_some] <;> rfl) | (simp [*, errW_none, errW_some] <;> rfl), by first | exact Kd.R_nil _ _ _ _ _ | exact Kd.N_nil _ _ _ _ _ | exact Kd.V_nil _ _ _ _ _ | exact Kd.Q_nil _ _ _ _ _ | exact Kd.S_nil _ _ _ _ _, by repeat (first | (with_reducible first | exact HB.out | apply below_alloc | apply pw_below_drewN | apply below_drew1 | refine below_set ?_ GE169.out) | exact HB.out)⟩
   ·replace c13 := Bool.eq_false_iff.mpr c13
    subst c13
    have H1 : (if a0 = 1 then (spec_VerParsed.j1 kj4 a0 a1 false) else (spec_VerParsed.j1 kj4 a0 a1 (a0 != 3))) = some (r1, r2, r3, r4, r5, r6) := by rw [if_neg (show ¬ (false = true) by decide)] at H; exact H
    clear H
    have H := H1
    clear H1
    have HC15 := Aside0.mk H
    clear H
    go_upto_region 4 with (fail)
    go_cut [38] (fun v38 wc => ∃ (kq : Nat) (x38_14 : Bool), v38 = .bool x38_14 ∧ Aside0 (spec_VerParsed.j1 kq a0 a1 x38_14 = some (r1, r2, r3, r4, r5, r6)) ∧ Aside0 (kq ≤ kj4) ∧ Aside0 (wc.heap[gb169]? = some (.cells #[(.slice none 0 0), .bool false, .string (⟨#[]⟩ : ByteArray), .string (⟨#[]⟩ : ByteArray)] 25 (0, 0))) ∧ Aside0 (Below w.heap.size w wc))
    case first =>
     have H := HC15.out
     clear HC15
     by_cases c16 : a0 = 1
     ·rw [if_pos c16] at H
      have c16b0 : (a0 == 1) = true := beq_iff_eq.mpr c16
      have c16b1 : (a0 != 1) = false := bne_eq_false_iff_eq.mpr c16
      clear c16
      (first | rw [c16b0] | (simp only [i64_w, i32_w]; rw [c16b0]) | skip)
      have H' := Aside0.mk H
      clear H
      go_wp2
      go_meet
      case rel => exact ⟨_, (false), (by first | rfl | (simp; done) | (simp [*]; done)), H', ⟨by have := HJ4.out; first | omega | exact Nat.le_refl _⟩, ⟨by (with_reducible repeat (first | refine blk_drewN ?_ _ | refine blk_drew ?_ | refine blk_alloc ?_ _)); exact BK169.out⟩, ⟨by repeat (first | (with_reducible first | exact HB.out | apply below_alloc | apply pw_below_drewN | apply below_drew1 | refine below_set ?_ GE169.out) | exact HB.out)⟩⟩
     ·rw [if_neg c16] at H
      have c16b0 : (a0 == 1) = false := beq_eq_false_iff_ne.mpr c16
      have c16b1 : (a0 != 1) = true := bne_iff_ne.mpr c16
      (first | rw [c16b0] | (simp only [i64_w, i32_w]; rw [c16b0]) | skip)
      have H' := Aside0.mk H
      clear H
      go_wp2
      go_meet
      case rel => exact ⟨_, ((a0 != 3)), (by first | rfl | (simp; done) | (simp [*]; done)), H', ⟨by have := HJ4.out; first | omega | exact Nat.le_refl _⟩, ⟨by (with_reducible repeat (first | refine blk_drewN ?_ _ | refine blk_drew ?_ | refine blk_alloc ?_ _)); exact BK169.out⟩, ⟨by repeat (first | (with_reducible first | exact HB.out | apply below_alloc | apply pw_below_drewN | apply below_drew1 | refine below_set ?_ GE169.out) | exact HB.out)⟩⟩
    case rest =>
     clear HC15
     try clear c1
     try clear c2
     try clear p2
     try clear c9
     try clear c9b0
     try clear c10
     try clear c10b0
     try clear c10b1
     try clear c11
     try clear c11b0
     try clear c11b1
     try clear c13
     try clear c16
     try clear c16b0
     try clear c16b1
     try clear hcz14_0
     try clear hcz14_1
     try clear hcz14_2
     try clear hcz14_3
     try clear hfz14_0
     try clear hfz14_1
     try clear hfz14_2
     try clear hfz14_3
     try clear p2
     obtain ⟨kq, x38_14, rfl, HA, HJ14, BK169, HB⟩ := hcut
     cases kq with
     | zero => exact absurd HA.out (by simp [spec_VerParsed.j1])
     | succ kj14 =>
      have H := HA.out
      clear HA
      simp only [spec_VerParsed.j1] at H
      by_cases c17 : x38_14 = true
      ·subst c17
       have H1 : ((spec_VerSemantic.f kj14 a1).bind fun bt177 => (if bt177.2.2.2.2 = true then (spec_VerParsed.j2 kj14 a0 a1 bt177.2.2.2.2 true bt177.1 bt177.2.1 bt177.2.2.1 bt177.2.2.2.1) else (spec_VerParsed.j2 kj14 a0 a1 bt177.2.2.2.2 (a0 == 2) bt177.1 bt177.2.1 bt177.2.2.1 bt177.2.2.2.1))) = some (r1, r2, r3, r4, r5, r6) := by rw [if_pos rfl] at H; exact H
       clear H
       have H := H1
       clear H1
       replace H := Option.bind_eq_some_iff.mp H
       obtain ⟨⟨t177, t180, t181, t182, t183⟩, A180, H⟩ := H
       replace H : (if t183 = true then (spec_VerParsed.j2 kj14 a0 a1 t183 true t177 t180 t181 t182) else (spec_VerParsed.j2 kj14 a0 a1 t183 (a0 == 2) t177 t180 t181 t182)) = some (r1, r2, r3, r4, r5, r6) := H
       have A18 := Aside0.mk A180
       clear A180
       have HC19 := Aside0.mk H
       clear H
       go_upto_region 6 with (first | ((with_reducible refine gate_callee (f := 25) rfl ?_); refine goesL_ (some 41) rfl rfl Tryd.func25 (by kernel_rfl) rfl #[.string a1] rfl (by (try simp only [List.map_toArray, List.map_cons, List.map_nil]); first | done | rfl | (simp only [List.length_drop, List.length_take]; rfl)) ?_; (with_reducible refine (spec_VerSemantic.calls kj14 a1 t177 t180 t181 t182 t183 _ A18.out).mono ?_); rintro e w20 ⟨v178, rfl, ho0, hb⟩; refine ⟨_, rfl, ?_⟩; have n0_ := Aside0.mk (Kd.R_lower ho0 (below_size (by repeat (first | (with_reducible first | exact HB.out | apply below_alloc | apply pw_below_drewN | apply below_drew1 | refine below_set ?_ GE169.out) | exact HB.out)))); have n1_ := Aside0.mk (blk_below (g := gb169) (o := .cells #[.slice none 0 0, .bool false, .string (⟨#[]⟩ : ByteArray), .string (⟨#[]⟩ : ByteArray)] 25 (0, 0)) (by (with_reducible repeat (first | refine blk_drewN ?_ _ | refine blk_drew ?_ | refine blk_alloc ?_ _)); exact BK169.out) hb); have n2_ := Aside0.mk (below_step (by repeat (first | (with_reducible first | exact HB.out | apply below_alloc | apply pw_below_drewN | apply below_drew1 | refine below_set ?_ GE169.out) | exact HB.out)) hb); clear BK169; clear HB; have HO179 := n0_; have BK169 := n1_; have HB := n2_; clear n0_ n1_ n2_; (try clear hb); (try clear hb2); (try clear hk); (try clear hi); (try clear ho0)) | ((with_reducible refine gate_dst (N := 9) rfl ?_); refine box_event ?hg (N := 9) ?hd (cs := #[.slice none 0 0, .bool false, .string (⟨#[]⟩ : ByteArray), .string (⟨#[]⟩ : ByteArray)]) (t := 25) ?hr ?_; (case hd => rfl); (case hg => rfl); (case hr => first | (go_simp; done) | (go_simp; rfl)); intro gb184 hg w21 hbox hb; have n0_ := Aside0.mk (Kd.R_below (by (with_reducible repeat (first | apply Kd.R_alloc | apply Kd.R_drewN | apply Kd.R_drew)); exact HO179.out) hb); have n1_ := Aside0.mk (blk_below (g := gb169) (o := .cells #[.slice none 0 0, .bool false, .string (⟨#[]⟩ : ByteArray), .string (⟨#[]⟩ : ByteArray)] 25 (0, 0)) (by (with_reducible repeat (first | refine blk_drewN ?_ _ | refine blk_drew ?_ | refine blk_alloc ?_ _)); exact BK169.out) hb); have n2_ := Aside0.mk (below_step (by repeat (first | (with_reducible first | exact HB.out | apply below_alloc | apply pw_below_drewN | apply below_drew1 | refine below_set ?_ GE169.out) | exact HB.out)) hb); have n3_ := Aside0.mk (hbox); have n4_ := Aside0.mk ((by rw [hg]; exact (below_size (by repeat (first | (with_reducible first | exact HB.out | apply below_alloc | apply pw_below_drewN | apply below_drew1 | refine below_set ?_ GE169.out) | exact HB.out))) : w.heap.size ≤ gb184)); have n5_ := Aside0.mk ((by rw [hg]; exact (below_size (by repeat (first | (with_reducible first | exact HB.out | apply below_alloc | apply pw_below_drewN | apply below_drew1 | refine below_set ?_ GE169.out) | exact HB.out))) : w.heap.size ≤ gb184)); have n6_ := Aside0.mk ((by rw [hg]; exact Nat.ne_of_lt (blk_lt (g := gb169) (o := .cells #[.slice none 0 0, .bool false, .string (⟨#[]⟩ : ByteArray), .string (⟨#[]⟩ : ByteArray)] 25 (0, 0)) (by (with_reducible repeat (first | refine blk_drewN ?_ _ | refine blk_drew ?_ | refine blk_alloc ?_ _)); exact BK169.out)) : gb169 ≠ gb184)); have n7_ := Aside0.mk ((by rw [hg]; exact Nat.ne_of_gt (blk_lt (g := gb169) (o := .cells #[.slice none 0 0, .bool false, .string (⟨#[]⟩ : ByteArray), .string (⟨#[]⟩ : ByteArray)] 25 (0, 0)) (by (with_reducible repeat (first | refine blk_drewN ?_ _ | refine blk_drew ?_ | refine blk_alloc ?_ _)); exact BK169.out)) : gb184 ≠ gb169)); clear HO179; clear BK169; clear HB; have HO179 := n0_; have BK169 := n1_; have HB := n2_; have BK184 := n3_; have GW184 := n4_; have GE184 := n5_; have NB169_184 := n6_; have NB184_169 := n7_; clear n0_ n1_ n2_ n3_ n4_ n5_ n6_ n7_; clear hb hbox hg; obtain ⟨Ao22, co22, eo22⟩ := Kd.R_slice HO179.out; subst eo22; have hnb23 := NB184_169.out; have hnc23 := NB169_184.out; have hcz24_0 : w21.cell? ⟨gb184, 0, none⟩ = some (.slice none 0 0) := (blk_cell BK184.out 0).trans rfl; have hcz24_1 : w21.cell? ⟨gb184, 1, none⟩ = some (.bool false) := (blk_cell BK184.out 1).trans rfl; have hcz24_2 : w21.cell? ⟨gb184, 2, none⟩ = some (.string (⟨#[]⟩ : ByteArray)) := (blk_cell BK184.out 2).trans rfl; have hcz24_3 : w21.cell? ⟨gb184, 3, none⟩ = some (.string (⟨#[]⟩ : ByteArray)) := (blk_cell BK184.out 3).trans rfl; have hfz24_0 := blk_frozen BK184.out 0; have hfz24_1 := blk_frozen BK184.out 1; have hfz24_2 := blk_frozen BK184.out 2; have hfz24_3 := blk_frozen BK184.out 3))
       (try simp only [Act.put, List.setIfInBounds_toArray, List.set_cons_zero, List.set_cons_succ])
       go_cut [48] (fun v48 wc => ∃ (kq : Nat) (x48_18 : Bool), v48 = .bool x48_18 ∧ Aside0 (spec_VerParsed.j2 kq a0 a1 t183 x48_18 t177 t180 t181 t182 = some (r1, r2, r3, r4, r5, r6)) ∧ Aside0 (kq ≤ kj14) ∧ Aside0 (Kd.R (Kd.int .u64) 36 wc w.heap.size (fun _ => True) (.slice Ao22 t177.length co22) t177) ∧ Aside0 (wc.heap[gb169]? = some (.cells #[(.slice none 0 0), .bool false, .string (⟨#[]⟩ : ByteArray), .string (⟨#[]⟩ : ByteArray)] 25 (0, 0))) ∧ Aside0 (wc.heap[gb184]? = some (.cells #[(.slice Ao22 t177.length co22), .bool t180, .string t181, .string t182] 25 (0, 0))) ∧ Aside0 (Below w.heap.size w wc))
       case first =>
        have H := HC19.out
        clear HC19
        by_cases c25 : t183 = true
        ·subst c25
         have H1 : (spec_VerParsed.j2 kj14 a0 a1 true true t177 t180 t181 t182) = some (r1, r2, r3, r4, r5, r6) := by rw [if_pos rfl] at H; exact H
         clear H
         have H := H1
         clear H1
         have H' := Aside0.mk H
         clear H
         go_wp2
         go_meet
         case rel => exact ⟨_, (true), (by first | rfl | (simp; done) | (simp [*]; done)), H', ⟨by have := HJ4.out; have := HJ14.out; first | omega | exact Nat.le_refl _⟩, ⟨by (with_reducible repeat (first | apply Kd.R_alloc | apply Kd.R_drewN | apply Kd.R_drew)); exact Kd.R_mono (Kd.R_far (p := ⟨gb184, 3, none⟩) (Kd.R_far (p := ⟨gb184, 2, none⟩) (Kd.R_far (p := ⟨gb184, 1, none⟩) (Kd.R_far (p := ⟨gb184, 0, none⟩) (Kd.R_types HO179.out BK184.out (by decide)) (fun _ hk => hk.2) (.slice Ao22 t177.length co22)) (fun _ hk => hk.2) (.bool t180)) (fun _ hk => hk.2) (.string t181)) (fun _ hk => hk.2) (.string t182)) (fun _ hk => trivial)⟩, ⟨by (with_reducible repeat (first | refine blk_drewN ?_ _ | refine blk_drew ?_ | refine blk_alloc ?_ _)); refine blk_far ?_ NB169_184.out _; (with_reducible repeat (first | refine blk_drewN ?_ _ | refine blk_drew ?_ | refine blk_alloc ?_ _)); refine blk_far ?_ NB169_184.out _; (with_reducible repeat (first | refine blk_drewN ?_ _ | refine blk_drew ?_ | refine blk_alloc ?_ _)); refine blk_far ?_ NB169_184.out _; (with_reducible repeat (first | refine blk_drewN ?_ _ | refine blk_drew ?_ | refine blk_alloc ?_ _)); refine blk_far ?_ NB169_184.out _; (with_reducible repeat (first | refine blk_drewN ?_ _ | refine blk_drew ?_ | refine blk_alloc ?_ _)); exact BK169.out⟩, ⟨by (with_reducible repeat (first | refine blk_drewN ?_ _ | refine blk_drew ?_ | refine blk_alloc ?_ _)); refine blk_put (cs := #[.slice Ao22 t177.length co22, .bool t180, .string t181, .string (⟨#[]⟩ : ByteArray)]) ?_ 3 _ rfl; (with_reducible repeat (first | refine blk_drewN ?_ _ | refine blk_drew ?_ | refine blk_alloc ?_ _)); refine blk_put (cs := #[.slice Ao22 t177.length co22, .bool t180, .string (⟨#[]⟩ : ByteArray), .string (⟨#[]⟩ : ByteArray)]) ?_ 2 _ rfl; (with_reducible repeat (first | refine blk_drewN ?_ _ | refine blk_drew ?_ | refine blk_alloc ?_ _)); refine blk_put (cs := #[.slice Ao22 t177.length co22, .bool false, .string (⟨#[]⟩ : ByteArray), .string (⟨#[]⟩ : ByteArray)]) ?_ 1 _ rfl; (with_reducible repeat (first | refine blk_drewN ?_ _ | refine blk_drew ?_ | refine blk_alloc ?_ _)); refine blk_put (cs := #[.slice none 0 0, .bool false, .string (⟨#[]⟩ : ByteArray), .string (⟨#[]⟩ : ByteArray)]) ?_ 0 _ rfl; (with_reducible repeat (first | refine blk_drewN ?_ _ | refine blk_drew ?_ | refine blk_alloc ?_ _)); exact BK184.out⟩, ⟨by repeat (first | (with_reducible first | exact HB.out | apply below_alloc | apply pw_below_drewN | apply below_drew1 | refine below_set ?_ GE169.out | refine below_set ?_ GE184.out) | exact HB.out)⟩⟩
        ·replace c25 := Bool.eq_false_iff.mpr c25
         subst c25
         have H1 : (spec_VerParsed.j2 kj14 a0 a1 false (a0 == 2) t177 t180 t181 t182) = some (r1, r2, r3, r4, r5, r6) := by rw [if_neg (show ¬ (false = true) by decide)] at H; exact H
         clear H
         have H := H1
         clear H1
         have H' := Aside0.mk H
         clear H
         go_wp2
         go_meet
         case rel => exact ⟨_, ((a0 == 2)), (by first | rfl | (simp; done) | (simp [*]; done)), H', ⟨by have := HJ4.out; have := HJ14.out; first | omega | exact Nat.le_refl _⟩, ⟨by (with_reducible repeat (first | apply Kd.R_alloc | apply Kd.R_drewN | apply Kd.R_drew)); exact Kd.R_mono (Kd.R_far (p := ⟨gb184, 3, none⟩) (Kd.R_far (p := ⟨gb184, 2, none⟩) (Kd.R_far (p := ⟨gb184, 1, none⟩) (Kd.R_far (p := ⟨gb184, 0, none⟩) (Kd.R_types HO179.out BK184.out (by decide)) (fun _ hk => hk.2) (.slice Ao22 t177.length co22)) (fun _ hk => hk.2) (.bool t180)) (fun _ hk => hk.2) (.string t181)) (fun _ hk => hk.2) (.string t182)) (fun _ hk => trivial)⟩, ⟨by (with_reducible repeat (first | refine blk_drewN ?_ _ | refine blk_drew ?_ | refine blk_alloc ?_ _)); refine blk_far ?_ NB169_184.out _; (with_reducible repeat (first | refine blk_drewN ?_ _ | refine blk_drew ?_ | refine blk_alloc ?_ _)); refine blk_far ?_ NB169_184.out _; (with_reducible repeat (first | refine blk_drewN ?_ _ | refine blk_drew ?_ | refine blk_alloc ?_ _)); refine blk_far ?_ NB169_184.out _; (with_reducible repeat (first | refine blk_drewN ?_ _ | refine blk_drew ?_ | refine blk_alloc ?_ _)); refine blk_far ?_ NB169_184.out _; (with_reducible repeat (first | refine blk_drewN ?_ _ | refine blk_drew ?_ | refine blk_alloc ?_ _)); exact BK169.out⟩, ⟨by (with_reducible repeat (first | refine blk_drewN ?_ _ | refine blk_drew ?_ | refine blk_alloc ?_ _)); refine blk_put (cs := #[.slice Ao22 t177.length co22, .bool t180, .string t181, .string (⟨#[]⟩ : ByteArray)]) ?_ 3 _ rfl; (with_reducible repeat (first | refine blk_drewN ?_ _ | refine blk_drew ?_ | refine blk_alloc ?_ _)); refine blk_put (cs := #[.slice Ao22 t177.length co22, .bool t180, .string (⟨#[]⟩ : ByteArray), .string (⟨#[]⟩ : ByteArray)]) ?_ 2 _ rfl; (with_reducible repeat (first | refine blk_drewN ?_ _ | refine blk_drew ?_ | refine blk_alloc ?_ _)); refine blk_put (cs := #[.slice Ao22 t177.length co22, .bool false, .string (⟨#[]⟩ : ByteArray), .string (⟨#[]⟩ : ByteArray)]) ?_ 1 _ rfl; (with_reducible repeat (first | refine blk_drewN ?_ _ | refine blk_drew ?_ | refine blk_alloc ?_ _)); refine blk_put (cs := #[.slice none 0 0, .bool false, .string (⟨#[]⟩ : ByteArray), .string (⟨#[]⟩ : ByteArray)]) ?_ 0 _ rfl; (with_reducible repeat (first | refine blk_drewN ?_ _ | refine blk_drew ?_ | refine blk_alloc ?_ _)); exact BK184.out⟩, ⟨by repeat (first | (with_reducible first | exact HB.out | apply below_alloc | apply pw_below_drewN | apply below_drew1 | refine below_set ?_ GE169.out | refine below_set ?_ GE184.out) | exact HB.out)⟩⟩
       case rest =>
        clear HC19
        try clear c1
        try clear c2
        try clear p2
        try clear c9
        try clear c9b0
        try clear c10
        try clear c10b0
        try clear c10b1
        try clear c11
        try clear c11b0
        try clear c11b1
        try clear c13
        try clear c16
        try clear c16b0
        try clear c16b1
        try clear c17
        try clear c21
        try clear c22
        try clear c23
        try clear c25
        try clear hcz14_0
        try clear hcz14_1
        try clear hcz14_2
        try clear hcz14_3
        try clear hcz24_0
        try clear hcz24_1
        try clear hcz24_2
        try clear hcz24_3
        try clear hfz14_0
        try clear hfz14_1
        try clear hfz14_2
        try clear hfz14_3
        try clear hfz24_0
        try clear hfz24_1
        try clear hfz24_2
        try clear hfz24_3
        try clear p2
        obtain ⟨kq, x48_18, rfl, HA, HJ18, HO_185000, BK169, BK184, HB⟩ := hcut
        cases kq with
        | zero => exact absurd HA.out (by simp [spec_VerParsed.j2])
        | succ kj18 =>
         have H := HA.out
         clear HA
         simp only [spec_VerParsed.j2] at H
         by_cases c26 : x48_18 = true
         ·subst c26
          have H1 : (some (t177, t180, t181, t182, t183, true)) = some (r1, r2, r3, r4, r5, r6) := by rw [if_pos rfl] at H; exact H
          clear H
          have H := H1
          clear H1
          simp only [Option.some.injEq, Prod.mk.injEq] at H
          obtain ⟨rfl, rfl, rfl, rfl, rfl, rfl⟩ := H
          have hnb27 := NB184_169.out
          have hnc27 := NB169_184.out
          have hcz28_0 : wc.cell? ⟨gb184, 0, none⟩ = some (.slice Ao22 t177.length co22) := (blk_cell BK184.out 0).trans rfl
          have hcz28_1 : wc.cell? ⟨gb184, 1, none⟩ = some (.bool t180) := (blk_cell BK184.out 1).trans rfl
          have hcz28_2 : wc.cell? ⟨gb184, 2, none⟩ = some (.string t181) := (blk_cell BK184.out 2).trans rfl
          have hcz28_3 : wc.cell? ⟨gb184, 3, none⟩ = some (.string t182) := (blk_cell BK184.out 3).trans rfl
          have hfz28_0 := blk_frozen BK184.out 0
          have hfz28_1 := blk_frozen BK184.out 1
          have hfz28_2 := blk_frozen BK184.out 2
          have hfz28_3 := blk_frozen BK184.out 3
          have hcz29_0 : wc.cell? ⟨gb169, 0, none⟩ = some (.slice none 0 0) := (blk_cell BK169.out 0).trans rfl
          have hcz29_1 : wc.cell? ⟨gb169, 1, none⟩ = some (.bool false) := (blk_cell BK169.out 1).trans rfl
          have hcz29_2 : wc.cell? ⟨gb169, 2, none⟩ = some (.string (⟨#[]⟩ : ByteArray)) := (blk_cell BK169.out 2).trans rfl
          have hcz29_3 : wc.cell? ⟨gb169, 3, none⟩ = some (.string (⟨#[]⟩ : ByteArray)) := (blk_cell BK169.out 3).trans rfl
          have hfz29_0 := blk_frozen BK169.out 0
          have hfz29_1 := blk_frozen BK169.out 1
          have hfz29_2 := blk_frozen BK169.out 2
          have hfz29_3 := blk_frozen BK169.out 3
          go_wp2
          refine bodyPost_ret (results_ctt rfl _ _ gb169 25 #[.slice Ao22 t177.length co22, .bool t180, .string t181, .string t182] (0, 0) _ rfl (by (with_reducible repeat (first | refine blk_drewN ?_ _ | refine blk_drew ?_ | refine blk_alloc ?_ _)); refine blk_put (cs := #[.slice Ao22 t177.length co22, .bool t180, .string t181, .string (⟨#[]⟩ : ByteArray)]) ?_ 3 _ rfl; (with_reducible repeat (first | refine blk_drewN ?_ _ | refine blk_drew ?_ | refine blk_alloc ?_ _)); refine blk_put (cs := #[.slice Ao22 t177.length co22, .bool t180, .string (⟨#[]⟩ : ByteArray), .string (⟨#[]⟩ : ByteArray)]) ?_ 2 _ rfl; (with_reducible repeat (first | refine blk_drewN ?_ _ | refine blk_drew ?_ | refine blk_alloc ?_ _)); refine blk_put (cs := #[.slice Ao22 t177.length co22, .bool false, .string (⟨#[]⟩ : ByteArray), .string (⟨#[]⟩ : ByteArray)]) ?_ 1 _ rfl; (with_reducible repeat (first | refine blk_drewN ?_ _ | refine blk_drew ?_ | refine blk_alloc ?_ _)); refine blk_put (cs := #[.slice none 0 0, .bool false, .string (⟨#[]⟩ : ByteArray), .string (⟨#[]⟩ : ByteArray)]) ?_ 0 _ rfl; (with_reducible repeat (first | refine blk_drewN ?_ _ | refine blk_drew ?_ | refine blk_alloc ?_ _)); exact BK169.out) Tryd.underlying25 rfl (by kernel_rfl)) rfl ?_
          exact ⟨_, by first | rfl | (simp [errW_none, errW_some] <;> rfl) | (simp [*, errW_none, errW_some] <;> rfl), by (with_reducible repeat (first | apply Kd.R_alloc | apply Kd.R_drewN | apply Kd.R_drew)); exact Kd.R_mono (Kd.R_far (p := ⟨gb169, 3, none⟩) (Kd.R_far (p := ⟨gb169, 2, none⟩) (Kd.R_far (p := ⟨gb169, 1, none⟩) (Kd.R_far (p := ⟨gb169, 0, none⟩) (Kd.R_types HO_185000.out BK169.out (by decide)) (fun _ hk => hk.2) (.slice Ao22 t177.length co22)) (fun _ hk => hk.2) (.bool t180)) (fun _ hk => hk.2) (.string t181)) (fun _ hk => hk.2) (.string t182)) (fun _ hk => trivial), by repeat (first | (with_reducible first | exact HB.out | apply below_alloc | apply pw_below_drewN | apply below_drew1 | refine below_set ?_ GE169.out | refine below_set ?_ GE184.out) | exact HB.out)⟩
         ·replace c26 := Bool.eq_false_iff.mpr c26
          subst c26
          have H1 : ((spec_VerGeneric.f kj18 a1).bind fun bt185 => (if bt185.2.2.2.2.1 = true then (if a0 = 3 then (if 2 ≤ (bt185.1.length : Int) then (some ((bt185.1.take (2 : Int).toNat), bt185.2.1, bt185.2.2.1, bt185.2.2.2.1, bt185.2.2.2.2.1, bt185.2.2.2.2.2)) else (none)) else (some (bt185.1, bt185.2.1, bt185.2.2.1, bt185.2.2.2.1, bt185.2.2.2.2.1, bt185.2.2.2.2.2))) else (some (bt185.1, bt185.2.1, bt185.2.2.1, bt185.2.2.2.1, bt185.2.2.2.2.1, bt185.2.2.2.2.2)))) = some (r1, r2, r3, r4, r5, r6) := by rw [if_neg (show ¬ (false = true) by decide)] at H; exact H
          clear H
          have H := H1
          clear H1
          replace H := Option.bind_eq_some_iff.mp H
          obtain ⟨⟨t185, t188, t189, t190, t191, t192⟩, A300, H⟩ := H
          replace H : (if t191 = true then (if a0 = 3 then (if 2 ≤ (t185.length : Int) then (some ((t185.take (2 : Int).toNat), t188, t189, t190, t191, t192)) else (none)) else (some (t185, t188, t189, t190, t191, t192))) else (some (t185, t188, t189, t190, t191, t192))) = some (r1, r2, r3, r4, r5, r6) := H
          have A30 := Aside0.mk A300
          clear A300
          by_cases c31 : t191 = true
          ·subst c31
           have H1 : (if a0 = 3 then (if 2 ≤ (t185.length : Int) then (some ((t185.take (2 : Int).toNat), t188, t189, t190, true, t192)) else (none)) else (some (t185, t188, t189, t190, true, t192))) = some (r1, r2, r3, r4, r5, r6) := by rw [if_pos rfl] at H; exact H
           clear H
           have H := H1
           clear H1
           by_cases c32 : a0 = 3
           ·rw [if_pos c32] at H
            have c32b0 : (a0 == 3) = true := beq_iff_eq.mpr c32
            have c32b1 : (a0 != 3) = false := bne_eq_false_iff_eq.mpr c32
            clear c32
            by_cases c33 : 2 ≤ (t185.length : Int)
            ·rw [if_pos c33] at H
             have c33b0 := eq_true c33
             have c33b1 : decide (2 ≤ (t185.length : Int)) = true := decide_eq_true c33
             clear c33
             obtain ⟨y193, hy193⟩ : ∃ y_ : List Int, y_ = (t185.take (2 : Int).toNat) := ⟨_, rfl⟩
             replace H : (some (y193, t188, t189, t190, true, t192)) = some (r1, r2, r3, r4, r5, r6) := by first | (rw [hy193]; with_reducible exact H) | (have H2_ := (Option.bind_some _ _).symm.trans H; rw [hy193]; with_reducible exact H2_) | (have H2_ := (Option.bind_some _ _).symm.trans H; with_reducible exact H2_) | with_reducible exact H | (rw [hy193]; exact H) | exact H
             have Ny193 := Aside0.mk hy193
             clear hy193
             simp only [Option.some.injEq, Prod.mk.injEq] at H
             obtain ⟨rfl, rfl, rfl, rfl, rfl, rfl⟩ := H
             go_wp2_with (first | ((with_reducible refine gate_callee (f := 26) rfl ?_); refine goesL_ (some 53) rfl rfl Tryd.func26 (by kernel_rfl) rfl #[.string a1] rfl (by (try simp only [List.map_toArray, List.map_cons, List.map_nil]); first | done | rfl | (simp only [List.length_drop, List.length_take]; rfl)) ?_; (with_reducible refine (spec_VerGeneric.calls kj18 a1 t185 t188 t189 t190 true t192 _ A30.out).mono ?_); rintro e w34 ⟨v186, rfl, ho0, hb⟩; refine ⟨_, rfl, ?_⟩; have n0_ := Aside0.mk (Kd.R_elder' (by (with_reducible repeat (first | apply Kd.R_alloc | apply Kd.R_drewN | apply Kd.R_drew)); exact HO_185000.out) (Kd.R_base ho0) hb); have n1_ := Aside0.mk (Kd.R_lower (Kd.R_new' ho0 (Kd.R_lt (by (with_reducible repeat (first | apply Kd.R_alloc | apply Kd.R_drewN | apply Kd.R_drew)); exact HO_185000.out))) (below_size (by repeat (first | (with_reducible first | exact HB.out | apply below_alloc | apply pw_below_drewN | apply below_drew1 | refine below_set ?_ GE169.out | refine below_set ?_ GE184.out) | exact HB.out)))); have n2_ := Aside0.mk (blk_below (g := gb169) (o := .cells #[.slice none 0 0, .bool false, .string (⟨#[]⟩ : ByteArray), .string (⟨#[]⟩ : ByteArray)] 25 (0, 0)) (by (with_reducible repeat (first | refine blk_drewN ?_ _ | refine blk_drew ?_ | refine blk_alloc ?_ _)); exact BK169.out) hb); have n3_ := Aside0.mk (blk_below (g := gb184) (o := .cells #[.slice Ao22 t177.length co22, .bool t180, .string t181, .string t182] 25 (0, 0)) (by (with_reducible repeat (first | refine blk_drewN ?_ _ | refine blk_drew ?_ | refine blk_alloc ?_ _)); exact BK184.out) hb); have n4_ := Aside0.mk (below_step (by repeat (first | (with_reducible first | exact HB.out | apply below_alloc | apply pw_below_drewN | apply below_drew1 | refine below_set ?_ GE169.out | refine below_set ?_ GE184.out) | exact HB.out)) hb); clear HO_185000; clear BK169; clear BK184; clear HB; have HO_185000 := n0_; have HO187 := n1_; have BK169 := n2_; have BK184 := n3_; have HB := n4_; clear n0_ n1_ n2_ n3_ n4_; (try clear hb); (try clear hb2); (try clear hk); (try clear hi); (try clear ho0); obtain ⟨Ao35, co35, eo35⟩ := Kd.R_slice HO187.out; subst eo35; have hnb36 := NB169_184.out; have hnc36 := NB184_169.out; have hcz37_0 : w34.cell? ⟨gb169, 0, none⟩ = some (.slice none 0 0) := (blk_cell BK169.out 0).trans rfl; have hcz37_1 : w34.cell? ⟨gb169, 1, none⟩ = some (.bool false) := (blk_cell BK169.out 1).trans rfl; have hcz37_2 : w34.cell? ⟨gb169, 2, none⟩ = some (.string (⟨#[]⟩ : ByteArray)) := (blk_cell BK169.out 2).trans rfl; have hcz37_3 : w34.cell? ⟨gb169, 3, none⟩ = some (.string (⟨#[]⟩ : ByteArray)) := (blk_cell BK169.out 3).trans rfl; have hfz37_0 := blk_frozen BK169.out 0; have hfz37_1 := blk_frozen BK169.out 1; have hfz37_2 := blk_frozen BK169.out 2; have hfz37_3 := blk_frozen BK169.out 3) | ((with_reducible refine gate_store (t := 25) (p := 4) rfl ?_); refine store_event (t := 25) (p := 4) (v := ?vo_w38) (w1 := ((((w34.setCell ⟨gb169, 0, none⟩ (.slice Ao35 t185.length co35)).setCell ⟨gb169, 1, none⟩ (.bool t188)).setCell ⟨gb169, 2, none⟩ (.string t189)).setCell ⟨gb169, 3, none⟩ (.string t190))) ?hg ?ho ?hn ?hr ?_; (case ho => rfl); (case hg => rfl); (case hn => rfl); (case hr => first | (go_simp; done) | (go_simp; rfl)); intro w38 hw; have n0_ : Aside0 (Kd.R (Kd.int .u64) 36 w38 w.heap.size (fun k_ => some k_ ≠ (.slice Ao35 t185.length co35 : Value).ownBlock) (.slice Ao22 t177.length co22) t177) := ⟨(by rw [hw]; exact (by (with_reducible repeat (first | apply Kd.R_alloc | apply Kd.R_drewN | apply Kd.R_drew)); exact Kd.R_mono (Kd.R_far (p := ⟨gb169, 3, none⟩) (Kd.R_far (p := ⟨gb169, 2, none⟩) (Kd.R_far (p := ⟨gb169, 1, none⟩) (Kd.R_far (p := ⟨gb169, 0, none⟩) (Kd.R_types HO_185000.out BK169.out (by decide)) (fun _ hk => hk.2) (.slice Ao35 t185.length co35)) (fun _ hk => hk.2) (.bool t188)) (fun _ hk => hk.2) (.string t189)) (fun _ hk => hk.2) (.string t190)) (fun _ hk => hk.1.2)))⟩; have n1_ : Aside0 (Kd.R (Kd.int .u64) 36 w38 w.heap.size (fun k_ => some k_ ≠ (.slice Ao22 t177.length co22 : Value).ownBlock) (.slice Ao35 t185.length co35) t185) := ⟨(by rw [hw]; exact (by (with_reducible repeat (first | apply Kd.R_alloc | apply Kd.R_drewN | apply Kd.R_drew)); exact Kd.R_mono (Kd.R_far (p := ⟨gb169, 3, none⟩) (Kd.R_far (p := ⟨gb169, 2, none⟩) (Kd.R_far (p := ⟨gb169, 1, none⟩) (Kd.R_far (p := ⟨gb169, 0, none⟩) (Kd.R_types HO187.out BK169.out (by decide)) (fun _ hk => hk.2) (.slice Ao35 t185.length co35)) (fun _ hk => hk.2) (.bool t188)) (fun _ hk => hk.2) (.string t189)) (fun _ hk => hk.2) (.string t190)) (fun _ hk => hk.1.2)))⟩; have n2_ : Aside0 (w38.heap[gb169]? = some (.cells #[.slice Ao35 t185.length co35, .bool t188, .string t189, .string t190] 25 (0, 0))) := ⟨(by rw [hw]; exact (by (with_reducible repeat (first | refine blk_drewN ?_ _ | refine blk_drew ?_ | refine blk_alloc ?_ _)); refine blk_put (cs := #[.slice Ao35 t185.length co35, .bool t188, .string t189, .string (⟨#[]⟩ : ByteArray)]) ?_ 3 _ rfl; (with_reducible repeat (first | refine blk_drewN ?_ _ | refine blk_drew ?_ | refine blk_alloc ?_ _)); refine blk_put (cs := #[.slice Ao35 t185.length co35, .bool t188, .string (⟨#[]⟩ : ByteArray), .string (⟨#[]⟩ : ByteArray)]) ?_ 2 _ rfl; (with_reducible repeat (first | refine blk_drewN ?_ _ | refine blk_drew ?_ | refine blk_alloc ?_ _)); refine blk_put (cs := #[.slice Ao35 t185.length co35, .bool false, .string (⟨#[]⟩ : ByteArray), .string (⟨#[]⟩ : ByteArray)]) ?_ 1 _ rfl; (with_reducible repeat (first | refine blk_drewN ?_ _ | refine blk_drew ?_ | refine blk_alloc ?_ _)); refine blk_put (cs := #[.slice none 0 0, .bool false, .string (⟨#[]⟩ : ByteArray), .string (⟨#[]⟩ : ByteArray)]) ?_ 0 _ rfl; (with_reducible repeat (first | refine blk_drewN ?_ _ | refine blk_drew ?_ | refine blk_alloc ?_ _)); exact BK169.out))⟩; have n3_ : Aside0 (w38.heap[gb184]? = some (.cells #[.slice Ao22 t177.length co22, .bool t180, .string t181, .string t182] 25 (0, 0))) := ⟨(by rw [hw]; exact (by (with_reducible repeat (first | refine blk_drewN ?_ _ | refine blk_drew ?_ | refine blk_alloc ?_ _)); refine blk_far ?_ NB184_169.out _; (with_reducible repeat (first | refine blk_drewN ?_ _ | refine blk_drew ?_ | refine blk_alloc ?_ _)); refine blk_far ?_ NB184_169.out _; (with_reducible repeat (first | refine blk_drewN ?_ _ | refine blk_drew ?_ | refine blk_alloc ?_ _)); refine blk_far ?_ NB184_169.out _; (with_reducible repeat (first | refine blk_drewN ?_ _ | refine blk_drew ?_ | refine blk_alloc ?_ _)); refine blk_far ?_ NB184_169.out _; (with_reducible repeat (first | refine blk_drewN ?_ _ | refine blk_drew ?_ | refine blk_alloc ?_ _)); exact BK184.out))⟩; have n4_ : Aside0 (Below w.heap.size w w38) := ⟨(by rw [hw]; exact (by repeat (first | (with_reducible first | exact HB.out | apply below_alloc | apply pw_below_drewN | apply below_drew1 | refine below_set ?_ GE169.out | refine below_set ?_ GE184.out) | exact HB.out)))⟩; clear hw; clear HO_185000; clear HO187; clear BK169; clear BK184; clear HB; have HO_185000 := n0_; have HO187 := n1_; have BK169 := n2_; have BK184 := n3_; have HB := n4_; clear n0_ n1_ n2_ n3_ n4_; have hcz39_0 : w38.cell? ⟨gb169, 0, none⟩ = some (.slice Ao35 t185.length co35) := (blk_cell BK169.out 0).trans rfl; have hcz39_1 : w38.cell? ⟨gb169, 1, none⟩ = some (.bool t188) := (blk_cell BK169.out 1).trans rfl; have hcz39_2 : w38.cell? ⟨gb169, 2, none⟩ = some (.string t189) := (blk_cell BK169.out 2).trans rfl; have hcz39_3 : w38.cell? ⟨gb169, 3, none⟩ = some (.string t190) := (blk_cell BK169.out 3).trans rfl; have hfz39_0 := blk_frozen BK169.out 0; have hfz39_1 := blk_frozen BK169.out 1; have hfz39_2 := blk_frozen BK169.out 2; have hfz39_3 := blk_frozen BK169.out 3; have q40 : (2 : Int) ≤ ((t185.length : Int) : Int) := of_decide_eq_true (by assumption); obtain ⟨i040, hi040, _, hsz40, _⟩ := info_parts info36; have hcut40 := cut_to (P := Tryd.prog) 23 36 .i64 Tryd.underlying23 hi040 Ao35 t185.length co35 2 (by omega) q40 (Kd.R_reads' HO187.out).2.1; have hr40 := Kd.R_take (m := (2 : Int).toNat) HO187.out (by omega); have hy40 : y193.length = (2 : Int).toNat := (by rw [Ny193.out, List.length_take]; omega); rw [← Ny193.out] at hr40; rw [← hy40] at hr40 hcut40; clear hy40 hi040 hsz40 HO187; have HO195 := Aside0.mk hr40; clear hr40; replace q40 := eq_true q40))
             refine bodyPost_ret (results_ctt rfl _ _ gb169 25 #[.slice Ao35 y193.length co35, .bool t188, .string t189, .string t190] (0, 0) _ rfl (by (with_reducible repeat (first | refine blk_drewN ?_ _ | refine blk_drew ?_ | refine blk_alloc ?_ _)); refine blk_put (cs := #[.slice Ao35 y193.length co35, .bool t188, .string t189, .string t190]) ?_ 3 _ rfl; (with_reducible repeat (first | refine blk_drewN ?_ _ | refine blk_drew ?_ | refine blk_alloc ?_ _)); refine blk_put (cs := #[.slice Ao35 y193.length co35, .bool t188, .string t189, .string t190]) ?_ 2 _ rfl; (with_reducible repeat (first | refine blk_drewN ?_ _ | refine blk_drew ?_ | refine blk_alloc ?_ _)); refine blk_put (cs := #[.slice Ao35 y193.length co35, .bool t188, .string t189, .string t190]) ?_ 1 _ rfl; (with_reducible repeat (first | refine blk_drewN ?_ _ | refine blk_drew ?_ | refine blk_alloc ?_ _)); refine blk_put (cs := #[.slice Ao35 y193.length co35, .bool t188, .string t189, .string t190]) ?_ 0 _ rfl; (with_reducible repeat (first | refine blk_drewN ?_ _ | refine blk_drew ?_ | refine blk_alloc ?_ _)); refine blk_put (cs := #[.slice Ao35 t185.length co35, .bool t188, .string t189, .string t190]) ?_ 0 _ rfl; (with_reducible repeat (first | refine blk_drewN ?_ _ | refine blk_drew ?_ | refine blk_alloc ?_ _)); exact BK169.out) Tryd.underlying25 rfl (by kernel_rfl)) rfl ?_
             exact ⟨_, by first | rfl | (simp [errW_none, errW_some] <;> rfl) | (simp [*, errW_none, errW_some] <;> rfl), by (with_reducible repeat (first | apply Kd.R_alloc | apply Kd.R_drewN | apply Kd.R_drew)); exact Kd.R_mono (Kd.R_far (p := ⟨gb169, 3, none⟩) (Kd.R_far (p := ⟨gb169, 2, none⟩) (Kd.R_far (p := ⟨gb169, 1, none⟩) (Kd.R_far (p := ⟨gb169, 0, none⟩) (Kd.R_far (p := ⟨gb169, 0, none⟩) (Kd.R_types HO195.out BK169.out (by decide)) (fun _ hk => hk.2) (.slice Ao35 y193.length co35)) (fun _ hk => hk.2) (.slice Ao35 y193.length co35)) (fun _ hk => hk.2) (.bool t188)) (fun _ hk => hk.2) (.string t189)) (fun _ hk => hk.2) (.string t190)) (fun _ hk => trivial), by repeat (first | (with_reducible first | exact HB.out | apply below_alloc | apply pw_below_drewN | apply below_drew1 | refine below_set ?_ GE169.out | refine below_set ?_ GE184.out) | exact HB.out)⟩
            ·rw [if_neg c33] at H
             exact absurd H (by simp)
           ·rw [if_neg c32] at H
            have c32b0 : (a0 == 3) = false := beq_eq_false_iff_ne.mpr c32
            have c32b1 : (a0 != 3) = true := bne_iff_ne.mpr c32
            simp only [Option.some.injEq, Prod.mk.injEq] at H
            obtain ⟨rfl, rfl, rfl, rfl, rfl, rfl⟩ := H
            go_wp2_with (first | ((with_reducible refine gate_callee (f := 26) rfl ?_); refine goesL_ (some 53) rfl rfl Tryd.func26 (by kernel_rfl) rfl #[.string a1] rfl (by (try simp only [List.map_toArray, List.map_cons, List.map_nil]); first | done | rfl | (simp only [List.length_drop, List.length_take]; rfl)) ?_; (with_reducible refine (spec_VerGeneric.calls kj18 a1 t185 t188 t189 t190 true t192 _ A30.out).mono ?_); rintro e w41 ⟨v186, rfl, ho0, hb⟩; refine ⟨_, rfl, ?_⟩; have n0_ := Aside0.mk (Kd.R_elder' (by (with_reducible repeat (first | apply Kd.R_alloc | apply Kd.R_drewN | apply Kd.R_drew)); exact HO_185000.out) (Kd.R_base ho0) hb); have n1_ := Aside0.mk (Kd.R_lower (Kd.R_new' ho0 (Kd.R_lt (by (with_reducible repeat (first | apply Kd.R_alloc | apply Kd.R_drewN | apply Kd.R_drew)); exact HO_185000.out))) (below_size (by repeat (first | (with_reducible first | exact HB.out | apply below_alloc | apply pw_below_drewN | apply below_drew1 | refine below_set ?_ GE169.out | refine below_set ?_ GE184.out) | exact HB.out)))); have n2_ := Aside0.mk (blk_below (g := gb169) (o := .cells #[.slice none 0 0, .bool false, .string (⟨#[]⟩ : ByteArray), .string (⟨#[]⟩ : ByteArray)] 25 (0, 0)) (by (with_reducible repeat (first | refine blk_drewN ?_ _ | refine blk_drew ?_ | refine blk_alloc ?_ _)); exact BK169.out) hb); have n3_ := Aside0.mk (blk_below (g := gb184) (o := .cells #[.slice Ao22 t177.length co22, .bool t180, .string t181, .string t182] 25 (0, 0)) (by (with_reducible repeat (first | refine blk_drewN ?_ _ | refine blk_drew ?_ | refine blk_alloc ?_ _)); exact BK184.out) hb); have n4_ := Aside0.mk (below_step (by repeat (first | (with_reducible first | exact HB.out | apply below_alloc | apply pw_below_drewN | apply below_drew1 | refine below_set ?_ GE169.out | refine below_set ?_ GE184.out) | exact HB.out)) hb); clear HO_185000; clear BK169; clear BK184; clear HB; have HO_185000 := n0_; have HO187 := n1_; have BK169 := n2_; have BK184 := n3_; have HB := n4_; clear n0_ n1_ n2_ n3_ n4_; (try clear hb); (try clear hb2); (try clear hk); (try clear hi); (try clear ho0); obtain ⟨Ao42, co42, eo42⟩ := Kd.R_slice HO187.out; subst eo42; have hnb43 := NB169_184.out; have hnc43 := NB184_169.out; have hcz44_0 : w41.cell? ⟨gb169, 0, none⟩ = some (.slice none 0 0) := (blk_cell BK169.out 0).trans rfl; have hcz44_1 : w41.cell? ⟨gb169, 1, none⟩ = some (.bool false) := (blk_cell BK169.out 1).trans rfl; have hcz44_2 : w41.cell? ⟨gb169, 2, none⟩ = some (.string (⟨#[]⟩ : ByteArray)) := (blk_cell BK169.out 2).trans rfl; have hcz44_3 : w41.cell? ⟨gb169, 3, none⟩ = some (.string (⟨#[]⟩ : ByteArray)) := (blk_cell BK169.out 3).trans rfl; have hfz44_0 := blk_frozen BK169.out 0; have hfz44_1 := blk_frozen BK169.out 1; have hfz44_2 := blk_frozen BK169.out 2; have hfz44_3 := blk_frozen BK169.out 3))
            refine bodyPost_ret (results_ctt rfl _ _ gb169 25 #[.slice Ao42 t185.length co42, .bool t188, .string t189, .string t190] (0, 0) _ rfl (by (with_reducible repeat (first | refine blk_drewN ?_ _ | refine blk_drew ?_ | refine blk_alloc ?_ _)); refine blk_put (cs := #[.slice Ao42 t185.length co42, .bool t188, .string t189, .string t190]) ?_ 3 _ rfl; (with_reducible repeat (first | refine blk_drewN ?_ _ | refine blk_drew ?_ | refine blk_alloc ?_ _)); refine blk_put (cs := #[.slice Ao42 t185.length co42, .bool t188, .string t189, .string t190]) ?_ 2 _ rfl; (with_reducible repeat (first | refine blk_drewN ?_ _ | refine blk_drew ?_ | refine blk_alloc ?_ _)); refine blk_put (cs := #[.slice Ao42 t185.length co42, .bool t188, .string t189, .string t190]) ?_ 1 _ rfl; (with_reducible repeat (first | refine blk_drewN ?_ _ | refine blk_drew ?_ | refine blk_alloc ?_ _)); refine blk_put (cs := #[.slice Ao42 t185.length co42, .bool t188, .string t189, .string t190]) ?_ 0 _ rfl; (with_reducible repeat (first | refine blk_drewN ?_ _ | refine blk_drew ?_ | refine blk_alloc ?_ _)); refine blk_put (cs := #[.slice Ao42 t185.length co42, .bool t188, .string t189, .string (⟨#[]⟩ : ByteArray)]) ?_ 3 _ rfl; (with_reducible repeat (first | refine blk_drewN ?_ _ | refine blk_drew ?_ | refine blk_alloc ?_ _)); refine blk_put (cs := #[.slice Ao42 t185.length co42, .bool t188, .string (⟨#[]⟩ : ByteArray), .string (⟨#[]⟩ : ByteArray)]) ?_ 2 _ rfl; (with_reducible repeat (first | refine blk_drewN ?_ _ | refine blk_drew ?_ | refine blk_alloc ?_ _)); refine blk_put (cs := #[.slice Ao42 t185.length co42, .bool false, .string (⟨#[]⟩ : ByteArray), .string (⟨#[]⟩ : ByteArray)]) ?_ 1 _ rfl; (with_reducible repeat (first | refine blk_drewN ?_ _ | refine blk_drew ?_ | refine blk_alloc ?_ _)); refine blk_put (cs := #[.slice none 0 0, .bool false, .string (⟨#[]⟩ : ByteArray), .string (⟨#[]⟩ : ByteArray)]) ?_ 0 _ rfl; (with_reducible repeat (first | refine blk_drewN ?_ _ | refine blk_drew ?_ | refine blk_alloc ?_ _)); exact BK169.out) Tryd.underlying25 rfl (by kernel_rfl)) rfl ?_
            exact ⟨_, by first | rfl | (simp [errW_none, errW_some] <;> rfl) | (simp [*, errW_none, errW_some] <;> rfl), by (with_reducible repeat (first | apply Kd.R_alloc | apply Kd.R_drewN | apply Kd.R_drew)); exact Kd.R_mono (Kd.R_far (p := ⟨gb169, 3, none⟩) (Kd.R_far (p := ⟨gb169, 2, none⟩) (Kd.R_far (p := ⟨gb169, 1, none⟩) (Kd.R_far (p := ⟨gb169, 0, none⟩) (Kd.R_far (p := ⟨gb169, 3, none⟩) (Kd.R_far (p := ⟨gb169, 2, none⟩) (Kd.R_far (p := ⟨gb169, 1, none⟩) (Kd.R_far (p := ⟨gb169, 0, none⟩) (Kd.R_types HO187.out BK169.out (by decide)) (fun _ hk => hk.2) (.slice Ao42 t185.length co42)) (fun _ hk => hk.2) (.bool t188)) (fun _ hk => hk.2) (.string t189)) (fun _ hk => hk.2) (.string t190)) (fun _ hk => hk.2) (.slice Ao42 t185.length co42)) (fun _ hk => hk.2) (.bool t188)) (fun _ hk => hk.2) (.string t189)) (fun _ hk => hk.2) (.string t190)) (fun _ hk => trivial), by repeat (first | (with_reducible first | exact HB.out | apply below_alloc | apply pw_below_drewN | apply below_drew1 | refine below_set ?_ GE169.out | refine below_set ?_ GE184.out) | exact HB.out)⟩
          ·replace c31 := Bool.eq_false_iff.mpr c31
           subst c31
           have H1 : (some (t185, t188, t189, t190, false, t192)) = some (r1, r2, r3, r4, r5, r6) := by rw [if_neg (show ¬ (false = true) by decide)] at H; exact H
           clear H
           have H := H1
           clear H1
           simp only [Option.some.injEq, Prod.mk.injEq] at H
           obtain ⟨rfl, rfl, rfl, rfl, rfl, rfl⟩ := H
           go_wp2_with (first | ((with_reducible refine gate_callee (f := 26) rfl ?_); refine goesL_ (some 53) rfl rfl Tryd.func26 (by kernel_rfl) rfl #[.string a1] rfl (by (try simp only [List.map_toArray, List.map_cons, List.map_nil]); first | done | rfl | (simp only [List.length_drop, List.length_take]; rfl)) ?_; (with_reducible refine (spec_VerGeneric.calls kj18 a1 t185 t188 t189 t190 false t192 _ A30.out).mono ?_); rintro e w45 ⟨v186, rfl, ho0, hb⟩; refine ⟨_, rfl, ?_⟩; have n0_ := Aside0.mk (Kd.R_elder' (by (with_reducible repeat (first | apply Kd.R_alloc | apply Kd.R_drewN | apply Kd.R_drew)); exact HO_185000.out) (Kd.R_base ho0) hb); have n1_ := Aside0.mk (Kd.R_lower (Kd.R_new' ho0 (Kd.R_lt (by (with_reducible repeat (first | apply Kd.R_alloc | apply Kd.R_drewN | apply Kd.R_drew)); exact HO_185000.out))) (below_size (by repeat (first | (with_reducible first | exact HB.out | apply below_alloc | apply pw_below_drewN | apply below_drew1 | refine below_set ?_ GE169.out | refine below_set ?_ GE184.out) | exact HB.out)))); have n2_ := Aside0.mk (blk_below (g := gb169) (o := .cells #[.slice none 0 0, .bool false, .string (⟨#[]⟩ : ByteArray), .string (⟨#[]⟩ : ByteArray)] 25 (0, 0)) (by (with_reducible repeat (first | refine blk_drewN ?_ _ | refine blk_drew ?_ | refine blk_alloc ?_ _)); exact BK169.out) hb); have n3_ := Aside0.mk (blk_below (g := gb184) (o := .cells #[.slice Ao22 t177.length co22, .bool t180, .string t181, .string t182] 25 (0, 0)) (by (with_reducible repeat (first | refine blk_drewN ?_ _ | refine blk_drew ?_ | refine blk_alloc ?_ _)); exact BK184.out) hb); have n4_ := Aside0.mk (below_step (by repeat (first | (with_reducible first | exact HB.out | apply below_alloc | apply pw_below_drewN | apply below_drew1 | refine below_set ?_ GE169.out | refine below_set ?_ GE184.out) | exact HB.out)) hb); clear HO_185000; clear BK169; clear BK184; clear HB; have HO_185000 := n0_; have HO187 := n1_; have BK169 := n2_; have BK184 := n3_; have HB := n4_; clear n0_ n1_ n2_ n3_ n4_; (try clear hb); (try clear hb2); (try clear hk); (try clear hi); (try clear ho0); obtain ⟨Ao46, co46, eo46⟩ := Kd.R_slice HO187.out; subst eo46; have hnb47 := NB169_184.out; have hnc47 := NB184_169.out; have hcz48_0 : w45.cell? ⟨gb169, 0, none⟩ = some (.slice none 0 0) := (blk_cell BK169.out 0).trans rfl; have hcz48_1 : w45.cell? ⟨gb169, 1, none⟩ = some (.bool false) := (blk_cell BK169.out 1).trans rfl; have hcz48_2 : w45.cell? ⟨gb169, 2, none⟩ = some (.string (⟨#[]⟩ : ByteArray)) := (blk_cell BK169.out 2).trans rfl; have hcz48_3 : w45.cell? ⟨gb169, 3, none⟩ = some (.string (⟨#[]⟩ : ByteArray)) := (blk_cell BK169.out 3).trans rfl; have hfz48_0 := blk_frozen BK169.out 0; have hfz48_1 := blk_frozen BK169.out 1; have hfz48_2 := blk_frozen BK169.out 2; have hfz48_3 := blk_frozen BK169.out 3))
           refine bodyPost_ret (results_ctt rfl _ _ gb169 25 #[.slice Ao46 t185.length co46, .bool t188, .string t189, .string t190] (0, 0) _ rfl (by (with_reducible repeat (first | refine blk_drewN ?_ _ | refine blk_drew ?_ | refine blk_alloc ?_ _)); refine blk_put (cs := #[.slice Ao46 t185.length co46, .bool t188, .string t189, .string t190]) ?_ 3 _ rfl; (with_reducible repeat (first | refine blk_drewN ?_ _ | refine blk_drew ?_ | refine blk_alloc ?_ _)); refine blk_put (cs := #[.slice Ao46 t185.length co46, .bool t188, .string t189, .string t190]) ?_ 2 _ rfl; (with_reducible repeat (first | refine blk_drewN ?_ _ | refine blk_drew ?_ | refine blk_alloc ?_ _)); refine blk_put (cs := #[.slice Ao46 t185.length co46, .bool t188, .string t189, .string t190]) ?_ 1 _ rfl; (with_reducible repeat (first | refine blk_drewN ?_ _ | refine blk_drew ?_ | refine blk_alloc ?_ _)); refine blk_put (cs := #[.slice Ao46 t185.length co46, .bool t188, .string t189, .string t190]) ?_ 0 _ rfl; (with_reducible repeat (first | refine blk_drewN ?_ _ | refine blk_drew ?_ | refine blk_alloc ?_ _)); refine blk_put (cs := #[.slice Ao46 t185.length co46, .bool t188, .string t189, .string (⟨#[]⟩ : ByteArray)]) ?_ 3 _ rfl; (with_reducible repeat (first | refine blk_drewN ?_ _ | refine blk_drew ?_ | refine blk_alloc ?_ _)); refine blk_put (cs := #[.slice Ao46 t185.length co46, .bool t188, .string (⟨#[]⟩ : ByteArray), .string (⟨#[]⟩ : ByteArray)]) ?_ 2 _ rfl; (with_reducible repeat (first | refine blk_drewN ?_ _ | refine blk_drew ?_ | refine blk_alloc ?_ _)); refine blk_put (cs := #[.slice Ao46 t185.length co46, .bool false, .string (⟨#[]⟩ : ByteArray), .string (⟨#[]⟩ : ByteArray)]) ?_ 1 _ rfl; (with_reducible repeat (first | refine blk_drewN ?_ _ | refine blk_drew ?_ | refine blk_alloc ?_ _)); refine blk_put (cs := #[.slice none 0 0, .bool false, .string (⟨#[]⟩ : ByteArray), .string (⟨#[]⟩ : ByteArray)]) ?_ 0 _ rfl; (with_reducible repeat (first | refine blk_drewN ?_ _ | refine blk_drew ?_ | refine blk_alloc ?_ _)); exact BK169.out) Tryd.underlying25 rfl (by kernel_rfl)) rfl ?_
           exact ⟨_, by first | rfl | (simp [errW_none, errW_some] <;> rfl) | (simp [*, errW_none, errW_some] <;> rfl), by (with_reducible repeat (first | apply Kd.R_alloc | apply Kd.R_drewN | apply Kd.R_drew)); exact Kd.R_mono (Kd.R_far (p := ⟨gb169, 3, none⟩) (Kd.R_far (p := ⟨gb169, 2, none⟩) (Kd.R_far (p := ⟨gb169, 1, none⟩) (Kd.R_far (p := ⟨gb169, 0, none⟩) (Kd.R_far (p := ⟨gb169, 3, none⟩) (Kd.R_far (p := ⟨gb169, 2, none⟩) (Kd.R_far (p := ⟨gb169, 1, none⟩) (Kd.R_far (p := ⟨gb169, 0, none⟩) (Kd.R_types HO187.out BK169.out (by decide)) (fun _ hk => hk.2) (.slice Ao46 t185.length co46)) (fun _ hk => hk.2) (.bool t188)) (fun _ hk => hk.2) (.string t189)) (fun _ hk => hk.2) (.string t190)) (fun _ hk => hk.2) (.slice Ao46 t185.length co46)) (fun _ hk => hk.2) (.bool t188)) (fun _ hk => hk.2) (.string t189)) (fun _ hk => hk.2) (.string t190)) (fun _ hk => trivial), by repeat (first | (with_reducible first | exact HB.out | apply below_alloc | apply pw_below_drewN | apply below_drew1 | refine below_set ?_ GE169.out | refine below_set ?_ GE184.out) | exact HB.out)⟩
      ·replace c17 := Bool.eq_false_iff.mpr c17
       subst c17
       have H1 : ((spec_VerGeneric.f kj14 a1).bind fun bt196 => (if bt196.2.2.2.2.1 = true then (if a0 = 3 then (if 2 ≤ (bt196.1.length : Int) then (some ((bt196.1.take (2 : Int).toNat), bt196.2.1, bt196.2.2.1, bt196.2.2.2.1, bt196.2.2.2.2.1, bt196.2.2.2.2.2)) else (none)) else (some (bt196.1, bt196.2.1, bt196.2.2.1, bt196.2.2.2.1, bt196.2.2.2.2.1, bt196.2.2.2.2.2))) else (some (bt196.1, bt196.2.1, bt196.2.2.1, bt196.2.2.2.1, bt196.2.2.2.2.1, bt196.2.2.2.2.2)))) = some (r1, r2, r3, r4, r5, r6) := by rw [if_neg (show ¬ (false = true) by decide)] at H; exact H
       clear H
       have H := H1
       clear H1
       replace H := Option.bind_eq_some_iff.mp H
       obtain ⟨⟨t196, t199, t200, t201, t202, t203⟩, A490, H⟩ := H
       replace H : (if t202 = true then (if a0 = 3 then (if 2 ≤ (t196.length : Int) then (some ((t196.take (2 : Int).toNat), t199, t200, t201, t202, t203)) else (none)) else (some (t196, t199, t200, t201, t202, t203))) else (some (t196, t199, t200, t201, t202, t203))) = some (r1, r2, r3, r4, r5, r6) := H
       have A49 := Aside0.mk A490
       clear A490
       by_cases c50 : t202 = true
       ·subst c50
        have H1 : (if a0 = 3 then (if 2 ≤ (t196.length : Int) then (some ((t196.take (2 : Int).toNat), t199, t200, t201, true, t203)) else (none)) else (some (t196, t199, t200, t201, true, t203))) = some (r1, r2, r3, r4, r5, r6) := by rw [if_pos rfl] at H; exact H
        clear H
        have H := H1
        clear H1
        by_cases c51 : a0 = 3
        ·rw [if_pos c51] at H
         have c51b0 : (a0 == 3) = true := beq_iff_eq.mpr c51
         have c51b1 : (a0 != 3) = false := bne_eq_false_iff_eq.mpr c51
         clear c51
         by_cases c52 : 2 ≤ (t196.length : Int)
         ·rw [if_pos c52] at H
          have c52b0 := eq_true c52
          have c52b1 : decide (2 ≤ (t196.length : Int)) = true := decide_eq_true c52
          clear c52
          obtain ⟨y204, hy204⟩ : ∃ y_ : List Int, y_ = (t196.take (2 : Int).toNat) := ⟨_, rfl⟩
          replace H : (some (y204, t199, t200, t201, true, t203)) = some (r1, r2, r3, r4, r5, r6) := by first | (rw [hy204]; with_reducible exact H) | (have H2_ := (Option.bind_some _ _).symm.trans H; rw [hy204]; with_reducible exact H2_) | (have H2_ := (Option.bind_some _ _).symm.trans H; with_reducible exact H2_) | with_reducible exact H | (rw [hy204]; exact H) | exact H
          have Ny204 := Aside0.mk hy204
          clear hy204
          simp only [Option.some.injEq, Prod.mk.injEq] at H
          obtain ⟨rfl, rfl, rfl, rfl, rfl, rfl⟩ := H
          go_wp2_with (first | ((with_reducible refine gate_callee (f := 26) rfl ?_); refine goesL_ (some 53) rfl rfl Tryd.func26 (by kernel_rfl) rfl #[.string a1] rfl (by (try simp only [List.map_toArray, List.map_cons, List.map_nil]); first | done | rfl | (simp only [List.length_drop, List.length_take]; rfl)) ?_; (with_reducible refine (spec_VerGeneric.calls kj14 a1 t196 t199 t200 t201 true t203 _ A49.out).mono ?_); rintro e w53 ⟨v197, rfl, ho0, hb⟩; refine ⟨_, rfl, ?_⟩; have n0_ := Aside0.mk (Kd.R_lower ho0 (below_size (by repeat (first | (with_reducible first | exact HB.out | apply below_alloc | apply pw_below_drewN | apply below_drew1 | refine below_set ?_ GE169.out) | exact HB.out)))); have n1_ := Aside0.mk (blk_below (g := gb169) (o := .cells #[.slice none 0 0, .bool false, .string (⟨#[]⟩ : ByteArray), .string (⟨#[]⟩ : ByteArray)] 25 (0, 0)) (by (with_reducible repeat (first | refine blk_drewN ?_ _ | refine blk_drew ?_ | refine blk_alloc ?_ _)); exact BK169.out) hb); have n2_ := Aside0.mk (below_step (by repeat (first | (with_reducible first | exact HB.out | apply below_alloc | apply pw_below_drewN | apply below_drew1 | refine below_set ?_ GE169.out) | exact HB.out)) hb); clear BK169; clear HB; have HO198 := n0_; have BK169 := n1_; have HB := n2_; clear n0_ n1_ n2_; (try clear hb); (try clear hb2); (try clear hk); (try clear hi); (try clear ho0); obtain ⟨Ao54, co54, eo54⟩ := Kd.R_slice HO198.out; subst eo54; have hcz55_0 : w53.cell? ⟨gb169, 0, none⟩ = some (.slice none 0 0) := (blk_cell BK169.out 0).trans rfl; have hcz55_1 : w53.cell? ⟨gb169, 1, none⟩ = some (.bool false) := (blk_cell BK169.out 1).trans rfl; have hcz55_2 : w53.cell? ⟨gb169, 2, none⟩ = some (.string (⟨#[]⟩ : ByteArray)) := (blk_cell BK169.out 2).trans rfl; have hcz55_3 : w53.cell? ⟨gb169, 3, none⟩ = some (.string (⟨#[]⟩ : ByteArray)) := (blk_cell BK169.out 3).trans rfl; have hfz55_0 := blk_frozen BK169.out 0; have hfz55_1 := blk_frozen BK169.out 1; have hfz55_2 := blk_frozen BK169.out 2; have hfz55_3 := blk_frozen BK169.out 3) | ((with_reducible refine gate_store (t := 25) (p := 4) rfl ?_); refine store_event (t := 25) (p := 4) (v := ?vo_w56) (w1 := ((((w53.setCell ⟨gb169, 0, none⟩ (.slice Ao54 t196.length co54)).setCell ⟨gb169, 1, none⟩ (.bool t199)).setCell ⟨gb169, 2, none⟩ (.string t200)).setCell ⟨gb169, 3, none⟩ (.string t201))) ?hg ?ho ?hn ?hr ?_; (case ho => rfl); (case hg => rfl); (case hn => rfl); (case hr => first | (go_simp; done) | (go_simp; rfl)); intro w56 hw; have n0_ : Aside0 (Kd.R (Kd.int .u64) 36 w56 w.heap.size (fun _ => True) (.slice Ao54 t196.length co54) t196) := ⟨(by rw [hw]; exact (by (with_reducible repeat (first | apply Kd.R_alloc | apply Kd.R_drewN | apply Kd.R_drew)); exact Kd.R_mono (Kd.R_far (p := ⟨gb169, 3, none⟩) (Kd.R_far (p := ⟨gb169, 2, none⟩) (Kd.R_far (p := ⟨gb169, 1, none⟩) (Kd.R_far (p := ⟨gb169, 0, none⟩) (Kd.R_types HO198.out BK169.out (by decide)) (fun _ hk => hk.2) (.slice Ao54 t196.length co54)) (fun _ hk => hk.2) (.bool t199)) (fun _ hk => hk.2) (.string t200)) (fun _ hk => hk.2) (.string t201)) (fun _ hk => trivial)))⟩; have n1_ : Aside0 (w56.heap[gb169]? = some (.cells #[.slice Ao54 t196.length co54, .bool t199, .string t200, .string t201] 25 (0, 0))) := ⟨(by rw [hw]; exact (by (with_reducible repeat (first | refine blk_drewN ?_ _ | refine blk_drew ?_ | refine blk_alloc ?_ _)); refine blk_put (cs := #[.slice Ao54 t196.length co54, .bool t199, .string t200, .string (⟨#[]⟩ : ByteArray)]) ?_ 3 _ rfl; (with_reducible repeat (first | refine blk_drewN ?_ _ | refine blk_drew ?_ | refine blk_alloc ?_ _)); refine blk_put (cs := #[.slice Ao54 t196.length co54, .bool t199, .string (⟨#[]⟩ : ByteArray), .string (⟨#[]⟩ : ByteArray)]) ?_ 2 _ rfl; (with_reducible repeat (first | refine blk_drewN ?_ _ | refine blk_drew ?_ | refine blk_alloc ?_ _)); refine blk_put (cs := #[.slice Ao54 t196.length co54, .bool false, .string (⟨#[]⟩ : ByteArray), .string (⟨#[]⟩ : ByteArray)]) ?_ 1 _ rfl; (with_reducible repeat (first | refine blk_drewN ?_ _ | refine blk_drew ?_ | refine blk_alloc ?_ _)); refine blk_put (cs := #[.slice none 0 0, .bool false, .string (⟨#[]⟩ : ByteArray), .string (⟨#[]⟩ : ByteArray)]) ?_ 0 _ rfl; (with_reducible repeat (first | refine blk_drewN ?_ _ | refine blk_drew ?_ | refine blk_alloc ?_ _)); exact BK169.out))⟩; have n2_ : Aside0 (Below w.heap.size w w56) := ⟨(by rw [hw]; exact (by repeat (first | (with_reducible first | exact HB.out | apply below_alloc | apply pw_below_drewN | apply below_drew1 | refine below_set ?_ GE169.out) | exact HB.out)))⟩; clear hw; clear HO198; clear BK169; clear HB; have HO198 := n0_; have BK169 := n1_; have HB := n2_; clear n0_ n1_ n2_; have hcz57_0 : w56.cell? ⟨gb169, 0, none⟩ = some (.slice Ao54 t196.length co54) := (blk_cell BK169.out 0).trans rfl; have hcz57_1 : w56.cell? ⟨gb169, 1, none⟩ = some (.bool t199) := (blk_cell BK169.out 1).trans rfl; have hcz57_2 : w56.cell? ⟨gb169, 2, none⟩ = some (.string t200) := (blk_cell BK169.out 2).trans rfl; have hcz57_3 : w56.cell? ⟨gb169, 3, none⟩ = some (.string t201) := (blk_cell BK169.out 3).trans rfl; have hfz57_0 := blk_frozen BK169.out 0; have hfz57_1 := blk_frozen BK169.out 1; have hfz57_2 := blk_frozen BK169.out 2; have hfz57_3 := blk_frozen BK169.out 3; have q58 : (2 : Int) ≤ ((t196.length : Int) : Int) := of_decide_eq_true (by assumption); obtain ⟨i058, hi058, _, hsz58, _⟩ := info_parts info36; have hcut58 := cut_to (P := Tryd.prog) 23 36 .i64 Tryd.underlying23 hi058 Ao54 t196.length co54 2 (by omega) q58 (Kd.R_reads' HO198.out).2.1; have hr58 := Kd.R_take (m := (2 : Int).toNat) HO198.out (by omega); have hy58 : y204.length = (2 : Int).toNat := (by rw [Ny204.out, List.length_take]; omega); rw [← Ny204.out] at hr58; rw [← hy58] at hr58 hcut58; clear hy58 hi058 hsz58 HO198; have HO206 := Aside0.mk hr58; clear hr58; replace q58 := eq_true q58))
          refine bodyPost_ret (results_ctt rfl _ _ gb169 25 #[.slice Ao54 y204.length co54, .bool t199, .string t200, .string t201] (0, 0) _ rfl (by (with_reducible repeat (first | refine blk_drewN ?_ _ | refine blk_drew ?_ | refine blk_alloc ?_ _)); refine blk_put (cs := #[.slice Ao54 y204.length co54, .bool t199, .string t200, .string t201]) ?_ 3 _ rfl; (with_reducible repeat (first | refine blk_drewN ?_ _ | refine blk_drew ?_ | refine blk_alloc ?_ _)); refine blk_put (cs := #[.slice Ao54 y204.length co54, .bool t199, .string t200, .string t201]) ?_ 2 _ rfl; (with_reducible repeat (first | refine blk_drewN ?_ _ | refine blk_drew ?_ | refine blk_alloc ?_ _)); refine blk_put (cs := #[.slice Ao54 y204.length co54, .bool t199, .string t200, .string t201]) ?_ 1 _ rfl; (with_reducible repeat (first | refine blk_drewN ?_ _ | refine blk_drew ?_ | refine blk_alloc ?_ _)); refine blk_put (cs := #[.slice Ao54 y204.length co54, .bool t199, .string t200, .string t201]) ?_ 0 _ rfl; (with_reducible repeat (first | refine blk_drewN ?_ _ | refine blk_drew ?_ | refine blk_alloc ?_ _)); refine blk_put (cs := #[.slice Ao54 t196.length co54, .bool t199, .string t200, .string t201]) ?_ 0 _ rfl; (with_reducible repeat (first | refine blk_drewN ?_ _ | refine blk_drew ?_ | refine blk_alloc ?_ _)); exact BK169.out) Tryd.underlying25 rfl (by kernel_rfl)) rfl ?_
          exact ⟨_, by first | rfl | (simp [errW_none, errW_some] <;> rfl) | (simp [*, errW_none, errW_some] <;> rfl), by (with_reducible repeat (first | apply Kd.R_alloc | apply Kd.R_drewN | apply Kd.R_drew)); exact Kd.R_mono (Kd.R_far (p := ⟨gb169, 3, none⟩) (Kd.R_far (p := ⟨gb169, 2, none⟩) (Kd.R_far (p := ⟨gb169, 1, none⟩) (Kd.R_far (p := ⟨gb169, 0, none⟩) (Kd.R_far (p := ⟨gb169, 0, none⟩) (Kd.R_types HO206.out BK169.out (by decide)) (fun _ hk => hk.2) (.slice Ao54 y204.length co54)) (fun _ hk => hk.2) (.slice Ao54 y204.length co54)) (fun _ hk => hk.2) (.bool t199)) (fun _ hk => hk.2) (.string t200)) (fun _ hk => hk.2) (.string t201)) (fun _ hk => trivial), by repeat (first | (with_reducible first | exact HB.out | apply below_alloc | apply pw_below_drewN | apply below_drew1 | refine below_set ?_ GE169.out) | exact HB.out)⟩
         ·rw [if_neg c52] at H
          exact absurd H (by simp)
        ·rw [if_neg c51] at H
         have c51b0 : (a0 == 3) = false := beq_eq_false_iff_ne.mpr c51
         have c51b1 : (a0 != 3) = true := bne_iff_ne.mpr c51
         simp only [Option.some.injEq, Prod.mk.injEq] at H
         obtain ⟨rfl, rfl, rfl, rfl, rfl, rfl⟩ := H
         go_wp2_with (first | ((with_reducible refine gate_callee (f := 26) rfl ?_); refine goesL_ (some 53) rfl rfl Tryd.func26 (by kernel_rfl) rfl #[.string a1] rfl (by (try simp only [List.map_toArray, List.map_cons, List.map_nil]); first | done | rfl | (simp only [List.length_drop, List.length_take]; rfl)) ?_; (with_reducible refine (spec_VerGeneric.calls kj14 a1 t196 t199 t200 t201 true t203 _ A49.out).mono ?_); rintro e w59 ⟨v197, rfl, ho0, hb⟩; refine ⟨_, rfl, ?_⟩; have n0_ := Aside0.mk (Kd.R_lower ho0 (below_size (by repeat (first | (with_reducible first | exact HB.out | apply below_alloc | apply pw_below_drewN | apply below_drew1 | refine below_set ?_ GE169.out) | exact HB.out)))); have n1_ := Aside0.mk (blk_below (g := gb169) (o := .cells #[.slice none 0 0, .bool false, .string (⟨#[]⟩ : ByteArray), .string (⟨#[]⟩ : ByteArray)] 25 (0, 0)) (by (with_reducible repeat (first | refine blk_drewN ?_ _ | refine blk_drew ?_ | refine blk_alloc ?_ _)); exact BK169.out) hb); have n2_ := Aside0.mk (below_step (by repeat (first | (with_reducible first | exact HB.out | apply below_alloc | apply pw_below_drewN | apply below_drew1 | refine below_set ?_ GE169.out) | exact HB.out)) hb); clear BK169; clear HB; have HO198 := n0_; have BK169 := n1_; have HB := n2_; clear n0_ n1_ n2_; (try clear hb); (try clear hb2); (try clear hk); (try clear hi); (try clear ho0); obtain ⟨Ao60, co60, eo60⟩ := Kd.R_slice HO198.out; subst eo60; have hcz61_0 : w59.cell? ⟨gb169, 0, none⟩ = some (.slice none 0 0) := (blk_cell BK169.out 0).trans rfl; have hcz61_1 : w59.cell? ⟨gb169, 1, none⟩ = some (.bool false) := (blk_cell BK169.out 1).trans rfl; have hcz61_2 : w59.cell? ⟨gb169, 2, none⟩ = some (.string (⟨#[]⟩ : ByteArray)) := (blk_cell BK169.out 2).trans rfl; have hcz61_3 : w59.cell? ⟨gb169, 3, none⟩ = some (.string (⟨#[]⟩ : ByteArray)) := (blk_cell BK169.out 3).trans rfl; have hfz61_0 := blk_frozen BK169.out 0; have hfz61_1 := blk_frozen BK169.out 1; have hfz61_2 := blk_frozen BK169.out 2; have hfz61_3 := blk_frozen BK169.out 3))
         refine bodyPost_ret (results_ctt rfl _ _ gb169 25 #[.slice Ao60 t196.length co60, .bool t199, .string t200, .string t201] (0, 0) _ rfl (by (with_reducible repeat (first | refine blk_drewN ?_ _ | refine blk_drew ?_ | refine blk_alloc ?_ _)); refine blk_put (cs := #[.slice Ao60 t196.length co60, .bool t199, .string t200, .string t201]) ?_ 3 _ rfl; (with_reducible repeat (first | refine blk_drewN ?_ _ | refine blk_drew ?_ | refine blk_alloc ?_ _)); refine blk_put (cs := #[.slice Ao60 t196.length co60, .bool t199, .string t200, .string t201]) ?_ 2 _ rfl; (with_reducible repeat (first | refine blk_drewN ?_ _ | refine blk_drew ?_ | refine blk_alloc ?_ _)); refine blk_put (cs := #[.slice Ao60 t196.length co60, .bool t199, .string t200, .string t201]) ?_ 1 _ rfl; (with_reducible repeat (first | refine blk_drewN ?_ _ | refine blk_drew ?_ | refine blk_alloc ?_ _)); refine blk_put (cs := #[.slice Ao60 t196.length co60, .bool t199, .string t200, .string t201]) ?_ 0 _ rfl; (with_reducible repeat (first | refine blk_drewN ?_ _ | refine blk_drew ?_ | refine blk_alloc ?_ _)); refine blk_put (cs := #[.slice Ao60 t196.length co60, .bool t199, .string t200, .string (⟨#[]⟩ : ByteArray)]) ?_ 3 _ rfl; (with_reducible repeat (first | refine blk_drewN ?_ _ | refine blk_drew ?_ | refine blk_alloc ?_ _)); refine blk_put (cs := #[.slice Ao60 t196.length co60, .bool t199, .string (⟨#[]⟩ : ByteArray), .string (⟨#[]⟩ : ByteArray)]) ?_ 2 _ rfl; (with_reducible repeat (first | refine blk_drewN ?_ _ | refine blk_drew ?_ | refine blk_alloc ?_ _)); refine blk_put (cs := #[.slice Ao60 t196.length co60, .bool false, .string (⟨#[]⟩ : ByteArray), .string (⟨#[]⟩ : ByteArray)]) ?_ 1 _ rfl; (with_reducible repeat (first | refine blk_drewN ?_ _ | refine blk_drew ?_ | refine blk_alloc ?_ _)); refine blk_put (cs := #[.slice none 0 0, .bool false, .string (⟨#[]⟩ : ByteArray), .string (⟨#[]⟩ : ByteArray)]) ?_ 0 _ rfl; (with_reducible repeat (first | refine blk_drewN ?_ _ | refine blk_drew ?_ | refine blk_alloc ?_ _)); exact BK169.out) Tryd.underlying25 rfl (by kernel_rfl)) rfl ?_
         exact ⟨_, by first | rfl | (simp [errW_none, errW_some] <;> rfl) | (simp [*, errW_none, errW_some] <;> rfl), by (with_reducible repeat (first | apply Kd.R_alloc | apply Kd.R_drewN | apply Kd.R_drew)); exact Kd.R_mono (Kd.R_far (p := ⟨gb169, 3, none⟩) (Kd.R_far (p := ⟨gb169, 2, none⟩) (Kd.R_far (p := ⟨gb169, 1, none⟩) (Kd.R_far (p := ⟨gb169, 0, none⟩) (Kd.R_far (p := ⟨gb169, 3, none⟩) (Kd.R_far (p := ⟨gb169, 2, none⟩) (Kd.R_far (p := ⟨gb169, 1, none⟩) (Kd.R_far (p := ⟨gb169, 0, none⟩) (Kd.R_types HO198.out BK169.out (by decide)) (fun _ hk => hk.2) (.slice Ao60 t196.length co60)) (fun _ hk => hk.2) (.bool t199)) (fun _ hk => hk.2) (.string t200)) (fun _ hk => hk.2) (.string t201)) (fun _ hk => hk.2) (.slice Ao60 t196.length co60)) (fun _ hk => hk.2) (.bool t199)) (fun _ hk => hk.2) (.string t200)) (fun _ hk => hk.2) (.string t201)) (fun _ hk => trivial), by repeat (first | (with_reducible first | exact HB.out | apply below_alloc | apply pw_below_drewN | apply below_drew1 | refine below_set ?_ GE169.out) | exact HB.out)⟩
       ·replace c50 := Bool.eq_false_iff.mpr c50
        subst c50
        have H1 : (some (t196, t199, t200, t201, false, t203)) = some (r1, r2, r3, r4, r5, r6) := by rw [if_neg (show ¬ (false = true) by decide)] at H; exact H
        clear H
        have H := H1
        clear H1
        simp only [Option.some.injEq, Prod.mk.injEq] at H
        obtain ⟨rfl, rfl, rfl, rfl, rfl, rfl⟩ := H
        go_wp2_with (first | ((with_reducible refine gate_callee (f := 26) rfl ?_); refine goesL_ (some 53) rfl rfl Tryd.func26 (by kernel_rfl) rfl #[.string a1] rfl (by (try simp only [List.map_toArray, List.map_cons, List.map_nil]); first | done | rfl | (simp only [List.length_drop, List.length_take]; rfl)) ?_; (with_reducible refine (spec_VerGeneric.calls kj14 a1 t196 t199 t200 t201 false t203 _ A49.out).mono ?_); rintro e w62 ⟨v197, rfl, ho0, hb⟩; refine ⟨_, rfl, ?_⟩; have n0_ := Aside0.mk (Kd.R_lower ho0 (below_size (by repeat (first | (with_reducible first | exact HB.out | apply below_alloc | apply pw_below_drewN | apply below_drew1 | refine below_set ?_ GE169.out) | exact HB.out)))); have n1_ := Aside0.mk (blk_below (g := gb169) (o := .cells #[.slice none 0 0, .bool false, .string (⟨#[]⟩ : ByteArray), .string (⟨#[]⟩ : ByteArray)] 25 (0, 0)) (by (with_reducible repeat (first | refine blk_drewN ?_ _ | refine blk_drew ?_ | refine blk_alloc ?_ _)); exact BK169.out) hb); have n2_ := Aside0.mk (below_step (by repeat (first | (with_reducible first | exact HB.out | apply below_alloc | apply pw_below_drewN | apply below_drew1 | refine below_set ?_ GE169.out) | exact HB.out)) hb); clear BK169; clear HB; have HO198 := n0_; have BK169 := n1_; have HB := n2_; clear n0_ n1_ n2_; (try clear hb); (try clear hb2); (try clear hk); (try clear hi); (try clear ho0); obtain ⟨Ao63, co63, eo63⟩ := Kd.R_slice HO198.out; subst eo63; have hcz64_0 : w62.cell? ⟨gb169, 0, none⟩ = some (.slice none 0 0) := (blk_cell BK169.out 0).trans rfl; have hcz64_1 : w62.cell? ⟨gb169, 1, none⟩ = some (.bool false) := (blk_cell BK169.out 1).trans rfl; have hcz64_2 : w62.cell? ⟨gb169, 2, none⟩ = some (.string (⟨#[]⟩ : ByteArray)) := (blk_cell BK169.out 2).trans rfl; have hcz64_3 : w62.cell? ⟨gb169, 3, none⟩ = some (.string (⟨#[]⟩ : ByteArray)) := (blk_cell BK169.out 3).trans rfl; have hfz64_0 := blk_frozen BK169.out 0; have hfz64_1 := blk_frozen BK169.out 1; have hfz64_2 := blk_frozen BK169.out 2; have hfz64_3 := blk_frozen BK169.out 3))
        refine bodyPost_ret (results_ctt rfl _ _ gb169 25 #[.slice Ao63 t196.length co63, .bool t199, .string t200, .string t201] (0, 0) _ rfl (by (with_reducible repeat (first | refine blk_drewN ?_ _ | refine blk_drew ?_ | refine blk_alloc ?_ _)); refine blk_put (cs := #[.slice Ao63 t196.length co63, .bool t199, .string t200, .string t201]) ?_ 3 _ rfl; (with_reducible repeat (first | refine blk_drewN ?_ _ | refine blk_drew ?_ | refine blk_alloc ?_ _)); refine blk_put (cs := #[.slice Ao63 t196.length co63, .bool t199, .string t200, .string t201]) ?_ 2 _ rfl; (with_reducible repeat (first | refine blk_drewN ?_ _ | refine blk_drew ?_ | refine blk_alloc ?_ _)); refine blk_put (cs := #[.slice Ao63 t196.length co63, .bool t199, .string t200, .string t201]) ?_ 1 _ rfl; (with_reducible repeat (first | refine blk_drewN ?_ _ | refine blk_drew ?_ | refine blk_alloc ?_ _)); refine blk_put (cs := #[.slice Ao63 t196.length co63, .bool t199, .string t200, .string t201]) ?_ 0 _ rfl; (with_reducible repeat (first | refine blk_drewN ?_ _ | refine blk_drew ?_ | refine blk_alloc ?_ _)); refine blk_put (cs := #[.slice Ao63 t196.length co63, .bool t199, .string t200, .string (⟨#[]⟩ : ByteArray)]) ?_ 3 _ rfl; (with_reducible repeat (first | refine blk_drewN ?_ _ | refine blk_drew ?_ | refine blk_alloc ?_ _)); refine blk_put (cs := #[.slice Ao63 t196.length co63, .bool t199, .string (⟨#[]⟩ : ByteArray), .string (⟨#[]⟩ : ByteArray)]) ?_ 2 _ rfl; (with_reducible repeat (first | refine blk_drewN ?_ _ | refine blk_drew ?_ | refine blk_alloc ?_ _)); refine blk_put (cs := #[.slice Ao63 t196.length co63, .bool false, .string (⟨#[]⟩ : ByteArray), .string (⟨#[]⟩ : ByteArray)]) ?_ 1 _ rfl; (with_reducible repeat (first | refine blk_drewN ?_ _ | refine blk_drew ?_ | refine blk_alloc ?_ _)); refine blk_put (cs := #[.slice none 0 0, .bool false, .string (⟨#[]⟩ : ByteArray), .string (⟨#[]⟩ : ByteArray)]) ?_ 0 _ rfl; (with_reducible repeat (first | refine blk_drewN ?_ _ | refine blk_drew ?_ | refine blk_alloc ?_ _)); exact BK169.out) Tryd.underlying25 rfl (by kernel_rfl)) rfl ?_
        exact ⟨_, by first | rfl | (simp [errW_none, errW_some] <;> rfl) | (simp [*, errW_none, errW_some] <;> rfl), by (with_reducible repeat (first | apply Kd.R_alloc | apply Kd.R_drewN | apply Kd.R_drew)); exact Kd.R_mono (Kd.R_far (p := ⟨gb169, 3, none⟩) (Kd.R_far (p := ⟨gb169, 2, none⟩) (Kd.R_far (p := ⟨gb169, 1, none⟩) (Kd.R_far (p := ⟨gb169, 0, none⟩) (Kd.R_far (p := ⟨gb169, 3, none⟩) (Kd.R_far (p := ⟨gb169, 2, none⟩) (Kd.R_far (p := ⟨gb169, 1, none⟩) (Kd.R_far (p := ⟨gb169, 0, none⟩) (Kd.R_types HO198.out BK169.out (by decide)) (fun _ hk => hk.2) (.slice Ao63 t196.length co63)) (fun _ hk => hk.2) (.bool t199)) (fun _ hk => hk.2) (.string t200)) (fun _ hk => hk.2) (.string t201)) (fun _ hk => hk.2) (.slice Ao63 t196.length co63)) (fun _ hk => hk.2) (.bool t199)) (fun _ hk => hk.2) (.string t200)) (fun _ hk => hk.2) (.string t201)) (fun _ hk => trivial), by repeat (first | (with_reducible first | exact HB.out | apply below_alloc | apply pw_below_drewN | apply below_drew1 | refine below_set ?_ GE169.out) | exact HB.out)⟩
def impl_VersionCompare.f (_ : Nat) (a0 : Int) (a1 a2 : ByteArray) : Option (Int × Bool) := if a1.size ≤ 2147483647 ∧ a2.size ≤ 2147483647 then some (Ver11.compareL a0 a1 a2) else none
theorem impl_VersionCompare.okQ_of {kind : Int} {s : ByteArray} (hs : s.size ≤ 2147483647) : Ver11.okQ (VerQ.parsedL kind s) := by
 cases h : VerQ.parsedL kind s with
 | none => trivial
 | some v =>
  obtain ⟨sv, ns, pre, bld⟩ := v
  obtain ⟨_, h2, _, h4, _⟩ := VerQ.parsed_facts hs h
  exact ⟨by omega, h4⟩
theorem impl_VersionCompare.calls (k : Nat) (a0 : Int) (a1 a2 : ByteArray) (r1 : Int) (r2 : Bool) (w : World) (h : impl_VersionCompare.f k a0 a1 a2 = some (r1, r2)) (hV : VT.V w := by first | assumption | exact VT.V.below hV (by repeat (first | exact HB.out | exact HB | exact Below.refl _ _ | apply below_alloc | apply pw_below_drewN | apply below_drew1))) :
  Calls Tryd.prog 10 #[.int .i64 a0, .string a1, .string a2] w fun e w' => e = .returned (.tuple #[.int .i64 r1, .bool r2]) ∧ Below w.heap.size w w' := by
 unfold impl_VersionCompare.f at h
 split at h
 ·rename_i hs
  have h3 := Option.some.inj h
  obtain ⟨K1, e1⟩ := VerQ.parsed_ev a0 a1 hs.1
  have h2 : ∀ sv, ∃ k, parseF k sv a2 = some (VerQ.parseL sv a2) := fun sv => by
   obtain ⟨K2, e2⟩ := VerQ.parse_ev sv a2 (by omega)
   exact ⟨K2, e2 K2 (Nat.le_refl _)⟩
  have o2 : ∀ sv, Ver11.okQ ((VerQ.parseL sv a2).map fun v => (sv, v)) := fun sv => by
   cases h : VerQ.parseL sv a2 with
   | none => trivial
   | some v =>
    obtain ⟨ns, pre, bld⟩ := v
    obtain ⟨_, h2, _, h4, _⟩ := VerQ.parse_facts hs.2 h
    exact ⟨by omega, h4⟩
  have := Ver11.versionCompare_calls K1 a0 a1 a2 _ w (e1 K1 (Nat.le_refl _)) rfl (impl_VersionCompare.okQ_of hs.1) h2 o2 hV
  rw [h3] at this
  exact this
 ·cases h
def spec_verMixed.f (k : Nat) (a0 : ByteArray) (a1 : ByteArray) : Option (Bool) := (spec_VerNumeric.f k a0).bind fun t207 => (if t207 = true then ((spec_VerNumeric.f k a1).bind fun t208 => (if t208 = true then (some false) else (if a1.toList = ([] : List UInt8) then (some false) else (if 0 < (a1.size : Int) then ((spec_verDigit.f (bt a1 0)).bind fun t209 => (if t209 = true then (some true) else (some ((bt a1 0) == 45)))) else (none))))) else (some false))
set_option maxHeartbeats 8000000 in
set_option maxRecDepth 100000 in
theorem spec_verMixed.calls (k : Nat) (a0 : ByteArray) (a1 : ByteArray) (r : Bool) (w : World) (h : spec_verMixed.f k a0 a1 = some r) :
  Calls Tryd.prog 30 #[.string a0, .string a1] w fun e w' => e = .returned (.bool r) ∧ Drawn0 w w' := by
 have H : ((spec_VerNumeric.f k a0).bind fun t207 => (if t207 = true then ((spec_VerNumeric.f k a1).bind fun t208 => (if t208 = true then (some false) else (if a1.toList = ([] : List UInt8) then (some false) else (if 0 < (a1.size : Int) then ((spec_verDigit.f (bt a1 0)).bind fun t209 => (if t209 = true then (some true) else (some ((bt a1 0) == 45)))) else (none))))) else (some false))) = some r := h
 clear h
 replace H := Option.bind_eq_some_iff.mp H
 obtain ⟨t207, A30, H⟩ := H
 replace H : (if t207 = true then ((spec_VerNumeric.f k a1).bind fun t208 => (if t208 = true then (some false) else (if a1.toList = ([] : List UInt8) then (some false) else (if 0 < (a1.size : Int) then ((spec_verDigit.f (bt a1 0)).bind fun t209 => (if t209 = true then (some true) else (some ((bt a1 0) == 45)))) else (none))))) else (some false)) = some r := H
 have A3 := Aside0.mk A30
 clear A30
 by_cases c4 : t207 = true
 ·subst c4
  have H1 : ((spec_VerNumeric.f k a1).bind fun t208 => (if t208 = true then (some false) else (if a1.toList = ([] : List UInt8) then (some false) else (if 0 < (a1.size : Int) then ((spec_verDigit.f (bt a1 0)).bind fun t209 => (if t209 = true then (some true) else (some ((bt a1 0) == 45)))) else (none))))) = some r := by rw [if_pos rfl] at H; exact H
  clear H
  have H := H1
  clear H1
  replace H := Option.bind_eq_some_iff.mp H
  obtain ⟨t208, A50, H⟩ := H
  replace H : (if t208 = true then (some false) else (if a1.toList = ([] : List UInt8) then (some false) else (if 0 < (a1.size : Int) then ((spec_verDigit.f (bt a1 0)).bind fun t209 => (if t209 = true then (some true) else (some ((bt a1 0) == 45)))) else (none)))) = some r := H
  have A5 := Aside0.mk A50
  clear A50
  by_cases c6 : t208 = true
  ·subst c6
   have H1 : (some false) = some r := by rw [if_pos rfl] at H; exact H
   clear H
   have H := H1
   clear H1
   obtain rfl := Option.some.inj H
   go_enter Tryd.func30, Tryd.ntmps30
   go_wp2_with (first | ((with_reducible refine gate_callee (f := 60) rfl ?_); refine goesL_ (some 6) rfl rfl Tryd.func60 (by kernel_rfl) rfl #[.string a0] rfl (by (try simp only [List.map_toArray, List.map_cons, List.map_nil]); first | done | rfl | (simp only [List.length_drop, List.length_take]; rfl)) ?_; (with_reducible refine (spec_VerNumeric.calls k a0 true _ A3.out).mono ?_); rintro e w' ⟨rfl, ⟨nd, rfl⟩⟩; refine ⟨_, rfl, ?_⟩) | (go_at_call 60; (with_reducible refine (spec_VerNumeric.calls k a1 true _ A5.out).mono ?_); rintro e w' ⟨rfl, ⟨nd, rfl⟩⟩))
   go_ret
   exact ⟨by first | rfl | (simp; done) | (simp [*]; done), by repeat (first | exact Drawn0.refl _ | apply Drawn0.step)⟩
  ·replace c6 := Bool.eq_false_iff.mpr c6
   subst c6
   have H1 : (if a1.toList = ([] : List UInt8) then (some false) else (if 0 < (a1.size : Int) then ((spec_verDigit.f (bt a1 0)).bind fun t209 => (if t209 = true then (some true) else (some ((bt a1 0) == 45)))) else (none))) = some r := by rw [if_neg (show ¬ (false = true) by decide)] at H; exact H
   clear H
   have H := H1
   clear H1
   by_cases c7 : a1.toList = ([] : List UInt8)
   ·rw [if_pos c7] at H
    have c7b0 : (a1.toList == ([] : List UInt8)) = true := beq_iff_eq.mpr c7
    have c7b1 : (a1.toList != ([] : List UInt8)) = false := bne_eq_false_iff_eq.mpr c7
    clear c7
    obtain rfl := Option.some.inj H
    go_enter Tryd.func30, Tryd.ntmps30
    go_wp2_with (first | ((with_reducible refine gate_callee (f := 60) rfl ?_); refine goesL_ (some 6) rfl rfl Tryd.func60 (by kernel_rfl) rfl #[.string a0] rfl (by (try simp only [List.map_toArray, List.map_cons, List.map_nil]); first | done | rfl | (simp only [List.length_drop, List.length_take]; rfl)) ?_; (with_reducible refine (spec_VerNumeric.calls k a0 true _ A3.out).mono ?_); rintro e w' ⟨rfl, ⟨nd, rfl⟩⟩; refine ⟨_, rfl, ?_⟩) | (go_at_call 60; (with_reducible refine (spec_VerNumeric.calls k a1 false _ A5.out).mono ?_); rintro e w' ⟨rfl, ⟨nd, rfl⟩⟩))
    go_ret
    exact ⟨by first | rfl | (simp; done) | (simp [*]; done), by repeat (first | exact Drawn0.refl _ | apply Drawn0.step)⟩
   ·rw [if_neg c7] at H
    have c7b0 : (a1.toList == ([] : List UInt8)) = false := beq_eq_false_iff_ne.mpr c7
    have c7b1 : (a1.toList != ([] : List UInt8)) = true := bne_iff_ne.mpr c7
    by_cases c8 : 0 < (a1.size : Int)
    ·rw [if_pos c8] at H
     have c8b0 : decide (0 < (a1.size : Int)) = true := decide_eq_true c8
     have c8b1 : decide (0 < a1.size) = true := decide_eq_true (by omega)
     clear c8
     replace H := Option.bind_eq_some_iff.mp H
     obtain ⟨t209, A100, H⟩ := H
     replace H : (if t209 = true then (some true) else (some ((bt a1 0) == 45))) = some r := H
     have A10 := Aside0.mk A100
     clear A100
     by_cases c11 : t209 = true
     ·subst c11
      have H1 : (some true) = some r := by rw [if_pos rfl] at H; exact H
      clear H
      have H := H1
      clear H1
      obtain rfl := Option.some.inj H
      go_enter Tryd.func30, Tryd.ntmps30
      go_wp2_with (first | ((with_reducible refine gate_callee (f := 60) rfl ?_); refine goesL_ (some 6) rfl rfl Tryd.func60 (by kernel_rfl) rfl #[.string a0] rfl (by (try simp only [List.map_toArray, List.map_cons, List.map_nil]); first | done | rfl | (simp only [List.length_drop, List.length_take]; rfl)) ?_; (with_reducible refine (spec_VerNumeric.calls k a0 true _ A3.out).mono ?_); rintro e w' ⟨rfl, ⟨nd, rfl⟩⟩; refine ⟨_, rfl, ?_⟩) | (go_at_call 60; (with_reducible refine (spec_VerNumeric.calls k a1 false _ A5.out).mono ?_); rintro e w' ⟨rfl, ⟨nd, rfl⟩⟩; have p9 : 0 ≤ (0 : Int) := (by omega); have q9 : 0 < a1.size := (by have : (0 : Int) < (a1.size : Int) := of_decide_eq_true (by assumption); omega); have hx9 : ∀ h : 0 < a1.size, ((a1[0]'h).toNat : Int) = bt a1 0 := bt_at a1 0; clear p9; have qi9 : (0 < (a1.size : Int)) = True := eq_true (of_decide_eq_true (by assumption)); replace q9 := eq_true q9) | (go_at_call 49; (with_reducible refine (spec_verDigit.calls (bt a1 0) true _ A10.out).mono ?_); rintro e w' ⟨rfl, ⟨nd, rfl⟩⟩))
      go_ret
      exact ⟨by first | rfl | (simp; done) | (simp [*]; done), by repeat (first | exact Drawn0.refl _ | apply Drawn0.step)⟩
     ·replace c11 := Bool.eq_false_iff.mpr c11
      subst c11
      have H1 : (some ((bt a1 0) == 45)) = some r := by rw [if_neg (show ¬ (false = true) by decide)] at H; exact H
      clear H
      have H := H1
      clear H1
      obtain rfl := Option.some.inj H
      go_enter Tryd.func30, Tryd.ntmps30
      go_wp2_with (first | ((with_reducible refine gate_callee (f := 60) rfl ?_); refine goesL_ (some 6) rfl rfl Tryd.func60 (by kernel_rfl) rfl #[.string a0] rfl (by (try simp only [List.map_toArray, List.map_cons, List.map_nil]); first | done | rfl | (simp only [List.length_drop, List.length_take]; rfl)) ?_; (with_reducible refine (spec_VerNumeric.calls k a0 true _ A3.out).mono ?_); rintro e w' ⟨rfl, ⟨nd, rfl⟩⟩; refine ⟨_, rfl, ?_⟩) | (go_at_call 60; (with_reducible refine (spec_VerNumeric.calls k a1 false _ A5.out).mono ?_); rintro e w' ⟨rfl, ⟨nd, rfl⟩⟩; have p9 : 0 ≤ (0 : Int) := (by omega); have q9 : 0 < a1.size := (by have : (0 : Int) < (a1.size : Int) := of_decide_eq_true (by assumption); omega); have hx9 : ∀ h : 0 < a1.size, ((a1[0]'h).toNat : Int) = bt a1 0 := bt_at a1 0; clear p9; have qi9 : (0 < (a1.size : Int)) = True := eq_true (of_decide_eq_true (by assumption)); replace q9 := eq_true q9) | (go_at_call 49; (with_reducible refine (spec_verDigit.calls (bt a1 0) false _ A10.out).mono ?_); rintro e w' ⟨rfl, ⟨nd, rfl⟩⟩; have p12 : 0 ≤ (0 : Int) := (by omega); have q12 : 0 < a1.size := (by have : (0 : Int) < (a1.size : Int) := of_decide_eq_true (by assumption); omega); have hx12 : ∀ h : 0 < a1.size, ((a1[0]'h).toNat : Int) = bt a1 0 := bt_at a1 0; clear p12; have qi12 : (0 < (a1.size : Int)) = True := eq_true (of_decide_eq_true (by assumption)); replace q12 := eq_true q12))
      go_ret
      exact ⟨by first | rfl | (simp; done) | (simp [*]; done), by repeat (first | exact Drawn0.refl _ | apply Drawn0.step)⟩
    ·rw [if_neg c8] at H
     exact absurd H (by simp)
 ·replace c4 := Bool.eq_false_iff.mpr c4
  subst c4
  have H1 : (some false) = some r := by rw [if_neg (show ¬ (false = true) by decide)] at H; exact H
  clear H
  have H := H1
  clear H1
  obtain rfl := Option.some.inj H
  go_enter Tryd.func30, Tryd.ntmps30
  go_wp2_with (first | ((with_reducible refine gate_callee (f := 60) rfl ?_); refine goesL_ (some 6) rfl rfl Tryd.func60 (by kernel_rfl) rfl #[.string a0] rfl (by (try simp only [List.map_toArray, List.map_cons, List.map_nil]); first | done | rfl | (simp only [List.length_drop, List.length_take]; rfl)) ?_; (with_reducible refine (spec_VerNumeric.calls k a0 false _ A3.out).mono ?_); rintro e w' ⟨rfl, ⟨nd, rfl⟩⟩; refine ⟨_, rfl, ?_⟩))
  go_ret
  exact ⟨by first | rfl | (simp; done) | (simp [*]; done), by repeat (first | exact Drawn0.refl _ | apply Drawn0.step)⟩
end Go.Proofs.YtmfgkidppchobaaDoor.XFnVersionCompare

