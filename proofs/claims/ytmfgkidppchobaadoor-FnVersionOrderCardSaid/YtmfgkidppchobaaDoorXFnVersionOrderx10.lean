/- A text of this session: the functions of the law FnVersionOrder, by a program that calls the kit's print and lays this session's own contracts of single functions beside. -/
import Derived.Test.YtmfgkidppchobaaDoorVerH
import Derived.Test.YtmfgkidppchobaaDoorXFnVersionOrderx0
import Derived.Test.YtmfgkidppchobaaDoorXFnVersionOrderx1
import Derived.Test.YtmfgkidppchobaaDoorXFnVersionOrderx6
import Derived.Test.YtmfgkidppchobaaDoorXFnVersionOrderx7
import Derived.Test.YtmfgkidppchobaaDoorXFnVersionOrderx9
namespace Go.Proofs.YtmfgkidppchobaaDoor.XFnVersionOrder
open Go.Proofs.YtmfgkidppchobaaDoor.Ver5 Go.RowKit Go.Proofs.YtmfgkidppchobaaDoorW.PrintWords Go.Proofs.YtmfgkidppchobaaDoorW.PrintLast Go.Proofs.YtmfgkidppchobaaDoorW.PrintMore
attribute [local go_sem] max2_int min2_int max_two min_two max_three min_three max_four min_four
set_option linter.unusedVariables false
set_option linter.unusedSimpArgs false
def impl_VersionOrder.f (_ : Nat) (a0 : Int) (a1 : ByteArray) (a2 : Int) (a3 : ByteArray) : Option (Bool × Bool × Bool × Bool × Bool) := if a1.size ≤ 2147483647 ∧ a3.size ≤ 2147483647 then some (Ver11.orderL (VerQ.parsedL a0 a1) (VerQ.parsedL a2 a3)) else none
theorem impl_VersionOrder.okQ_of {kind : Int} {s : ByteArray} (hs : s.size ≤ 2147483647) : Ver11.okQ (VerQ.parsedL kind s) := by
 cases h : VerQ.parsedL kind s with
 | none => trivial
 | some v =>
  obtain ⟨sv, ns, pre, bld⟩ := v
  obtain ⟨_, h2, _, h4, _⟩ := VerQ.parsed_facts hs h
  exact ⟨by omega, h4⟩
theorem impl_VersionOrder.calls (k : Nat) (a0 : Int) (a1 : ByteArray) (a2 : Int) (a3 : ByteArray) (r1 r2 r3 r4 r5 : Bool) (w : World) (h : impl_VersionOrder.f k a0 a1 a2 a3 = some (r1, r2, r3, r4, r5)) (hV : VT.V w := by first | assumption | exact VT.V.below hV (by repeat (first | exact HB.out | exact HB | exact Below.refl _ _ | apply below_alloc | apply pw_below_drewN | apply below_drew1))) :
  Calls Tryd.prog 13 #[.int .i64 a0, .string a1, .int .i64 a2, .string a3] w fun e w' => e = .returned (.tuple #[.bool r1, .bool r2, .bool r3, .bool r4, .bool r5]) ∧ Below w.heap.size w w' := by
 unfold impl_VersionOrder.f at h
 split at h
 ·rename_i hs
  have h3 := Option.some.inj h
  obtain ⟨K1, e1⟩ := VerQ.parsed_ev a0 a1 hs.1
  obtain ⟨K2, e2⟩ := VerQ.parsed_ev a2 a3 hs.2
  have := Ver11.order_calls K1 K2 a0 a2 a1 a3 _ _ w (e1 K1 (Nat.le_refl _)) (e2 K2 (Nat.le_refl _)) (impl_VersionOrder.okQ_of hs.1) (impl_VersionOrder.okQ_of hs.2) hV
  rw [h3] at this
  exact this
 ·cases h
mutual
def laws_FnVersionOrder.j0 : Nat → Int → ByteArray → Int → ByteArray → Bool → Option (Bool)
 | 0, _, _, _, _, _ => none
 | k + 1, x0, x1, x2, x3, x28 => if x28 = true then (some true) else ((laws_verKind.f x0).bind fun t244 => ((laws_verKind.f x2).bind fun t245 => ((spec_VerParsed.f k t244 x1).bind fun bt246 => ((spec_VerParsed.f k t245 x3).bind fun bt255 => (if bt246.2.2.2.2.2 = true then (laws_FnVersionOrder.j1 k t244 x1 t245 x3 bt246.2.2.2.2.1 bt255.2.2.2.2.1 (!bt255.2.2.2.2.2) bt246.1 bt246.2.1 bt246.2.2.1 bt246.2.2.2.1 bt255.1 bt255.2.1 bt255.2.2.1 bt255.2.2.2.1) else (laws_FnVersionOrder.j1 k t244 x1 t245 x3 bt246.2.2.2.2.1 bt255.2.2.2.2.1 true bt246.1 bt246.2.1 bt246.2.2.1 bt246.2.2.2.1 bt255.1 bt255.2.1 bt255.2.2.1 bt255.2.2.2.1))))))
def laws_FnVersionOrder.j1 : Nat → Int → ByteArray → Int → ByteArray → Bool → Bool → Bool → List Int → Bool → ByteArray → ByteArray → List Int → Bool → ByteArray → ByteArray → Option (Bool)
 | 0, _, _, _, _, _, _, _, _, _, _, _, _, _, _, _ => none
 | k + 1, x0, x1, x2, x3, x10, x13, x52, x255000, x255001, x255002, x255003, x264000, x264001, x264002, x264003 => if x52 = true then (some true) else ((impl_VersionOrder.f k x0 x1 x2 x3).bind fun bt264 => (if x10 = true then (if (bt264.2.2.2.2 != x13) = true then (laws_FnVersionOrder.j2 k x10 x13 bt264.1 bt264.2.1 bt264.2.2.1 bt264.2.2.2.1 bt264.2.2.2.2 true x255000 x255001 x255002 x255003 x264000 x264001 x264002 x264003) else (laws_FnVersionOrder.j2 k x10 x13 bt264.1 bt264.2.1 bt264.2.2.1 bt264.2.2.2.1 bt264.2.2.2.2 (!bt264.2.2.2.2) x255000 x255001 x255002 x255003 x264000 x264001 x264002 x264003)) else (if (bt264.2.2.2.2 != false) = true then (laws_FnVersionOrder.j2 k x10 x13 bt264.1 bt264.2.1 bt264.2.2.1 bt264.2.2.2.1 bt264.2.2.2.2 true x255000 x255001 x255002 x255003 x264000 x264001 x264002 x264003) else (laws_FnVersionOrder.j2 k x10 x13 bt264.1 bt264.2.1 bt264.2.2.1 bt264.2.2.2.1 bt264.2.2.2.2 (!bt264.2.2.2.2) x255000 x255001 x255002 x255003 x264000 x264001 x264002 x264003))))
def laws_FnVersionOrder.j2 : Nat → Bool → Bool → Bool → Bool → Bool → Bool → Bool → Bool → List Int → Bool → ByteArray → ByteArray → List Int → Bool → ByteArray → ByteArray → Option (Bool)
 | 0, _, _, _, _, _, _, _, _, _, _, _, _, _, _, _, _ => none
 | k + 1, x10, x13, x15, x16, x17, x18, x19, x73, x255000, x255001, x255002, x255003, x264000, x264001, x264002, x264003 => if x73 = true then (if x10 = true then (some (x19 == x13)) else (some (x19 == false))) else ((spec_VerAsked.f k x255000 x255001 x255002 x255003 x264000 x264001 x264002 x264003).bind fun t269 => (if t269 = true then ((spec_Versions.f k x255000 x255001 x255002 x255003 x264000 x264001 x264002 x264003).bind fun t270 => (if (x15 == (decide (t270 ≥ 0))) = true then (if (x16 == (decide (t270 < 0))) = true then (if (x17 == (decide (t270 > 0))) = true then (some (x18 == (t270 == 0))) else (some false)) else (some false)) else (some false))) else (some true)))
end
def laws_FnVersionOrder.f (k : Nat) (a0 : Int) (a1 : ByteArray) (a2 : Int) (a3 : ByteArray) : Option (Bool) := if (a1.size : Int) > 2147483647 then (laws_FnVersionOrder.j0 k a0 a1 a2 a3 true) else (laws_FnVersionOrder.j0 k a0 a1 a2 a3 (decide ((a3.size : Int) > 2147483647)))
set_option maxHeartbeats 8000000 in
set_option maxRecDepth 100000 in
theorem laws_FnVersionOrder.calls (k : Nat) (a0 : Int) (a1 : ByteArray) (a2 : Int) (a3 : ByteArray) (r : Bool) (w : World) (h : laws_FnVersionOrder.f k a0 a1 a2 a3 = some r) (hV : VT.V w := by first | assumption | exact VT.V.below hV (by repeat (first | exact HB.out | exact HB | exact Below.refl _ _ | apply below_alloc | apply pw_below_drewN | apply below_drew1))) :
  Calls Tryd.prog 4 #[.int .i64 a0, .string a1, .int .i64 a2, .string a3] w fun e w' => e = .returned (.bool r) ∧ Below w.heap.size w w' := by
 have hu25 := Tryd.underlying25
 have HB := Aside0.mk (Below.refl w.heap.size w)
 have H : (if (a1.size : Int) > 2147483647 then (laws_FnVersionOrder.j0 k a0 a1 a2 a3 true) else (laws_FnVersionOrder.j0 k a0 a1 a2 a3 (decide ((a3.size : Int) > 2147483647)))) = some r := h
 clear h
 have HC5 := Aside0.mk H
 clear H
 go_enter Tryd.func4, Tryd.ntmps4
 go_upto_region 1 with (fail)
 go_cut [28] (fun v28 wc => ∃ (kq : Nat) (x28_4 : Bool), v28 = .bool x28_4 ∧ Aside0 (laws_FnVersionOrder.j0 kq a0 a1 a2 a3 x28_4 = some r) ∧ Aside0 (kq ≤ k) ∧ Aside0 (Below w.heap.size w wc))
 case first =>
  have H := HC5.out
  clear HC5
  by_cases c6 : (a1.size : Int) > 2147483647
  ·rw [if_pos c6] at H
   have c6b0 : decide (2147483647 < (a1.size : Int)) = true := decide_eq_true c6
   have c6b1 : decide (2147483647 < a1.size) = true := decide_eq_true (by omega)
   clear c6
   (first | rw [c6b0] | (simp only [i64_w, i32_w]; rw [c6b0]) | skip)
   have H' := Aside0.mk H
   clear H
   go_wp2
   go_meet
   case rel => exact ⟨_, (true), (by first | rfl | (simp; done) | (simp [*]; done)), H', ⟨by first | omega | exact Nat.le_refl _⟩, ⟨by repeat (first | (with_reducible first | exact HB.out | apply below_alloc | apply pw_below_drewN | apply below_drew1) | exact HB.out)⟩⟩
  ·rw [if_neg c6] at H
   have c6b0 : decide (2147483647 < (a1.size : Int)) = false := decide_eq_false c6
   have c6b1 : decide (2147483647 < a1.size) = false := decide_eq_false (by omega)
   clear c6
   (first | rw [c6b0] | (simp only [i64_w, i32_w]; rw [c6b0]) | skip)
   have H' := Aside0.mk H
   clear H
   go_wp2
   go_meet
   case rel => exact ⟨_, (decide ((a3.size : Int) > 2147483647)), (by first | rfl | (simp; done) | (simp [*]; done)), H', ⟨by first | omega | exact Nat.le_refl _⟩, ⟨by repeat (first | (with_reducible first | exact HB.out | apply below_alloc | apply pw_below_drewN | apply below_drew1) | exact HB.out)⟩⟩
 case rest =>
  clear HC5
  try clear p2
  try clear c4
  try clear c6
  try clear c6b0
  try clear c6b1
  obtain ⟨kq, x28_4, rfl, HA, HJ4, HB⟩ := hcut
  cases kq with
  | zero => exact absurd HA.out (by simp [laws_FnVersionOrder.j0])
  | succ kj4 =>
   have H := HA.out
   clear HA
   simp only [laws_FnVersionOrder.j0] at H
   by_cases c7 : x28_4 = true
   ·subst c7
    have H1 : (some true) = some r := by rw [if_pos rfl] at H; exact H
    clear H
    have H := H1
    clear H1
    obtain rfl := Option.some.inj H
    go_wp2
    go_ret
    exact ⟨by first | rfl | (simp [errW_none, errW_some] <;> rfl) | (simp [*, errW_none, errW_some] <;> rfl), by repeat (first | (with_reducible first | exact HB.out | apply below_alloc | apply pw_below_drewN | apply below_drew1) | exact HB.out)⟩
   ·replace c7 := Bool.eq_false_iff.mpr c7
    subst c7
    have H1 : ((laws_verKind.f a0).bind fun t244 => ((laws_verKind.f a2).bind fun t245 => ((spec_VerParsed.f kj4 t244 a1).bind fun bt246 => ((spec_VerParsed.f kj4 t245 a3).bind fun bt255 => (if bt246.2.2.2.2.2 = true then (laws_FnVersionOrder.j1 kj4 t244 a1 t245 a3 bt246.2.2.2.2.1 bt255.2.2.2.2.1 (!bt255.2.2.2.2.2) bt246.1 bt246.2.1 bt246.2.2.1 bt246.2.2.2.1 bt255.1 bt255.2.1 bt255.2.2.1 bt255.2.2.2.1) else (laws_FnVersionOrder.j1 kj4 t244 a1 t245 a3 bt246.2.2.2.2.1 bt255.2.2.2.2.1 true bt246.1 bt246.2.1 bt246.2.2.1 bt246.2.2.2.1 bt255.1 bt255.2.1 bt255.2.2.1 bt255.2.2.2.1)))))) = some r := by rw [if_neg (show ¬ (false = true) by decide)] at H; exact H
    clear H
    have H := H1
    clear H1
    replace H := Option.bind_eq_some_iff.mp H
    obtain ⟨t244, A80, H⟩ := H
    replace H : ((laws_verKind.f a2).bind fun t245 => ((spec_VerParsed.f kj4 t244 a1).bind fun bt246 => ((spec_VerParsed.f kj4 t245 a3).bind fun bt255 => (if bt246.2.2.2.2.2 = true then (laws_FnVersionOrder.j1 kj4 t244 a1 t245 a3 bt246.2.2.2.2.1 bt255.2.2.2.2.1 (!bt255.2.2.2.2.2) bt246.1 bt246.2.1 bt246.2.2.1 bt246.2.2.2.1 bt255.1 bt255.2.1 bt255.2.2.1 bt255.2.2.2.1) else (laws_FnVersionOrder.j1 kj4 t244 a1 t245 a3 bt246.2.2.2.2.1 bt255.2.2.2.2.1 true bt246.1 bt246.2.1 bt246.2.2.1 bt246.2.2.2.1 bt255.1 bt255.2.1 bt255.2.2.1 bt255.2.2.2.1))))) = some r := H
    have A8 := Aside0.mk A80
    clear A80
    replace H := Option.bind_eq_some_iff.mp H
    obtain ⟨t245, A90, H⟩ := H
    replace H : ((spec_VerParsed.f kj4 t244 a1).bind fun bt246 => ((spec_VerParsed.f kj4 t245 a3).bind fun bt255 => (if bt246.2.2.2.2.2 = true then (laws_FnVersionOrder.j1 kj4 t244 a1 t245 a3 bt246.2.2.2.2.1 bt255.2.2.2.2.1 (!bt255.2.2.2.2.2) bt246.1 bt246.2.1 bt246.2.2.1 bt246.2.2.2.1 bt255.1 bt255.2.1 bt255.2.2.1 bt255.2.2.2.1) else (laws_FnVersionOrder.j1 kj4 t244 a1 t245 a3 bt246.2.2.2.2.1 bt255.2.2.2.2.1 true bt246.1 bt246.2.1 bt246.2.2.1 bt246.2.2.2.1 bt255.1 bt255.2.1 bt255.2.2.1 bt255.2.2.2.1)))) = some r := H
    have A9 := Aside0.mk A90
    clear A90
    replace H := Option.bind_eq_some_iff.mp H
    obtain ⟨⟨t246, t249, t250, t251, t252, t253⟩, A100, H⟩ := H
    replace H : ((spec_VerParsed.f kj4 t245 a3).bind fun bt255 => (if t253 = true then (laws_FnVersionOrder.j1 kj4 t244 a1 t245 a3 t252 bt255.2.2.2.2.1 (!bt255.2.2.2.2.2) t246 t249 t250 t251 bt255.1 bt255.2.1 bt255.2.2.1 bt255.2.2.2.1) else (laws_FnVersionOrder.j1 kj4 t244 a1 t245 a3 t252 bt255.2.2.2.2.1 true t246 t249 t250 t251 bt255.1 bt255.2.1 bt255.2.2.1 bt255.2.2.2.1))) = some r := H
    have A10 := Aside0.mk A100
    clear A100
    replace H := Option.bind_eq_some_iff.mp H
    obtain ⟨⟨t255, t258, t259, t260, t261, t262⟩, A110, H⟩ := H
    replace H : (if t253 = true then (laws_FnVersionOrder.j1 kj4 t244 a1 t245 a3 t252 t261 (!t262) t246 t249 t250 t251 t255 t258 t259 t260) else (laws_FnVersionOrder.j1 kj4 t244 a1 t245 a3 t252 t261 true t246 t249 t250 t251 t255 t258 t259 t260)) = some r := H
    have A11 := Aside0.mk A110
    clear A110
    have HC12 := Aside0.mk H
    clear H
    go_upto_region 6 with (first | ((with_reducible refine gate_callee (f := 8) rfl ?_); refine goesL_ (some 30) rfl rfl Tryd.func8 (by kernel_rfl) rfl #[.int .i64 a0] rfl (by (try simp only [List.map_toArray, List.map_cons, List.map_nil]); first | done | rfl | (simp only [List.length_drop, List.length_take]; rfl)) ?_; (with_reducible refine (laws_verKind.calls a0 t244 _ A8.out).mono ?_); rintro e w' ⟨rfl, ⟨nd, rfl⟩⟩; refine ⟨_, rfl, ?_⟩; (try (rw [drewN_self wc]; generalize hq_ : World.drewN wc _ = wc; have n0_ : Aside0 (Below w.heap.size w wc) := ⟨by rw [← hq_]; exact (by repeat (first | (with_reducible first | exact HB.out | apply below_alloc | apply pw_below_drewN | apply below_drew1) | exact HB.out))⟩; clear HB hq_; have HB := n0_; clear n0_))) | ((with_reducible refine gate_callee (f := 8) rfl ?_); refine goesL_ (some 32) rfl rfl Tryd.func8 (by kernel_rfl) rfl #[.int .i64 a2] rfl (by (try simp only [List.map_toArray, List.map_cons, List.map_nil]); first | done | rfl | (simp only [List.length_drop, List.length_take]; rfl)) ?_; (with_reducible refine (laws_verKind.calls a2 t245 _ A9.out).mono ?_); rintro e w' ⟨rfl, ⟨nd, rfl⟩⟩; refine ⟨_, rfl, ?_⟩; (try (rw [drewN_self wc]; generalize hq_ : World.drewN wc _ = wc; have n0_ : Aside0 (Below w.heap.size w wc) := ⟨by rw [← hq_]; exact (by repeat (first | (with_reducible first | exact HB.out | apply below_alloc | apply pw_below_drewN | apply below_drew1) | exact HB.out))⟩; clear HB hq_; have HB := n0_; clear n0_))) | ((with_reducible refine gate_callee (f := 9) rfl ?_); refine goesL_ (some 36) rfl rfl Tryd.func9 (by kernel_rfl) rfl #[.int .i64 t244, .string a1] rfl (by (try simp only [List.map_toArray, List.map_cons, List.map_nil]); first | done | rfl | (simp only [List.length_drop, List.length_take]; rfl)) ?_; (with_reducible refine (spec_VerParsed.calls kj4 t244 a1 t246 t249 t250 t251 t252 t253 _ A10.out).mono ?_); rintro e w13 ⟨v247, rfl, ho0, hb⟩; refine ⟨_, rfl, ?_⟩; have n0_ := Aside0.mk (Kd.R_lower ho0 (below_size (by repeat (first | (with_reducible first | exact HB.out | apply below_alloc | apply pw_below_drewN | apply below_drew1) | exact HB.out)))); have n1_ := Aside0.mk (below_step (by repeat (first | (with_reducible first | exact HB.out | apply below_alloc | apply pw_below_drewN | apply below_drew1) | exact HB.out)) hb); clear HB; have HO248 := n0_; have HB := n1_; clear n0_ n1_; (try clear hb); (try clear hb2); (try clear hk); (try clear hi); (try clear ho0)) | ((with_reducible refine gate_dst (N := 9) rfl ?_); (try (refine gate_guard (by rfl) ?_; dsimp only)); refine box_event ?hg (N := 9) ?hd (cs := #[.slice none 0 0, .bool false, .string (⟨#[]⟩ : ByteArray), .string (⟨#[]⟩ : ByteArray)]) (t := 25) ?hr ?_; (case hd => rfl); (case hg => rfl); (case hr => first | (go_simp; done) | (go_simp; rfl)); intro gb254 hg w14 hbox hb; have n0_ := Aside0.mk (Kd.R_below (by (with_reducible repeat (first | apply Kd.R_alloc | apply Kd.R_drewN | apply Kd.R_drew)); exact HO248.out) hb); have n1_ := Aside0.mk (below_step (by repeat (first | (with_reducible first | exact HB.out | apply below_alloc | apply pw_below_drewN | apply below_drew1) | exact HB.out)) hb); have n2_ := Aside0.mk (hbox); have n3_ := Aside0.mk ((by rw [hg]; exact (below_size (by repeat (first | (with_reducible first | exact HB.out | apply below_alloc | apply pw_below_drewN | apply below_drew1) | exact HB.out))) : w.heap.size ≤ gb254)); have n4_ := Aside0.mk ((by rw [hg]; exact (below_size (by repeat (first | (with_reducible first | exact HB.out | apply below_alloc | apply pw_below_drewN | apply below_drew1) | exact HB.out))) : w.heap.size ≤ gb254)); clear HO248; clear HB; have HO248 := n0_; have HB := n1_; have BK254 := n2_; have GW254 := n3_; have GE254 := n4_; clear n0_ n1_ n2_ n3_ n4_; clear hb hbox hg; obtain ⟨Ao15, co15, eo15⟩ := Kd.R_slice HO248.out; subst eo15; have hcz16_0 : w14.cell? ⟨gb254, 0, none⟩ = some (.slice none 0 0) := (blk_cell BK254.out 0).trans rfl; have hcz16_1 : w14.cell? ⟨gb254, 1, none⟩ = some (.bool false) := (blk_cell BK254.out 1).trans rfl; have hcz16_2 : w14.cell? ⟨gb254, 2, none⟩ = some (.string (⟨#[]⟩ : ByteArray)) := (blk_cell BK254.out 2).trans rfl; have hcz16_3 : w14.cell? ⟨gb254, 3, none⟩ = some (.string (⟨#[]⟩ : ByteArray)) := (blk_cell BK254.out 3).trans rfl; have hfz16_0 := blk_frozen BK254.out 0; have hfz16_1 := blk_frozen BK254.out 1; have hfz16_2 := blk_frozen BK254.out 2; have hfz16_3 := blk_frozen BK254.out 3) | ((with_reducible refine gate_callee (f := 9) rfl ?_); refine goesL_ (some 43) rfl rfl Tryd.func9 (by kernel_rfl) rfl #[.int .i64 t245, .string a3] rfl (by (try simp only [List.map_toArray, List.map_cons, List.map_nil]); first | done | rfl | (simp only [List.length_drop, List.length_take]; rfl)) ?_; (with_reducible refine (spec_VerParsed.calls kj4 t245 a3 t255 t258 t259 t260 t261 t262 _ A11.out).mono ?_); rintro e w17 ⟨v256, rfl, ho0, hb⟩; refine ⟨_, rfl, ?_⟩; have n0_ := Aside0.mk (Kd.R_elder' (by (with_reducible repeat (first | apply Kd.R_alloc | apply Kd.R_drewN | apply Kd.R_drew)); exact (Kd.R_mono (Kd.R_far (p := ⟨gb254, 3, none⟩) (Kd.R_far (p := ⟨gb254, 2, none⟩) (Kd.R_far (p := ⟨gb254, 1, none⟩) (Kd.R_far (p := ⟨gb254, 0, none⟩) (Kd.R_types HO248.out BK254.out (by decide)) (fun _ hk => hk.2) (.slice Ao15 t246.length co15)) (fun _ hk => hk.2) (.bool t249)) (fun _ hk => hk.2) (.string t250)) (fun _ hk => hk.2) (.string t251)) (fun _ h_ => h_.1))) (Kd.R_base ho0) hb); have n1_ := Aside0.mk (Kd.R_lower (Kd.R_new' ho0 (Kd.R_lt (by (with_reducible repeat (first | apply Kd.R_alloc | apply Kd.R_drewN | apply Kd.R_drew)); exact (Kd.R_mono (Kd.R_far (p := ⟨gb254, 3, none⟩) (Kd.R_far (p := ⟨gb254, 2, none⟩) (Kd.R_far (p := ⟨gb254, 1, none⟩) (Kd.R_far (p := ⟨gb254, 0, none⟩) (Kd.R_types HO248.out BK254.out (by decide)) (fun _ hk => hk.2) (.slice Ao15 t246.length co15)) (fun _ hk => hk.2) (.bool t249)) (fun _ hk => hk.2) (.string t250)) (fun _ hk => hk.2) (.string t251)) (fun _ h_ => h_.1))))) (below_size (by repeat (first | (with_reducible first | exact HB.out | apply below_alloc | apply pw_below_drewN | apply below_drew1 | refine below_set ?_ GE254.out) | exact HB.out)))); have n2_ := Aside0.mk (blk_below (g := gb254) (o := .cells #[.slice Ao15 t246.length co15, .bool t249, .string t250, .string t251] 25 (0, 0)) (by (with_reducible repeat (first | refine blk_drewN ?_ _ | refine blk_drew ?_ | refine blk_alloc ?_ _)); refine blk_put (cs := #[.slice Ao15 t246.length co15, .bool t249, .string t250, .string (⟨#[]⟩ : ByteArray)]) ?_ 3 _ rfl; (with_reducible repeat (first | refine blk_drewN ?_ _ | refine blk_drew ?_ | refine blk_alloc ?_ _)); refine blk_put (cs := #[.slice Ao15 t246.length co15, .bool t249, .string (⟨#[]⟩ : ByteArray), .string (⟨#[]⟩ : ByteArray)]) ?_ 2 _ rfl; (with_reducible repeat (first | refine blk_drewN ?_ _ | refine blk_drew ?_ | refine blk_alloc ?_ _)); refine blk_put (cs := #[.slice Ao15 t246.length co15, .bool false, .string (⟨#[]⟩ : ByteArray), .string (⟨#[]⟩ : ByteArray)]) ?_ 1 _ rfl; (with_reducible repeat (first | refine blk_drewN ?_ _ | refine blk_drew ?_ | refine blk_alloc ?_ _)); refine blk_put (cs := #[.slice none 0 0, .bool false, .string (⟨#[]⟩ : ByteArray), .string (⟨#[]⟩ : ByteArray)]) ?_ 0 _ rfl; (with_reducible repeat (first | refine blk_drewN ?_ _ | refine blk_drew ?_ | refine blk_alloc ?_ _)); exact BK254.out) hb); have n3_ := Aside0.mk (below_step (by repeat (first | (with_reducible first | exact HB.out | apply below_alloc | apply pw_below_drewN | apply below_drew1 | refine below_set ?_ GE254.out) | exact HB.out)) hb); clear HO248; clear BK254; clear HB; have HO248 := n0_; have HO257 := n1_; have BK254 := n2_; have HB := n3_; clear n0_ n1_ n2_ n3_; (try clear hb); (try clear hb2); (try clear hk); (try clear hi); (try clear ho0)) | ((with_reducible refine gate_dst (N := 12) rfl ?_); (try (refine gate_guard (by rfl) ?_; dsimp only)); refine box_event ?hg (N := 12) ?hd (cs := #[.slice none 0 0, .bool false, .string (⟨#[]⟩ : ByteArray), .string (⟨#[]⟩ : ByteArray)]) (t := 25) ?hr ?_; (case hd => rfl); (case hg => rfl); (case hr => first | (go_simp; done) | (go_simp; rfl)); intro gb263 hg w18 hbox hb; have n0_ := Aside0.mk (Kd.R_below (by (with_reducible repeat (first | apply Kd.R_alloc | apply Kd.R_drewN | apply Kd.R_drew)); exact HO248.out) hb); have n1_ := Aside0.mk (Kd.R_below (by (with_reducible repeat (first | apply Kd.R_alloc | apply Kd.R_drewN | apply Kd.R_drew)); exact HO257.out) hb); have n2_ := Aside0.mk (blk_below (g := gb254) (o := .cells #[.slice Ao15 t246.length co15, .bool t249, .string t250, .string t251] 25 (0, 0)) (by (with_reducible repeat (first | refine blk_drewN ?_ _ | refine blk_drew ?_ | refine blk_alloc ?_ _)); exact BK254.out) hb); have n3_ := Aside0.mk (below_step (by repeat (first | (with_reducible first | exact HB.out | apply below_alloc | apply pw_below_drewN | apply below_drew1 | refine below_set ?_ GE254.out) | exact HB.out)) hb); have n4_ := Aside0.mk (hbox); have n5_ := Aside0.mk ((by rw [hg]; exact (below_size (by repeat (first | (with_reducible first | exact HB.out | apply below_alloc | apply pw_below_drewN | apply below_drew1 | refine below_set ?_ GE254.out) | exact HB.out))) : w.heap.size ≤ gb263)); have n6_ := Aside0.mk ((by rw [hg]; exact (below_size (by repeat (first | (with_reducible first | exact HB.out | apply below_alloc | apply pw_below_drewN | apply below_drew1 | refine below_set ?_ GE254.out) | exact HB.out))) : w.heap.size ≤ gb263)); have n7_ := Aside0.mk ((by rw [hg]; exact Nat.ne_of_lt (blk_lt (g := gb254) (o := .cells #[.slice Ao15 t246.length co15, .bool t249, .string t250, .string t251] 25 (0, 0)) (by (with_reducible repeat (first | refine blk_drewN ?_ _ | refine blk_drew ?_ | refine blk_alloc ?_ _)); exact BK254.out)) : gb254 ≠ gb263)); have n8_ := Aside0.mk ((by rw [hg]; exact Nat.ne_of_gt (blk_lt (g := gb254) (o := .cells #[.slice Ao15 t246.length co15, .bool t249, .string t250, .string t251] 25 (0, 0)) (by (with_reducible repeat (first | refine blk_drewN ?_ _ | refine blk_drew ?_ | refine blk_alloc ?_ _)); exact BK254.out)) : gb263 ≠ gb254)); clear HO248; clear HO257; clear BK254; clear HB; have HO248 := n0_; have HO257 := n1_; have BK254 := n2_; have HB := n3_; have BK263 := n4_; have GW263 := n5_; have GE263 := n6_; have NB254_263 := n7_; have NB263_254 := n8_; clear n0_ n1_ n2_ n3_ n4_ n5_ n6_ n7_ n8_; clear hb hbox hg; obtain ⟨Ao19, co19, eo19⟩ := Kd.R_slice HO257.out; subst eo19; have hnb20 := NB263_254.out; have hnc20 := NB254_263.out; have hcz21_0 : w18.cell? ⟨gb263, 0, none⟩ = some (.slice none 0 0) := (blk_cell BK263.out 0).trans rfl; have hcz21_1 : w18.cell? ⟨gb263, 1, none⟩ = some (.bool false) := (blk_cell BK263.out 1).trans rfl; have hcz21_2 : w18.cell? ⟨gb263, 2, none⟩ = some (.string (⟨#[]⟩ : ByteArray)) := (blk_cell BK263.out 2).trans rfl; have hcz21_3 : w18.cell? ⟨gb263, 3, none⟩ = some (.string (⟨#[]⟩ : ByteArray)) := (blk_cell BK263.out 3).trans rfl; have hfz21_0 := blk_frozen BK263.out 0; have hfz21_1 := blk_frozen BK263.out 1; have hfz21_2 := blk_frozen BK263.out 2; have hfz21_3 := blk_frozen BK263.out 3))
    (try simp only [Act.put, List.setIfInBounds_toArray, List.set_cons_zero, List.set_cons_succ])
    go_cut [52] (fun v52 wc => ∃ (kq : Nat) (x52_11 : Bool), v52 = .bool x52_11 ∧ Aside0 (laws_FnVersionOrder.j1 kq t244 a1 t245 a3 t252 t261 x52_11 t246 t249 t250 t251 t255 t258 t259 t260 = some r) ∧ Aside0 (kq ≤ kj4) ∧ Aside0 (Kd.R (Kd.int .u64) 36 wc w.heap.size (fun k_ => some k_ ≠ ((.slice Ao19 t255.length co19) : Value).ownBlock) (.slice Ao15 t246.length co15) t246) ∧ Aside0 (Kd.R (Kd.int .u64) 36 wc w.heap.size (fun k_ => some k_ ≠ ((.slice Ao15 t246.length co15) : Value).ownBlock) (.slice Ao19 t255.length co19) t255) ∧ Aside0 (wc.heap[gb254]? = some (.cells #[(.slice Ao15 t246.length co15), .bool t249, .string t250, .string t251] 25 (0, 0))) ∧ Aside0 (wc.heap[gb263]? = some (.cells #[(.slice Ao19 t255.length co19), .bool t258, .string t259, .string t260] 25 (0, 0))) ∧ Aside0 (Below w.heap.size w wc))
    case first =>
     have H := HC12.out
     clear HC12
     by_cases c22 : t253 = true
     ·subst c22
      have H1 : (laws_FnVersionOrder.j1 kj4 t244 a1 t245 a3 t252 t261 (!t262) t246 t249 t250 t251 t255 t258 t259 t260) = some r := by rw [if_pos rfl] at H; exact H
      clear H
      have H := H1
      clear H1
      have H' := Aside0.mk H
      clear H
      go_wp2
      go_meet
      case rel => exact ⟨_, (!t262), (by first | rfl | (simp; done) | (simp [*]; done)), H', ⟨by have := HJ4.out; first | omega | exact Nat.le_refl _⟩, ⟨by (with_reducible repeat (first | apply Kd.R_alloc | apply Kd.R_drewN | apply Kd.R_drew)); exact Kd.R_mono (Kd.R_far (p := ⟨gb263, 3, none⟩) (Kd.R_far (p := ⟨gb263, 2, none⟩) (Kd.R_far (p := ⟨gb263, 1, none⟩) (Kd.R_far (p := ⟨gb263, 0, none⟩) (Kd.R_types HO248.out BK263.out (by decide)) (fun _ hk => hk.2) (.slice Ao19 t255.length co19)) (fun _ hk => hk.2) (.bool t258)) (fun _ hk => hk.2) (.string t259)) (fun _ hk => hk.2) (.string t260)) (fun _ hk => hk.1.2)⟩, ⟨by (with_reducible repeat (first | apply Kd.R_alloc | apply Kd.R_drewN | apply Kd.R_drew)); exact Kd.R_mono (Kd.R_far (p := ⟨gb263, 3, none⟩) (Kd.R_far (p := ⟨gb263, 2, none⟩) (Kd.R_far (p := ⟨gb263, 1, none⟩) (Kd.R_far (p := ⟨gb263, 0, none⟩) (Kd.R_types HO257.out BK263.out (by decide)) (fun _ hk => hk.2) (.slice Ao19 t255.length co19)) (fun _ hk => hk.2) (.bool t258)) (fun _ hk => hk.2) (.string t259)) (fun _ hk => hk.2) (.string t260)) (fun _ hk => hk.1.2)⟩, ⟨by (with_reducible repeat (first | refine blk_drewN ?_ _ | refine blk_drew ?_ | refine blk_alloc ?_ _)); refine blk_far ?_ NB254_263.out _; (with_reducible repeat (first | refine blk_drewN ?_ _ | refine blk_drew ?_ | refine blk_alloc ?_ _)); refine blk_far ?_ NB254_263.out _; (with_reducible repeat (first | refine blk_drewN ?_ _ | refine blk_drew ?_ | refine blk_alloc ?_ _)); refine blk_far ?_ NB254_263.out _; (with_reducible repeat (first | refine blk_drewN ?_ _ | refine blk_drew ?_ | refine blk_alloc ?_ _)); refine blk_far ?_ NB254_263.out _; (with_reducible repeat (first | refine blk_drewN ?_ _ | refine blk_drew ?_ | refine blk_alloc ?_ _)); exact BK254.out⟩, ⟨by (with_reducible repeat (first | refine blk_drewN ?_ _ | refine blk_drew ?_ | refine blk_alloc ?_ _)); refine blk_put (cs := #[.slice Ao19 t255.length co19, .bool t258, .string t259, .string (⟨#[]⟩ : ByteArray)]) ?_ 3 _ rfl; (with_reducible repeat (first | refine blk_drewN ?_ _ | refine blk_drew ?_ | refine blk_alloc ?_ _)); refine blk_put (cs := #[.slice Ao19 t255.length co19, .bool t258, .string (⟨#[]⟩ : ByteArray), .string (⟨#[]⟩ : ByteArray)]) ?_ 2 _ rfl; (with_reducible repeat (first | refine blk_drewN ?_ _ | refine blk_drew ?_ | refine blk_alloc ?_ _)); refine blk_put (cs := #[.slice Ao19 t255.length co19, .bool false, .string (⟨#[]⟩ : ByteArray), .string (⟨#[]⟩ : ByteArray)]) ?_ 1 _ rfl; (with_reducible repeat (first | refine blk_drewN ?_ _ | refine blk_drew ?_ | refine blk_alloc ?_ _)); refine blk_put (cs := #[.slice none 0 0, .bool false, .string (⟨#[]⟩ : ByteArray), .string (⟨#[]⟩ : ByteArray)]) ?_ 0 _ rfl; (with_reducible repeat (first | refine blk_drewN ?_ _ | refine blk_drew ?_ | refine blk_alloc ?_ _)); exact BK263.out⟩, ⟨by repeat (first | (with_reducible first | exact HB.out | apply below_alloc | apply pw_below_drewN | apply below_drew1 | refine below_set ?_ GE254.out | refine below_set ?_ GE263.out) | exact HB.out)⟩⟩
     ·replace c22 := Bool.eq_false_iff.mpr c22
      subst c22
      have H1 : (laws_FnVersionOrder.j1 kj4 t244 a1 t245 a3 t252 t261 true t246 t249 t250 t251 t255 t258 t259 t260) = some r := by rw [if_neg (show ¬ (false = true) by decide)] at H; exact H
      clear H
      have H := H1
      clear H1
      have H' := Aside0.mk H
      clear H
      go_wp2
      go_meet
      case rel => exact ⟨_, (true), (by first | rfl | (simp; done) | (simp [*]; done)), H', ⟨by have := HJ4.out; first | omega | exact Nat.le_refl _⟩, ⟨by (with_reducible repeat (first | apply Kd.R_alloc | apply Kd.R_drewN | apply Kd.R_drew)); exact Kd.R_mono (Kd.R_far (p := ⟨gb263, 3, none⟩) (Kd.R_far (p := ⟨gb263, 2, none⟩) (Kd.R_far (p := ⟨gb263, 1, none⟩) (Kd.R_far (p := ⟨gb263, 0, none⟩) (Kd.R_types HO248.out BK263.out (by decide)) (fun _ hk => hk.2) (.slice Ao19 t255.length co19)) (fun _ hk => hk.2) (.bool t258)) (fun _ hk => hk.2) (.string t259)) (fun _ hk => hk.2) (.string t260)) (fun _ hk => hk.1.2)⟩, ⟨by (with_reducible repeat (first | apply Kd.R_alloc | apply Kd.R_drewN | apply Kd.R_drew)); exact Kd.R_mono (Kd.R_far (p := ⟨gb263, 3, none⟩) (Kd.R_far (p := ⟨gb263, 2, none⟩) (Kd.R_far (p := ⟨gb263, 1, none⟩) (Kd.R_far (p := ⟨gb263, 0, none⟩) (Kd.R_types HO257.out BK263.out (by decide)) (fun _ hk => hk.2) (.slice Ao19 t255.length co19)) (fun _ hk => hk.2) (.bool t258)) (fun _ hk => hk.2) (.string t259)) (fun _ hk => hk.2) (.string t260)) (fun _ hk => hk.1.2)⟩, ⟨by (with_reducible repeat (first | refine blk_drewN ?_ _ | refine blk_drew ?_ | refine blk_alloc ?_ _)); refine blk_far ?_ NB254_263.out _; (with_reducible repeat (first | refine blk_drewN ?_ _ | refine blk_drew ?_ | refine blk_alloc ?_ _)); refine blk_far ?_ NB254_263.out _; (with_reducible repeat (first | refine blk_drewN ?_ _ | refine blk_drew ?_ | refine blk_alloc ?_ _)); refine blk_far ?_ NB254_263.out _; (with_reducible repeat (first | refine blk_drewN ?_ _ | refine blk_drew ?_ | refine blk_alloc ?_ _)); refine blk_far ?_ NB254_263.out _; (with_reducible repeat (first | refine blk_drewN ?_ _ | refine blk_drew ?_ | refine blk_alloc ?_ _)); exact BK254.out⟩, ⟨by (with_reducible repeat (first | refine blk_drewN ?_ _ | refine blk_drew ?_ | refine blk_alloc ?_ _)); refine blk_put (cs := #[.slice Ao19 t255.length co19, .bool t258, .string t259, .string (⟨#[]⟩ : ByteArray)]) ?_ 3 _ rfl; (with_reducible repeat (first | refine blk_drewN ?_ _ | refine blk_drew ?_ | refine blk_alloc ?_ _)); refine blk_put (cs := #[.slice Ao19 t255.length co19, .bool t258, .string (⟨#[]⟩ : ByteArray), .string (⟨#[]⟩ : ByteArray)]) ?_ 2 _ rfl; (with_reducible repeat (first | refine blk_drewN ?_ _ | refine blk_drew ?_ | refine blk_alloc ?_ _)); refine blk_put (cs := #[.slice Ao19 t255.length co19, .bool false, .string (⟨#[]⟩ : ByteArray), .string (⟨#[]⟩ : ByteArray)]) ?_ 1 _ rfl; (with_reducible repeat (first | refine blk_drewN ?_ _ | refine blk_drew ?_ | refine blk_alloc ?_ _)); refine blk_put (cs := #[.slice none 0 0, .bool false, .string (⟨#[]⟩ : ByteArray), .string (⟨#[]⟩ : ByteArray)]) ?_ 0 _ rfl; (with_reducible repeat (first | refine blk_drewN ?_ _ | refine blk_drew ?_ | refine blk_alloc ?_ _)); exact BK263.out⟩, ⟨by repeat (first | (with_reducible first | exact HB.out | apply below_alloc | apply pw_below_drewN | apply below_drew1 | refine below_set ?_ GE254.out | refine below_set ?_ GE263.out) | exact HB.out)⟩⟩
    case rest =>
     clear HC12
     try clear c2
     try clear p2
     try clear c4
     try clear c6
     try clear c6b0
     try clear c6b1
     try clear c7
     try clear c8
     try clear c9
     try clear c20
     try clear c22
     try clear hcz16_0
     try clear hcz16_1
     try clear hcz16_2
     try clear hcz16_3
     try clear hcz21_0
     try clear hcz21_1
     try clear hcz21_2
     try clear hcz21_3
     try clear hfz16_0
     try clear hfz16_1
     try clear hfz16_2
     try clear hfz16_3
     try clear hfz21_0
     try clear hfz21_1
     try clear hfz21_2
     try clear hfz21_3
     try clear p2
     obtain ⟨kq, x52_11, rfl, HA, HJ11, HO_255000, HO_264000, BK254, BK263, HB⟩ := hcut
     cases kq with
     | zero => exact absurd HA.out (by simp [laws_FnVersionOrder.j1])
     | succ kj11 =>
      have H := HA.out
      clear HA
      simp only [laws_FnVersionOrder.j1] at H
      by_cases c23 : x52_11 = true
      ·subst c23
       have H1 : (some true) = some r := by rw [if_pos rfl] at H; exact H
       clear H
       have H := H1
       clear H1
       obtain rfl := Option.some.inj H
       go_wp2
       go_ret
       exact ⟨by first | rfl | (simp [errW_none, errW_some] <;> rfl) | (simp [*, errW_none, errW_some] <;> rfl), by repeat (first | (with_reducible first | exact HB.out | apply below_alloc | apply pw_below_drewN | apply below_drew1 | refine below_set ?_ GE254.out | refine below_set ?_ GE263.out) | exact HB.out)⟩
      ·replace c23 := Bool.eq_false_iff.mpr c23
       subst c23
       have H1 : ((impl_VersionOrder.f kj11 t244 a1 t245 a3).bind fun bt264 => (if t252 = true then (if (bt264.2.2.2.2 != t261) = true then (laws_FnVersionOrder.j2 kj11 t252 t261 bt264.1 bt264.2.1 bt264.2.2.1 bt264.2.2.2.1 bt264.2.2.2.2 true t246 t249 t250 t251 t255 t258 t259 t260) else (laws_FnVersionOrder.j2 kj11 t252 t261 bt264.1 bt264.2.1 bt264.2.2.1 bt264.2.2.2.1 bt264.2.2.2.2 (!bt264.2.2.2.2) t246 t249 t250 t251 t255 t258 t259 t260)) else (if (bt264.2.2.2.2 != false) = true then (laws_FnVersionOrder.j2 kj11 t252 t261 bt264.1 bt264.2.1 bt264.2.2.1 bt264.2.2.2.1 bt264.2.2.2.2 true t246 t249 t250 t251 t255 t258 t259 t260) else (laws_FnVersionOrder.j2 kj11 t252 t261 bt264.1 bt264.2.1 bt264.2.2.1 bt264.2.2.2.1 bt264.2.2.2.2 (!bt264.2.2.2.2) t246 t249 t250 t251 t255 t258 t259 t260)))) = some r := by rw [if_neg (show ¬ (false = true) by decide)] at H; exact H
       clear H
       have H := H1
       clear H1
       replace H := Option.bind_eq_some_iff.mp H
       obtain ⟨⟨t264, t265, t266, t267, t268⟩, A240, H⟩ := H
       replace H : (if t252 = true then (if (t268 != t261) = true then (laws_FnVersionOrder.j2 kj11 t252 t261 t264 t265 t266 t267 t268 true t246 t249 t250 t251 t255 t258 t259 t260) else (laws_FnVersionOrder.j2 kj11 t252 t261 t264 t265 t266 t267 t268 (!t268) t246 t249 t250 t251 t255 t258 t259 t260)) else (if (t268 != false) = true then (laws_FnVersionOrder.j2 kj11 t252 t261 t264 t265 t266 t267 t268 true t246 t249 t250 t251 t255 t258 t259 t260) else (laws_FnVersionOrder.j2 kj11 t252 t261 t264 t265 t266 t267 t268 (!t268) t246 t249 t250 t251 t255 t258 t259 t260))) = some r := H
       have A24 := Aside0.mk A240
       clear A240
       have HC25 := Aside0.mk H
       clear H
       go_upto_region 9 with (first | ((with_reducible refine gate_callee (f := 13) rfl ?_); refine goesL_ (some 58) rfl rfl Tryd.func13 (by kernel_rfl) rfl #[.int .i64 t244, .string a1, .int .i64 t245, .string a3] rfl (by (try simp only [List.map_toArray, List.map_cons, List.map_nil]); first | done | rfl | (simp only [List.length_drop, List.length_take]; rfl)) ?_; (with_reducible refine (impl_VersionOrder.calls kj11 t244 a1 t245 a3 t264 t265 t266 t267 t268 _ A24.out).mono ?_); rintro e w26 ⟨rfl, hb⟩; refine ⟨_, rfl, ?_⟩; have n0_ := Aside0.mk (Kd.R_below (by (with_reducible repeat (first | apply Kd.R_alloc | apply Kd.R_drewN | apply Kd.R_drew)); exact HO_255000.out) hb); have n1_ := Aside0.mk (Kd.R_below (by (with_reducible repeat (first | apply Kd.R_alloc | apply Kd.R_drewN | apply Kd.R_drew)); exact HO_264000.out) hb); have n2_ := Aside0.mk (blk_below (g := gb254) (o := .cells #[.slice Ao15 t246.length co15, .bool t249, .string t250, .string t251] 25 (0, 0)) (by (with_reducible repeat (first | refine blk_drewN ?_ _ | refine blk_drew ?_ | refine blk_alloc ?_ _)); exact BK254.out) hb); have n3_ := Aside0.mk (blk_below (g := gb263) (o := .cells #[.slice Ao19 t255.length co19, .bool t258, .string t259, .string t260] 25 (0, 0)) (by (with_reducible repeat (first | refine blk_drewN ?_ _ | refine blk_drew ?_ | refine blk_alloc ?_ _)); exact BK263.out) hb); have n4_ := Aside0.mk (below_step (by repeat (first | (with_reducible first | exact HB.out | apply below_alloc | apply pw_below_drewN | apply below_drew1 | refine below_set ?_ GE254.out | refine below_set ?_ GE263.out) | exact HB.out)) hb); clear HO_255000; clear HO_264000; clear BK254; clear BK263; clear HB; have HO_255000 := n0_; have HO_264000 := n1_; have BK254 := n2_; have BK263 := n3_; have HB := n4_; clear n0_ n1_ n2_ n3_ n4_; (try clear hb); (try clear hb2); (try clear hk); (try clear hi)))
       (try simp only [Act.put, List.setIfInBounds_toArray, List.set_cons_zero, List.set_cons_succ])
       go_cut [73] (fun v73 wc => ∃ (kq : Nat) (x73_24 : Bool), v73 = .bool x73_24 ∧ Aside0 (laws_FnVersionOrder.j2 kq t252 t261 t264 t265 t266 t267 t268 x73_24 t246 t249 t250 t251 t255 t258 t259 t260 = some r) ∧ Aside0 (kq ≤ kj11) ∧ Aside0 (Kd.R (Kd.int .u64) 36 wc w.heap.size (fun k_ => some k_ ≠ ((.slice Ao19 t255.length co19) : Value).ownBlock) (.slice Ao15 t246.length co15) t246) ∧ Aside0 (Kd.R (Kd.int .u64) 36 wc w.heap.size (fun k_ => some k_ ≠ ((.slice Ao15 t246.length co15) : Value).ownBlock) (.slice Ao19 t255.length co19) t255) ∧ Aside0 (wc.heap[gb254]? = some (.cells #[(.slice Ao15 t246.length co15), .bool t249, .string t250, .string t251] 25 (0, 0))) ∧ Aside0 (wc.heap[gb263]? = some (.cells #[(.slice Ao19 t255.length co19), .bool t258, .string t259, .string t260] 25 (0, 0))) ∧ Aside0 (Below w.heap.size w wc))
       case first =>
        have H := HC25.out
        clear HC25
        by_cases c27 : t252 = true
        ·subst c27
         have H1 : (if (t268 != t261) = true then (laws_FnVersionOrder.j2 kj11 true t261 t264 t265 t266 t267 t268 true t246 t249 t250 t251 t255 t258 t259 t260) else (laws_FnVersionOrder.j2 kj11 true t261 t264 t265 t266 t267 t268 (!t268) t246 t249 t250 t251 t255 t258 t259 t260)) = some r := by rw [if_pos rfl] at H; exact H
         clear H
         have H := H1
         clear H1
         by_cases c28 : (t268 != t261) = true
         ·rw [if_pos c28] at H
          have c28b0 : (t268 != t261) = true := c28
          (try (have c28b1 : decide (t268 = t261) = false := by simpa using c28))
          (try (have c28b2 : (t268 == t261) = false := by simpa using c28))
          (try (have c28b3 : ¬ (t268 = t261) := by simpa using c28))
          clear c28
          (first | rw [c28b0] | (simp only [i64_w, i32_w]; rw [c28b0]) | skip)
          have H' := Aside0.mk H
          clear H
          go_wp2
          go_meet
          case rel => exact ⟨_, (true), (by first | rfl | (simp; done) | (simp [*]; done)), H', ⟨by have := HJ4.out; have := HJ11.out; first | omega | exact Nat.le_refl _⟩, ⟨by (with_reducible repeat (first | apply Kd.R_alloc | apply Kd.R_drewN | apply Kd.R_drew)); exact HO_255000.out⟩, ⟨by (with_reducible repeat (first | apply Kd.R_alloc | apply Kd.R_drewN | apply Kd.R_drew)); exact HO_264000.out⟩, ⟨by (with_reducible repeat (first | refine blk_drewN ?_ _ | refine blk_drew ?_ | refine blk_alloc ?_ _)); exact BK254.out⟩, ⟨by (with_reducible repeat (first | refine blk_drewN ?_ _ | refine blk_drew ?_ | refine blk_alloc ?_ _)); exact BK263.out⟩, ⟨by repeat (first | (with_reducible first | exact HB.out | apply below_alloc | apply pw_below_drewN | apply below_drew1 | refine below_set ?_ GE254.out | refine below_set ?_ GE263.out) | exact HB.out)⟩⟩
         ·rw [if_neg c28] at H
          have c28b0 : (t268 != t261) = false := by simpa using c28
          (try (have c28b1 : decide (t268 = t261) = true := by simpa using c28))
          (try (have c28b2 : (t268 == t261) = true := by simpa using c28))
          clear c28
          (first | rw [c28b0] | (simp only [i64_w, i32_w]; rw [c28b0]) | skip)
          have H' := Aside0.mk H
          clear H
          go_wp2
          go_meet
          case rel => exact ⟨_, (!t268), (by first | rfl | (simp; done) | (simp [*]; done)), H', ⟨by have := HJ4.out; have := HJ11.out; first | omega | exact Nat.le_refl _⟩, ⟨by (with_reducible repeat (first | apply Kd.R_alloc | apply Kd.R_drewN | apply Kd.R_drew)); exact HO_255000.out⟩, ⟨by (with_reducible repeat (first | apply Kd.R_alloc | apply Kd.R_drewN | apply Kd.R_drew)); exact HO_264000.out⟩, ⟨by (with_reducible repeat (first | refine blk_drewN ?_ _ | refine blk_drew ?_ | refine blk_alloc ?_ _)); exact BK254.out⟩, ⟨by (with_reducible repeat (first | refine blk_drewN ?_ _ | refine blk_drew ?_ | refine blk_alloc ?_ _)); exact BK263.out⟩, ⟨by repeat (first | (with_reducible first | exact HB.out | apply below_alloc | apply pw_below_drewN | apply below_drew1 | refine below_set ?_ GE254.out | refine below_set ?_ GE263.out) | exact HB.out)⟩⟩
        ·replace c27 := Bool.eq_false_iff.mpr c27
         subst c27
         have H1 : (if (t268 != false) = true then (laws_FnVersionOrder.j2 kj11 false t261 t264 t265 t266 t267 t268 true t246 t249 t250 t251 t255 t258 t259 t260) else (laws_FnVersionOrder.j2 kj11 false t261 t264 t265 t266 t267 t268 (!t268) t246 t249 t250 t251 t255 t258 t259 t260)) = some r := by rw [if_neg (show ¬ (false = true) by decide)] at H; exact H
         clear H
         have H := H1
         clear H1
         by_cases c29 : (t268 != false) = true
         ·rw [if_pos c29] at H
          have c29b0 : (t268 != false) = true := c29
          (try (have c29b1 : decide (t268 = false) = false := by simpa using c29))
          (try (have c29b2 : (t268 == false) = false := by simpa using c29))
          (try (have c29b3 : ¬ (t268 = false) := by simpa using c29))
          clear c29
          have H' := Aside0.mk H
          clear H
          go_wp2
          go_meet
          case rel => exact ⟨_, (true), (by first | rfl | (simp; done) | (simp [*]; done)), H', ⟨by have := HJ4.out; have := HJ11.out; first | omega | exact Nat.le_refl _⟩, ⟨by (with_reducible repeat (first | apply Kd.R_alloc | apply Kd.R_drewN | apply Kd.R_drew)); exact HO_255000.out⟩, ⟨by (with_reducible repeat (first | apply Kd.R_alloc | apply Kd.R_drewN | apply Kd.R_drew)); exact HO_264000.out⟩, ⟨by (with_reducible repeat (first | refine blk_drewN ?_ _ | refine blk_drew ?_ | refine blk_alloc ?_ _)); exact BK254.out⟩, ⟨by (with_reducible repeat (first | refine blk_drewN ?_ _ | refine blk_drew ?_ | refine blk_alloc ?_ _)); exact BK263.out⟩, ⟨by repeat (first | (with_reducible first | exact HB.out | apply below_alloc | apply pw_below_drewN | apply below_drew1 | refine below_set ?_ GE254.out | refine below_set ?_ GE263.out) | exact HB.out)⟩⟩
         ·rw [if_neg c29] at H
          have c29b0 : (t268 != false) = false := by simpa using c29
          (try (have c29b1 : decide (t268 = false) = true := by simpa using c29))
          (try (have c29b2 : (t268 == false) = true := by simpa using c29))
          clear c29
          have H' := Aside0.mk H
          clear H
          go_wp2
          go_meet
          case rel => exact ⟨_, (!t268), (by first | rfl | (simp; done) | (simp [*]; done)), H', ⟨by have := HJ4.out; have := HJ11.out; first | omega | exact Nat.le_refl _⟩, ⟨by (with_reducible repeat (first | apply Kd.R_alloc | apply Kd.R_drewN | apply Kd.R_drew)); exact HO_255000.out⟩, ⟨by (with_reducible repeat (first | apply Kd.R_alloc | apply Kd.R_drewN | apply Kd.R_drew)); exact HO_264000.out⟩, ⟨by (with_reducible repeat (first | refine blk_drewN ?_ _ | refine blk_drew ?_ | refine blk_alloc ?_ _)); exact BK254.out⟩, ⟨by (with_reducible repeat (first | refine blk_drewN ?_ _ | refine blk_drew ?_ | refine blk_alloc ?_ _)); exact BK263.out⟩, ⟨by repeat (first | (with_reducible first | exact HB.out | apply below_alloc | apply pw_below_drewN | apply below_drew1 | refine below_set ?_ GE254.out | refine below_set ?_ GE263.out) | exact HB.out)⟩⟩
       case rest =>
        clear HC25
        try clear c1
        try clear c2
        try clear p2
        try clear c4
        try clear c6
        try clear c6b0
        try clear c6b1
        try clear c7
        try clear c8
        try clear c9
        try clear c13
        try clear c20
        try clear c22
        try clear c23
        try clear c27
        try clear c28
        try clear c28b0
        try clear c28b1
        try clear c28b2
        try clear c29
        try clear c29b0
        try clear c29b1
        try clear c29b2
        try clear hcz16_0
        try clear hcz16_1
        try clear hcz16_2
        try clear hcz16_3
        try clear hcz21_0
        try clear hcz21_1
        try clear hcz21_2
        try clear hcz21_3
        try clear hfz16_0
        try clear hfz16_1
        try clear hfz16_2
        try clear hfz16_3
        try clear hfz21_0
        try clear hfz21_1
        try clear hfz21_2
        try clear hfz21_3
        try clear p2
        obtain ⟨kq, x73_24, rfl, HA, HJ24, HO_255000, HO_264000, BK254, BK263, HB⟩ := hcut
        cases kq with
        | zero => exact absurd HA.out (by simp [laws_FnVersionOrder.j2])
        | succ kj24 =>
         have H := HA.out
         clear HA
         simp only [laws_FnVersionOrder.j2] at H
         by_cases c30 : x73_24 = true
         ·subst c30
          have H1 : (if t252 = true then (some (t268 == t261)) else (some (t268 == false))) = some r := by rw [if_pos rfl] at H; exact H
          clear H
          have H := H1
          clear H1
          by_cases c31 : t252 = true
          ·subst c31
           have H1 : (some (t268 == t261)) = some r := by rw [if_pos rfl] at H; exact H
           clear H
           have H := H1
           clear H1
           obtain rfl := Option.some.inj H
           go_wp2
           go_ret
           exact ⟨by first | rfl | (simp [errW_none, errW_some] <;> rfl) | (simp [*, errW_none, errW_some] <;> rfl), by repeat (first | (with_reducible first | exact HB.out | apply below_alloc | apply pw_below_drewN | apply below_drew1 | refine below_set ?_ GE254.out | refine below_set ?_ GE263.out) | exact HB.out)⟩
          ·replace c31 := Bool.eq_false_iff.mpr c31
           subst c31
           have H1 : (some (t268 == false)) = some r := by rw [if_neg (show ¬ (false = true) by decide)] at H; exact H
           clear H
           have H := H1
           clear H1
           obtain rfl := Option.some.inj H
           go_wp2
           go_ret
           exact ⟨by first | rfl | (simp [errW_none, errW_some] <;> rfl) | (simp [*, errW_none, errW_some] <;> rfl), by repeat (first | (with_reducible first | exact HB.out | apply below_alloc | apply pw_below_drewN | apply below_drew1 | refine below_set ?_ GE254.out | refine below_set ?_ GE263.out) | exact HB.out)⟩
         ·replace c30 := Bool.eq_false_iff.mpr c30
          subst c30
          have H1 : ((spec_VerAsked.f kj24 t246 t249 t250 t251 t255 t258 t259 t260).bind fun t269 => (if t269 = true then ((spec_Versions.f kj24 t246 t249 t250 t251 t255 t258 t259 t260).bind fun t270 => (if (t264 == (decide (t270 ≥ 0))) = true then (if (t265 == (decide (t270 < 0))) = true then (if (t266 == (decide (t270 > 0))) = true then (some (t267 == (t270 == 0))) else (some false)) else (some false)) else (some false))) else (some true))) = some r := by rw [if_neg (show ¬ (false = true) by decide)] at H; exact H
          clear H
          have H := H1
          clear H1
          replace H := Option.bind_eq_some_iff.mp H
          obtain ⟨t269, A320, H⟩ := H
          replace H : (if t269 = true then ((spec_Versions.f kj24 t246 t249 t250 t251 t255 t258 t259 t260).bind fun t270 => (if (t264 == (decide (t270 ≥ 0))) = true then (if (t265 == (decide (t270 < 0))) = true then (if (t266 == (decide (t270 > 0))) = true then (some (t267 == (t270 == 0))) else (some false)) else (some false)) else (some false))) else (some true)) = some r := H
          have A32 := Aside0.mk A320
          clear A320
          by_cases c33 : t269 = true
          ·subst c33
           have H1 : ((spec_Versions.f kj24 t246 t249 t250 t251 t255 t258 t259 t260).bind fun t270 => (if (t264 == (decide (t270 ≥ 0))) = true then (if (t265 == (decide (t270 < 0))) = true then (if (t266 == (decide (t270 > 0))) = true then (some (t267 == (t270 == 0))) else (some false)) else (some false)) else (some false))) = some r := by rw [if_pos rfl] at H; exact H
           clear H
           have H := H1
           clear H1
           replace H := Option.bind_eq_some_iff.mp H
           obtain ⟨t270, A340, H⟩ := H
           replace H : (if (t264 == (decide (t270 ≥ 0))) = true then (if (t265 == (decide (t270 < 0))) = true then (if (t266 == (decide (t270 > 0))) = true then (some (t267 == (t270 == 0))) else (some false)) else (some false)) else (some false)) = some r := H
           have A34 := Aside0.mk A340
           clear A340
           by_cases c35 : (t264 == (decide (t270 ≥ 0))) = true
           ·rw [if_pos c35] at H
            have c35b0 : (t264 == (decide (t270 ≥ 0))) = true := c35
            (try (have c35b1 : decide (t264 = (decide (t270 ≥ 0))) = true := by simpa using c35))
            (try (have c35b2 : (t264 == (decide (t270 ≥ 0))) = true := by simpa using c35))
            clear c35
            by_cases c36 : (t265 == (decide (t270 < 0))) = true
            ·rw [if_pos c36] at H
             have c36b0 : (t265 == (decide (t270 < 0))) = true := c36
             (try (have c36b1 : decide (t265 = (decide (t270 < 0))) = true := by simpa using c36))
             (try (have c36b2 : (t265 == (decide (t270 < 0))) = true := by simpa using c36))
             clear c36
             by_cases c37 : (t266 == (decide (t270 > 0))) = true
             ·rw [if_pos c37] at H
              have c37b0 : (t266 == (decide (t270 > 0))) = true := c37
              (try (have c37b1 : decide (t266 = (decide (t270 > 0))) = true := by simpa using c37))
              (try (have c37b2 : (t266 == (decide (t270 > 0))) = true := by simpa using c37))
              clear c37
              obtain rfl := Option.some.inj H
              have hnb38 := NB254_263.out
              have hnc38 := NB263_254.out
              have hcz39_0 : wc.cell? ⟨gb254, 0, none⟩ = some (.slice Ao15 t246.length co15) := (blk_cell BK254.out 0).trans rfl
              have hcz39_1 : wc.cell? ⟨gb254, 1, none⟩ = some (.bool t249) := (blk_cell BK254.out 1).trans rfl
              have hcz39_2 : wc.cell? ⟨gb254, 2, none⟩ = some (.string t250) := (blk_cell BK254.out 2).trans rfl
              have hcz39_3 : wc.cell? ⟨gb254, 3, none⟩ = some (.string t251) := (blk_cell BK254.out 3).trans rfl
              have hfz39_0 := blk_frozen BK254.out 0
              have hfz39_1 := blk_frozen BK254.out 1
              have hfz39_2 := blk_frozen BK254.out 2
              have hfz39_3 := blk_frozen BK254.out 3
              have hcz40_0 : wc.cell? ⟨gb263, 0, none⟩ = some (.slice Ao19 t255.length co19) := (blk_cell BK263.out 0).trans rfl
              have hcz40_1 : wc.cell? ⟨gb263, 1, none⟩ = some (.bool t258) := (blk_cell BK263.out 1).trans rfl
              have hcz40_2 : wc.cell? ⟨gb263, 2, none⟩ = some (.string t259) := (blk_cell BK263.out 2).trans rfl
              have hcz40_3 : wc.cell? ⟨gb263, 3, none⟩ = some (.string t260) := (blk_cell BK263.out 3).trans rfl
              have hfz40_0 := blk_frozen BK263.out 0
              have hfz40_1 := blk_frozen BK263.out 1
              have hfz40_2 := blk_frozen BK263.out 2
              have hfz40_3 := blk_frozen BK263.out 3
              go_wp2_with (first | ((with_reducible refine gate_callee (f := 11) rfl ?_); refine goesL_ (some 82) rfl rfl Tryd.func11 (by kernel_rfl) rfl #[.agg #[.slice Ao15 t246.length co15, .bool t249, .string t250, .string t251], .agg #[.slice Ao19 t255.length co19, .bool t258, .string t259, .string t260]] rfl (by (try simp only [List.map_toArray, List.map_cons, List.map_nil]); first | done | rfl | (simp only [List.length_drop, List.length_take]; rfl)) ?_; (with_reducible refine (spec_VerAsked.calls kj24 _ _ t246 t249 t250 t251 _ _ t255 t258 t259 t260 true _ ?side1 ?side2 ?side3 ?side4 A32.out).mono ?_); (case side1 => repeat (first | exact (Kd.R_reads' HO_255000.out).2.2 | (with_reducible refine Kd.C_alloc ?_ _) | (with_reducible refine Kd.C_drewN ?_ _) | (with_reducible refine Kd.C_drew ?_))); (case side2 => exact (Kd.R_reads' HO_255000.out).2.1); (case side3 => repeat (first | exact (Kd.R_reads' HO_264000.out).2.2 | (with_reducible refine Kd.C_alloc ?_ _) | (with_reducible refine Kd.C_drewN ?_ _) | (with_reducible refine Kd.C_drew ?_))); (case side4 => exact (Kd.R_reads' HO_264000.out).2.1); rintro e w41 ⟨rfl, hb⟩; refine ⟨_, rfl, ?_⟩; have n0_ := Aside0.mk (Kd.R_below (by (with_reducible repeat (first | apply Kd.R_alloc | apply Kd.R_drewN | apply Kd.R_drew)); exact HO_255000.out) hb); have n1_ := Aside0.mk (Kd.R_below (by (with_reducible repeat (first | apply Kd.R_alloc | apply Kd.R_drewN | apply Kd.R_drew)); exact HO_264000.out) hb); have n2_ := Aside0.mk (blk_below (g := gb254) (o := .cells #[.slice Ao15 t246.length co15, .bool t249, .string t250, .string t251] 25 (0, 0)) (by (with_reducible repeat (first | refine blk_drewN ?_ _ | refine blk_drew ?_ | refine blk_alloc ?_ _)); exact BK254.out) hb); have n3_ := Aside0.mk (blk_below (g := gb263) (o := .cells #[.slice Ao19 t255.length co19, .bool t258, .string t259, .string t260] 25 (0, 0)) (by (with_reducible repeat (first | refine blk_drewN ?_ _ | refine blk_drew ?_ | refine blk_alloc ?_ _)); exact BK263.out) hb); have n4_ := Aside0.mk (below_step (by repeat (first | (with_reducible first | exact HB.out | apply below_alloc | apply pw_below_drewN | apply below_drew1 | refine below_set ?_ GE254.out | refine below_set ?_ GE263.out) | exact HB.out)) hb); clear HO_255000; clear HO_264000; clear BK254; clear BK263; clear HB; have HO_255000 := n0_; have HO_264000 := n1_; have BK254 := n2_; have BK263 := n3_; have HB := n4_; clear n0_ n1_ n2_ n3_ n4_; (try clear hb); (try clear hb2); (try clear hk); (try clear hi); have hcz42_0 : w41.cell? ⟨gb254, 0, none⟩ = some (.slice Ao15 t246.length co15) := (blk_cell BK254.out 0).trans rfl; have hcz42_1 : w41.cell? ⟨gb254, 1, none⟩ = some (.bool t249) := (blk_cell BK254.out 1).trans rfl; have hcz42_2 : w41.cell? ⟨gb254, 2, none⟩ = some (.string t250) := (blk_cell BK254.out 2).trans rfl; have hcz42_3 : w41.cell? ⟨gb254, 3, none⟩ = some (.string t251) := (blk_cell BK254.out 3).trans rfl; have hfz42_0 := blk_frozen BK254.out 0; have hfz42_1 := blk_frozen BK254.out 1; have hfz42_2 := blk_frozen BK254.out 2; have hfz42_3 := blk_frozen BK254.out 3; have hcz43_0 : w41.cell? ⟨gb263, 0, none⟩ = some (.slice Ao19 t255.length co19) := (blk_cell BK263.out 0).trans rfl; have hcz43_1 : w41.cell? ⟨gb263, 1, none⟩ = some (.bool t258) := (blk_cell BK263.out 1).trans rfl; have hcz43_2 : w41.cell? ⟨gb263, 2, none⟩ = some (.string t259) := (blk_cell BK263.out 2).trans rfl; have hcz43_3 : w41.cell? ⟨gb263, 3, none⟩ = some (.string t260) := (blk_cell BK263.out 3).trans rfl; have hfz43_0 := blk_frozen BK263.out 0; have hfz43_1 := blk_frozen BK263.out 1; have hfz43_2 := blk_frozen BK263.out 2; have hfz43_3 := blk_frozen BK263.out 3) | ((with_reducible refine gate_callee (f := 12) rfl ?_); refine goesL_ (some 86) rfl rfl Tryd.func12 (by kernel_rfl) rfl #[.agg #[.slice Ao15 t246.length co15, .bool t249, .string t250, .string t251], .agg #[.slice Ao19 t255.length co19, .bool t258, .string t259, .string t260]] rfl (by (try simp only [List.map_toArray, List.map_cons, List.map_nil]); first | done | rfl | (simp only [List.length_drop, List.length_take]; rfl)) ?_; (with_reducible refine (spec_Versions.calls kj24 _ _ t246 t249 t250 t251 _ _ t255 t258 t259 t260 t270 _ ?side1 ?side2 ?side3 ?side4 A34.out).mono ?_); (case side1 => repeat (first | exact (Kd.R_reads' HO_255000.out).2.2 | (with_reducible refine Kd.C_alloc ?_ _) | (with_reducible refine Kd.C_drewN ?_ _) | (with_reducible refine Kd.C_drew ?_))); (case side2 => exact (Kd.R_reads' HO_255000.out).2.1); (case side3 => repeat (first | exact (Kd.R_reads' HO_264000.out).2.2 | (with_reducible refine Kd.C_alloc ?_ _) | (with_reducible refine Kd.C_drewN ?_ _) | (with_reducible refine Kd.C_drew ?_))); (case side4 => exact (Kd.R_reads' HO_264000.out).2.1); rintro e w44 ⟨rfl, hb⟩; refine ⟨_, rfl, ?_⟩; have n0_ := Aside0.mk (Kd.R_below (by (with_reducible repeat (first | apply Kd.R_alloc | apply Kd.R_drewN | apply Kd.R_drew)); exact HO_255000.out) hb); have n1_ := Aside0.mk (Kd.R_below (by (with_reducible repeat (first | apply Kd.R_alloc | apply Kd.R_drewN | apply Kd.R_drew)); exact HO_264000.out) hb); have n2_ := Aside0.mk (blk_below (g := gb254) (o := .cells #[.slice Ao15 t246.length co15, .bool t249, .string t250, .string t251] 25 (0, 0)) (by (with_reducible repeat (first | refine blk_drewN ?_ _ | refine blk_drew ?_ | refine blk_alloc ?_ _)); exact BK254.out) hb); have n3_ := Aside0.mk (blk_below (g := gb263) (o := .cells #[.slice Ao19 t255.length co19, .bool t258, .string t259, .string t260] 25 (0, 0)) (by (with_reducible repeat (first | refine blk_drewN ?_ _ | refine blk_drew ?_ | refine blk_alloc ?_ _)); exact BK263.out) hb); have n4_ := Aside0.mk (below_step (by repeat (first | (with_reducible first | exact HB.out | apply below_alloc | apply pw_below_drewN | apply below_drew1 | refine below_set ?_ GE254.out | refine below_set ?_ GE263.out) | exact HB.out)) hb); clear HO_255000; clear HO_264000; clear BK254; clear BK263; clear HB; have HO_255000 := n0_; have HO_264000 := n1_; have BK254 := n2_; have BK263 := n3_; have HB := n4_; clear n0_ n1_ n2_ n3_ n4_; (try clear hb); (try clear hb2); (try clear hk); (try clear hi)))
              go_ret
              exact ⟨by first | rfl | (simp [errW_none, errW_some] <;> rfl) | (simp [*, errW_none, errW_some] <;> rfl), by repeat (first | (with_reducible first | exact HB.out | apply below_alloc | apply pw_below_drewN | apply below_drew1 | refine below_set ?_ GE254.out | refine below_set ?_ GE263.out) | exact HB.out)⟩
             ·rw [if_neg c37] at H
              have c37b0 : (t266 == (decide (t270 > 0))) = false := by simpa using c37
              (try (have c37b1 : decide (t266 = (decide (t270 > 0))) = false := by simpa using c37))
              (try (have c37b2 : (t266 == (decide (t270 > 0))) = false := by simpa using c37))
              (try (have c37b3 : ¬ (t266 = (decide (t270 > 0))) := by simpa using c37))
              clear c37
              obtain rfl := Option.some.inj H
              have hnb45 := NB254_263.out
              have hnc45 := NB263_254.out
              have hcz46_0 : wc.cell? ⟨gb254, 0, none⟩ = some (.slice Ao15 t246.length co15) := (blk_cell BK254.out 0).trans rfl
              have hcz46_1 : wc.cell? ⟨gb254, 1, none⟩ = some (.bool t249) := (blk_cell BK254.out 1).trans rfl
              have hcz46_2 : wc.cell? ⟨gb254, 2, none⟩ = some (.string t250) := (blk_cell BK254.out 2).trans rfl
              have hcz46_3 : wc.cell? ⟨gb254, 3, none⟩ = some (.string t251) := (blk_cell BK254.out 3).trans rfl
              have hfz46_0 := blk_frozen BK254.out 0
              have hfz46_1 := blk_frozen BK254.out 1
              have hfz46_2 := blk_frozen BK254.out 2
              have hfz46_3 := blk_frozen BK254.out 3
              have hcz47_0 : wc.cell? ⟨gb263, 0, none⟩ = some (.slice Ao19 t255.length co19) := (blk_cell BK263.out 0).trans rfl
              have hcz47_1 : wc.cell? ⟨gb263, 1, none⟩ = some (.bool t258) := (blk_cell BK263.out 1).trans rfl
              have hcz47_2 : wc.cell? ⟨gb263, 2, none⟩ = some (.string t259) := (blk_cell BK263.out 2).trans rfl
              have hcz47_3 : wc.cell? ⟨gb263, 3, none⟩ = some (.string t260) := (blk_cell BK263.out 3).trans rfl
              have hfz47_0 := blk_frozen BK263.out 0
              have hfz47_1 := blk_frozen BK263.out 1
              have hfz47_2 := blk_frozen BK263.out 2
              have hfz47_3 := blk_frozen BK263.out 3
              go_wp2_with (first | ((with_reducible refine gate_callee (f := 11) rfl ?_); refine goesL_ (some 82) rfl rfl Tryd.func11 (by kernel_rfl) rfl #[.agg #[.slice Ao15 t246.length co15, .bool t249, .string t250, .string t251], .agg #[.slice Ao19 t255.length co19, .bool t258, .string t259, .string t260]] rfl (by (try simp only [List.map_toArray, List.map_cons, List.map_nil]); first | done | rfl | (simp only [List.length_drop, List.length_take]; rfl)) ?_; (with_reducible refine (spec_VerAsked.calls kj24 _ _ t246 t249 t250 t251 _ _ t255 t258 t259 t260 true _ ?side1 ?side2 ?side3 ?side4 A32.out).mono ?_); (case side1 => repeat (first | exact (Kd.R_reads' HO_255000.out).2.2 | (with_reducible refine Kd.C_alloc ?_ _) | (with_reducible refine Kd.C_drewN ?_ _) | (with_reducible refine Kd.C_drew ?_))); (case side2 => exact (Kd.R_reads' HO_255000.out).2.1); (case side3 => repeat (first | exact (Kd.R_reads' HO_264000.out).2.2 | (with_reducible refine Kd.C_alloc ?_ _) | (with_reducible refine Kd.C_drewN ?_ _) | (with_reducible refine Kd.C_drew ?_))); (case side4 => exact (Kd.R_reads' HO_264000.out).2.1); rintro e w48 ⟨rfl, hb⟩; refine ⟨_, rfl, ?_⟩; have n0_ := Aside0.mk (Kd.R_below (by (with_reducible repeat (first | apply Kd.R_alloc | apply Kd.R_drewN | apply Kd.R_drew)); exact HO_255000.out) hb); have n1_ := Aside0.mk (Kd.R_below (by (with_reducible repeat (first | apply Kd.R_alloc | apply Kd.R_drewN | apply Kd.R_drew)); exact HO_264000.out) hb); have n2_ := Aside0.mk (blk_below (g := gb254) (o := .cells #[.slice Ao15 t246.length co15, .bool t249, .string t250, .string t251] 25 (0, 0)) (by (with_reducible repeat (first | refine blk_drewN ?_ _ | refine blk_drew ?_ | refine blk_alloc ?_ _)); exact BK254.out) hb); have n3_ := Aside0.mk (blk_below (g := gb263) (o := .cells #[.slice Ao19 t255.length co19, .bool t258, .string t259, .string t260] 25 (0, 0)) (by (with_reducible repeat (first | refine blk_drewN ?_ _ | refine blk_drew ?_ | refine blk_alloc ?_ _)); exact BK263.out) hb); have n4_ := Aside0.mk (below_step (by repeat (first | (with_reducible first | exact HB.out | apply below_alloc | apply pw_below_drewN | apply below_drew1 | refine below_set ?_ GE254.out | refine below_set ?_ GE263.out) | exact HB.out)) hb); clear HO_255000; clear HO_264000; clear BK254; clear BK263; clear HB; have HO_255000 := n0_; have HO_264000 := n1_; have BK254 := n2_; have BK263 := n3_; have HB := n4_; clear n0_ n1_ n2_ n3_ n4_; (try clear hb); (try clear hb2); (try clear hk); (try clear hi); have hcz49_0 : w48.cell? ⟨gb254, 0, none⟩ = some (.slice Ao15 t246.length co15) := (blk_cell BK254.out 0).trans rfl; have hcz49_1 : w48.cell? ⟨gb254, 1, none⟩ = some (.bool t249) := (blk_cell BK254.out 1).trans rfl; have hcz49_2 : w48.cell? ⟨gb254, 2, none⟩ = some (.string t250) := (blk_cell BK254.out 2).trans rfl; have hcz49_3 : w48.cell? ⟨gb254, 3, none⟩ = some (.string t251) := (blk_cell BK254.out 3).trans rfl; have hfz49_0 := blk_frozen BK254.out 0; have hfz49_1 := blk_frozen BK254.out 1; have hfz49_2 := blk_frozen BK254.out 2; have hfz49_3 := blk_frozen BK254.out 3; have hcz50_0 : w48.cell? ⟨gb263, 0, none⟩ = some (.slice Ao19 t255.length co19) := (blk_cell BK263.out 0).trans rfl; have hcz50_1 : w48.cell? ⟨gb263, 1, none⟩ = some (.bool t258) := (blk_cell BK263.out 1).trans rfl; have hcz50_2 : w48.cell? ⟨gb263, 2, none⟩ = some (.string t259) := (blk_cell BK263.out 2).trans rfl; have hcz50_3 : w48.cell? ⟨gb263, 3, none⟩ = some (.string t260) := (blk_cell BK263.out 3).trans rfl; have hfz50_0 := blk_frozen BK263.out 0; have hfz50_1 := blk_frozen BK263.out 1; have hfz50_2 := blk_frozen BK263.out 2; have hfz50_3 := blk_frozen BK263.out 3) | ((with_reducible refine gate_callee (f := 12) rfl ?_); refine goesL_ (some 86) rfl rfl Tryd.func12 (by kernel_rfl) rfl #[.agg #[.slice Ao15 t246.length co15, .bool t249, .string t250, .string t251], .agg #[.slice Ao19 t255.length co19, .bool t258, .string t259, .string t260]] rfl (by (try simp only [List.map_toArray, List.map_cons, List.map_nil]); first | done | rfl | (simp only [List.length_drop, List.length_take]; rfl)) ?_; (with_reducible refine (spec_Versions.calls kj24 _ _ t246 t249 t250 t251 _ _ t255 t258 t259 t260 t270 _ ?side1 ?side2 ?side3 ?side4 A34.out).mono ?_); (case side1 => repeat (first | exact (Kd.R_reads' HO_255000.out).2.2 | (with_reducible refine Kd.C_alloc ?_ _) | (with_reducible refine Kd.C_drewN ?_ _) | (with_reducible refine Kd.C_drew ?_))); (case side2 => exact (Kd.R_reads' HO_255000.out).2.1); (case side3 => repeat (first | exact (Kd.R_reads' HO_264000.out).2.2 | (with_reducible refine Kd.C_alloc ?_ _) | (with_reducible refine Kd.C_drewN ?_ _) | (with_reducible refine Kd.C_drew ?_))); (case side4 => exact (Kd.R_reads' HO_264000.out).2.1); rintro e w51 ⟨rfl, hb⟩; refine ⟨_, rfl, ?_⟩; have n0_ := Aside0.mk (Kd.R_below (by (with_reducible repeat (first | apply Kd.R_alloc | apply Kd.R_drewN | apply Kd.R_drew)); exact HO_255000.out) hb); have n1_ := Aside0.mk (Kd.R_below (by (with_reducible repeat (first | apply Kd.R_alloc | apply Kd.R_drewN | apply Kd.R_drew)); exact HO_264000.out) hb); have n2_ := Aside0.mk (blk_below (g := gb254) (o := .cells #[.slice Ao15 t246.length co15, .bool t249, .string t250, .string t251] 25 (0, 0)) (by (with_reducible repeat (first | refine blk_drewN ?_ _ | refine blk_drew ?_ | refine blk_alloc ?_ _)); exact BK254.out) hb); have n3_ := Aside0.mk (blk_below (g := gb263) (o := .cells #[.slice Ao19 t255.length co19, .bool t258, .string t259, .string t260] 25 (0, 0)) (by (with_reducible repeat (first | refine blk_drewN ?_ _ | refine blk_drew ?_ | refine blk_alloc ?_ _)); exact BK263.out) hb); have n4_ := Aside0.mk (below_step (by repeat (first | (with_reducible first | exact HB.out | apply below_alloc | apply pw_below_drewN | apply below_drew1 | refine below_set ?_ GE254.out | refine below_set ?_ GE263.out) | exact HB.out)) hb); clear HO_255000; clear HO_264000; clear BK254; clear BK263; clear HB; have HO_255000 := n0_; have HO_264000 := n1_; have BK254 := n2_; have BK263 := n3_; have HB := n4_; clear n0_ n1_ n2_ n3_ n4_; (try clear hb); (try clear hb2); (try clear hk); (try clear hi)))
              go_ret
              exact ⟨by first | rfl | (simp [errW_none, errW_some] <;> rfl) | (simp [*, errW_none, errW_some] <;> rfl), by repeat (first | (with_reducible first | exact HB.out | apply below_alloc | apply pw_below_drewN | apply below_drew1 | refine below_set ?_ GE254.out | refine below_set ?_ GE263.out) | exact HB.out)⟩
            ·rw [if_neg c36] at H
             have c36b0 : (t265 == (decide (t270 < 0))) = false := by simpa using c36
             (try (have c36b1 : decide (t265 = (decide (t270 < 0))) = false := by simpa using c36))
             (try (have c36b2 : (t265 == (decide (t270 < 0))) = false := by simpa using c36))
             (try (have c36b3 : ¬ (t265 = (decide (t270 < 0))) := by simpa using c36))
             clear c36
             obtain rfl := Option.some.inj H
             have hnb52 := NB254_263.out
             have hnc52 := NB263_254.out
             have hcz53_0 : wc.cell? ⟨gb254, 0, none⟩ = some (.slice Ao15 t246.length co15) := (blk_cell BK254.out 0).trans rfl
             have hcz53_1 : wc.cell? ⟨gb254, 1, none⟩ = some (.bool t249) := (blk_cell BK254.out 1).trans rfl
             have hcz53_2 : wc.cell? ⟨gb254, 2, none⟩ = some (.string t250) := (blk_cell BK254.out 2).trans rfl
             have hcz53_3 : wc.cell? ⟨gb254, 3, none⟩ = some (.string t251) := (blk_cell BK254.out 3).trans rfl
             have hfz53_0 := blk_frozen BK254.out 0
             have hfz53_1 := blk_frozen BK254.out 1
             have hfz53_2 := blk_frozen BK254.out 2
             have hfz53_3 := blk_frozen BK254.out 3
             have hcz54_0 : wc.cell? ⟨gb263, 0, none⟩ = some (.slice Ao19 t255.length co19) := (blk_cell BK263.out 0).trans rfl
             have hcz54_1 : wc.cell? ⟨gb263, 1, none⟩ = some (.bool t258) := (blk_cell BK263.out 1).trans rfl
             have hcz54_2 : wc.cell? ⟨gb263, 2, none⟩ = some (.string t259) := (blk_cell BK263.out 2).trans rfl
             have hcz54_3 : wc.cell? ⟨gb263, 3, none⟩ = some (.string t260) := (blk_cell BK263.out 3).trans rfl
             have hfz54_0 := blk_frozen BK263.out 0
             have hfz54_1 := blk_frozen BK263.out 1
             have hfz54_2 := blk_frozen BK263.out 2
             have hfz54_3 := blk_frozen BK263.out 3
             go_wp2_with (first | ((with_reducible refine gate_callee (f := 11) rfl ?_); refine goesL_ (some 82) rfl rfl Tryd.func11 (by kernel_rfl) rfl #[.agg #[.slice Ao15 t246.length co15, .bool t249, .string t250, .string t251], .agg #[.slice Ao19 t255.length co19, .bool t258, .string t259, .string t260]] rfl (by (try simp only [List.map_toArray, List.map_cons, List.map_nil]); first | done | rfl | (simp only [List.length_drop, List.length_take]; rfl)) ?_; (with_reducible refine (spec_VerAsked.calls kj24 _ _ t246 t249 t250 t251 _ _ t255 t258 t259 t260 true _ ?side1 ?side2 ?side3 ?side4 A32.out).mono ?_); (case side1 => repeat (first | exact (Kd.R_reads' HO_255000.out).2.2 | (with_reducible refine Kd.C_alloc ?_ _) | (with_reducible refine Kd.C_drewN ?_ _) | (with_reducible refine Kd.C_drew ?_))); (case side2 => exact (Kd.R_reads' HO_255000.out).2.1); (case side3 => repeat (first | exact (Kd.R_reads' HO_264000.out).2.2 | (with_reducible refine Kd.C_alloc ?_ _) | (with_reducible refine Kd.C_drewN ?_ _) | (with_reducible refine Kd.C_drew ?_))); (case side4 => exact (Kd.R_reads' HO_264000.out).2.1); rintro e w55 ⟨rfl, hb⟩; refine ⟨_, rfl, ?_⟩; have n0_ := Aside0.mk (Kd.R_below (by (with_reducible repeat (first | apply Kd.R_alloc | apply Kd.R_drewN | apply Kd.R_drew)); exact HO_255000.out) hb); have n1_ := Aside0.mk (Kd.R_below (by (with_reducible repeat (first | apply Kd.R_alloc | apply Kd.R_drewN | apply Kd.R_drew)); exact HO_264000.out) hb); have n2_ := Aside0.mk (blk_below (g := gb254) (o := .cells #[.slice Ao15 t246.length co15, .bool t249, .string t250, .string t251] 25 (0, 0)) (by (with_reducible repeat (first | refine blk_drewN ?_ _ | refine blk_drew ?_ | refine blk_alloc ?_ _)); exact BK254.out) hb); have n3_ := Aside0.mk (blk_below (g := gb263) (o := .cells #[.slice Ao19 t255.length co19, .bool t258, .string t259, .string t260] 25 (0, 0)) (by (with_reducible repeat (first | refine blk_drewN ?_ _ | refine blk_drew ?_ | refine blk_alloc ?_ _)); exact BK263.out) hb); have n4_ := Aside0.mk (below_step (by repeat (first | (with_reducible first | exact HB.out | apply below_alloc | apply pw_below_drewN | apply below_drew1 | refine below_set ?_ GE254.out | refine below_set ?_ GE263.out) | exact HB.out)) hb); clear HO_255000; clear HO_264000; clear BK254; clear BK263; clear HB; have HO_255000 := n0_; have HO_264000 := n1_; have BK254 := n2_; have BK263 := n3_; have HB := n4_; clear n0_ n1_ n2_ n3_ n4_; (try clear hb); (try clear hb2); (try clear hk); (try clear hi); have hcz56_0 : w55.cell? ⟨gb254, 0, none⟩ = some (.slice Ao15 t246.length co15) := (blk_cell BK254.out 0).trans rfl; have hcz56_1 : w55.cell? ⟨gb254, 1, none⟩ = some (.bool t249) := (blk_cell BK254.out 1).trans rfl; have hcz56_2 : w55.cell? ⟨gb254, 2, none⟩ = some (.string t250) := (blk_cell BK254.out 2).trans rfl; have hcz56_3 : w55.cell? ⟨gb254, 3, none⟩ = some (.string t251) := (blk_cell BK254.out 3).trans rfl; have hfz56_0 := blk_frozen BK254.out 0; have hfz56_1 := blk_frozen BK254.out 1; have hfz56_2 := blk_frozen BK254.out 2; have hfz56_3 := blk_frozen BK254.out 3; have hcz57_0 : w55.cell? ⟨gb263, 0, none⟩ = some (.slice Ao19 t255.length co19) := (blk_cell BK263.out 0).trans rfl; have hcz57_1 : w55.cell? ⟨gb263, 1, none⟩ = some (.bool t258) := (blk_cell BK263.out 1).trans rfl; have hcz57_2 : w55.cell? ⟨gb263, 2, none⟩ = some (.string t259) := (blk_cell BK263.out 2).trans rfl; have hcz57_3 : w55.cell? ⟨gb263, 3, none⟩ = some (.string t260) := (blk_cell BK263.out 3).trans rfl; have hfz57_0 := blk_frozen BK263.out 0; have hfz57_1 := blk_frozen BK263.out 1; have hfz57_2 := blk_frozen BK263.out 2; have hfz57_3 := blk_frozen BK263.out 3) | ((with_reducible refine gate_callee (f := 12) rfl ?_); refine goesL_ (some 86) rfl rfl Tryd.func12 (by kernel_rfl) rfl #[.agg #[.slice Ao15 t246.length co15, .bool t249, .string t250, .string t251], .agg #[.slice Ao19 t255.length co19, .bool t258, .string t259, .string t260]] rfl (by (try simp only [List.map_toArray, List.map_cons, List.map_nil]); first | done | rfl | (simp only [List.length_drop, List.length_take]; rfl)) ?_; (with_reducible refine (spec_Versions.calls kj24 _ _ t246 t249 t250 t251 _ _ t255 t258 t259 t260 t270 _ ?side1 ?side2 ?side3 ?side4 A34.out).mono ?_); (case side1 => repeat (first | exact (Kd.R_reads' HO_255000.out).2.2 | (with_reducible refine Kd.C_alloc ?_ _) | (with_reducible refine Kd.C_drewN ?_ _) | (with_reducible refine Kd.C_drew ?_))); (case side2 => exact (Kd.R_reads' HO_255000.out).2.1); (case side3 => repeat (first | exact (Kd.R_reads' HO_264000.out).2.2 | (with_reducible refine Kd.C_alloc ?_ _) | (with_reducible refine Kd.C_drewN ?_ _) | (with_reducible refine Kd.C_drew ?_))); (case side4 => exact (Kd.R_reads' HO_264000.out).2.1); rintro e w58 ⟨rfl, hb⟩; refine ⟨_, rfl, ?_⟩; have n0_ := Aside0.mk (Kd.R_below (by (with_reducible repeat (first | apply Kd.R_alloc | apply Kd.R_drewN | apply Kd.R_drew)); exact HO_255000.out) hb); have n1_ := Aside0.mk (Kd.R_below (by (with_reducible repeat (first | apply Kd.R_alloc | apply Kd.R_drewN | apply Kd.R_drew)); exact HO_264000.out) hb); have n2_ := Aside0.mk (blk_below (g := gb254) (o := .cells #[.slice Ao15 t246.length co15, .bool t249, .string t250, .string t251] 25 (0, 0)) (by (with_reducible repeat (first | refine blk_drewN ?_ _ | refine blk_drew ?_ | refine blk_alloc ?_ _)); exact BK254.out) hb); have n3_ := Aside0.mk (blk_below (g := gb263) (o := .cells #[.slice Ao19 t255.length co19, .bool t258, .string t259, .string t260] 25 (0, 0)) (by (with_reducible repeat (first | refine blk_drewN ?_ _ | refine blk_drew ?_ | refine blk_alloc ?_ _)); exact BK263.out) hb); have n4_ := Aside0.mk (below_step (by repeat (first | (with_reducible first | exact HB.out | apply below_alloc | apply pw_below_drewN | apply below_drew1 | refine below_set ?_ GE254.out | refine below_set ?_ GE263.out) | exact HB.out)) hb); clear HO_255000; clear HO_264000; clear BK254; clear BK263; clear HB; have HO_255000 := n0_; have HO_264000 := n1_; have BK254 := n2_; have BK263 := n3_; have HB := n4_; clear n0_ n1_ n2_ n3_ n4_; (try clear hb); (try clear hb2); (try clear hk); (try clear hi)))
             go_ret
             exact ⟨by first | rfl | (simp [errW_none, errW_some] <;> rfl) | (simp [*, errW_none, errW_some] <;> rfl), by repeat (first | (with_reducible first | exact HB.out | apply below_alloc | apply pw_below_drewN | apply below_drew1 | refine below_set ?_ GE254.out | refine below_set ?_ GE263.out) | exact HB.out)⟩
           ·rw [if_neg c35] at H
            have c35b0 : (t264 == (decide (t270 ≥ 0))) = false := by simpa using c35
            (try (have c35b1 : decide (t264 = (decide (t270 ≥ 0))) = false := by simpa using c35))
            (try (have c35b2 : (t264 == (decide (t270 ≥ 0))) = false := by simpa using c35))
            (try (have c35b3 : ¬ (t264 = (decide (t270 ≥ 0))) := by simpa using c35))
            clear c35
            obtain rfl := Option.some.inj H
            have hnb59 := NB254_263.out
            have hnc59 := NB263_254.out
            have hcz60_0 : wc.cell? ⟨gb254, 0, none⟩ = some (.slice Ao15 t246.length co15) := (blk_cell BK254.out 0).trans rfl
            have hcz60_1 : wc.cell? ⟨gb254, 1, none⟩ = some (.bool t249) := (blk_cell BK254.out 1).trans rfl
            have hcz60_2 : wc.cell? ⟨gb254, 2, none⟩ = some (.string t250) := (blk_cell BK254.out 2).trans rfl
            have hcz60_3 : wc.cell? ⟨gb254, 3, none⟩ = some (.string t251) := (blk_cell BK254.out 3).trans rfl
            have hfz60_0 := blk_frozen BK254.out 0
            have hfz60_1 := blk_frozen BK254.out 1
            have hfz60_2 := blk_frozen BK254.out 2
            have hfz60_3 := blk_frozen BK254.out 3
            have hcz61_0 : wc.cell? ⟨gb263, 0, none⟩ = some (.slice Ao19 t255.length co19) := (blk_cell BK263.out 0).trans rfl
            have hcz61_1 : wc.cell? ⟨gb263, 1, none⟩ = some (.bool t258) := (blk_cell BK263.out 1).trans rfl
            have hcz61_2 : wc.cell? ⟨gb263, 2, none⟩ = some (.string t259) := (blk_cell BK263.out 2).trans rfl
            have hcz61_3 : wc.cell? ⟨gb263, 3, none⟩ = some (.string t260) := (blk_cell BK263.out 3).trans rfl
            have hfz61_0 := blk_frozen BK263.out 0
            have hfz61_1 := blk_frozen BK263.out 1
            have hfz61_2 := blk_frozen BK263.out 2
            have hfz61_3 := blk_frozen BK263.out 3
            go_wp2_with (first | ((with_reducible refine gate_callee (f := 11) rfl ?_); refine goesL_ (some 82) rfl rfl Tryd.func11 (by kernel_rfl) rfl #[.agg #[.slice Ao15 t246.length co15, .bool t249, .string t250, .string t251], .agg #[.slice Ao19 t255.length co19, .bool t258, .string t259, .string t260]] rfl (by (try simp only [List.map_toArray, List.map_cons, List.map_nil]); first | done | rfl | (simp only [List.length_drop, List.length_take]; rfl)) ?_; (with_reducible refine (spec_VerAsked.calls kj24 _ _ t246 t249 t250 t251 _ _ t255 t258 t259 t260 true _ ?side1 ?side2 ?side3 ?side4 A32.out).mono ?_); (case side1 => repeat (first | exact (Kd.R_reads' HO_255000.out).2.2 | (with_reducible refine Kd.C_alloc ?_ _) | (with_reducible refine Kd.C_drewN ?_ _) | (with_reducible refine Kd.C_drew ?_))); (case side2 => exact (Kd.R_reads' HO_255000.out).2.1); (case side3 => repeat (first | exact (Kd.R_reads' HO_264000.out).2.2 | (with_reducible refine Kd.C_alloc ?_ _) | (with_reducible refine Kd.C_drewN ?_ _) | (with_reducible refine Kd.C_drew ?_))); (case side4 => exact (Kd.R_reads' HO_264000.out).2.1); rintro e w62 ⟨rfl, hb⟩; refine ⟨_, rfl, ?_⟩; have n0_ := Aside0.mk (Kd.R_below (by (with_reducible repeat (first | apply Kd.R_alloc | apply Kd.R_drewN | apply Kd.R_drew)); exact HO_255000.out) hb); have n1_ := Aside0.mk (Kd.R_below (by (with_reducible repeat (first | apply Kd.R_alloc | apply Kd.R_drewN | apply Kd.R_drew)); exact HO_264000.out) hb); have n2_ := Aside0.mk (blk_below (g := gb254) (o := .cells #[.slice Ao15 t246.length co15, .bool t249, .string t250, .string t251] 25 (0, 0)) (by (with_reducible repeat (first | refine blk_drewN ?_ _ | refine blk_drew ?_ | refine blk_alloc ?_ _)); exact BK254.out) hb); have n3_ := Aside0.mk (blk_below (g := gb263) (o := .cells #[.slice Ao19 t255.length co19, .bool t258, .string t259, .string t260] 25 (0, 0)) (by (with_reducible repeat (first | refine blk_drewN ?_ _ | refine blk_drew ?_ | refine blk_alloc ?_ _)); exact BK263.out) hb); have n4_ := Aside0.mk (below_step (by repeat (first | (with_reducible first | exact HB.out | apply below_alloc | apply pw_below_drewN | apply below_drew1 | refine below_set ?_ GE254.out | refine below_set ?_ GE263.out) | exact HB.out)) hb); clear HO_255000; clear HO_264000; clear BK254; clear BK263; clear HB; have HO_255000 := n0_; have HO_264000 := n1_; have BK254 := n2_; have BK263 := n3_; have HB := n4_; clear n0_ n1_ n2_ n3_ n4_; (try clear hb); (try clear hb2); (try clear hk); (try clear hi); have hcz63_0 : w62.cell? ⟨gb254, 0, none⟩ = some (.slice Ao15 t246.length co15) := (blk_cell BK254.out 0).trans rfl; have hcz63_1 : w62.cell? ⟨gb254, 1, none⟩ = some (.bool t249) := (blk_cell BK254.out 1).trans rfl; have hcz63_2 : w62.cell? ⟨gb254, 2, none⟩ = some (.string t250) := (blk_cell BK254.out 2).trans rfl; have hcz63_3 : w62.cell? ⟨gb254, 3, none⟩ = some (.string t251) := (blk_cell BK254.out 3).trans rfl; have hfz63_0 := blk_frozen BK254.out 0; have hfz63_1 := blk_frozen BK254.out 1; have hfz63_2 := blk_frozen BK254.out 2; have hfz63_3 := blk_frozen BK254.out 3; have hcz64_0 : w62.cell? ⟨gb263, 0, none⟩ = some (.slice Ao19 t255.length co19) := (blk_cell BK263.out 0).trans rfl; have hcz64_1 : w62.cell? ⟨gb263, 1, none⟩ = some (.bool t258) := (blk_cell BK263.out 1).trans rfl; have hcz64_2 : w62.cell? ⟨gb263, 2, none⟩ = some (.string t259) := (blk_cell BK263.out 2).trans rfl; have hcz64_3 : w62.cell? ⟨gb263, 3, none⟩ = some (.string t260) := (blk_cell BK263.out 3).trans rfl; have hfz64_0 := blk_frozen BK263.out 0; have hfz64_1 := blk_frozen BK263.out 1; have hfz64_2 := blk_frozen BK263.out 2; have hfz64_3 := blk_frozen BK263.out 3) | ((with_reducible refine gate_callee (f := 12) rfl ?_); refine goesL_ (some 86) rfl rfl Tryd.func12 (by kernel_rfl) rfl #[.agg #[.slice Ao15 t246.length co15, .bool t249, .string t250, .string t251], .agg #[.slice Ao19 t255.length co19, .bool t258, .string t259, .string t260]] rfl (by (try simp only [List.map_toArray, List.map_cons, List.map_nil]); first | done | rfl | (simp only [List.length_drop, List.length_take]; rfl)) ?_; (with_reducible refine (spec_Versions.calls kj24 _ _ t246 t249 t250 t251 _ _ t255 t258 t259 t260 t270 _ ?side1 ?side2 ?side3 ?side4 A34.out).mono ?_); (case side1 => repeat (first | exact (Kd.R_reads' HO_255000.out).2.2 | (with_reducible refine Kd.C_alloc ?_ _) | (with_reducible refine Kd.C_drewN ?_ _) | (with_reducible refine Kd.C_drew ?_))); (case side2 => exact (Kd.R_reads' HO_255000.out).2.1); (case side3 => repeat (first | exact (Kd.R_reads' HO_264000.out).2.2 | (with_reducible refine Kd.C_alloc ?_ _) | (with_reducible refine Kd.C_drewN ?_ _) | (with_reducible refine Kd.C_drew ?_))); (case side4 => exact (Kd.R_reads' HO_264000.out).2.1); rintro e w65 ⟨rfl, hb⟩; refine ⟨_, rfl, ?_⟩; have n0_ := Aside0.mk (Kd.R_below (by (with_reducible repeat (first | apply Kd.R_alloc | apply Kd.R_drewN | apply Kd.R_drew)); exact HO_255000.out) hb); have n1_ := Aside0.mk (Kd.R_below (by (with_reducible repeat (first | apply Kd.R_alloc | apply Kd.R_drewN | apply Kd.R_drew)); exact HO_264000.out) hb); have n2_ := Aside0.mk (blk_below (g := gb254) (o := .cells #[.slice Ao15 t246.length co15, .bool t249, .string t250, .string t251] 25 (0, 0)) (by (with_reducible repeat (first | refine blk_drewN ?_ _ | refine blk_drew ?_ | refine blk_alloc ?_ _)); exact BK254.out) hb); have n3_ := Aside0.mk (blk_below (g := gb263) (o := .cells #[.slice Ao19 t255.length co19, .bool t258, .string t259, .string t260] 25 (0, 0)) (by (with_reducible repeat (first | refine blk_drewN ?_ _ | refine blk_drew ?_ | refine blk_alloc ?_ _)); exact BK263.out) hb); have n4_ := Aside0.mk (below_step (by repeat (first | (with_reducible first | exact HB.out | apply below_alloc | apply pw_below_drewN | apply below_drew1 | refine below_set ?_ GE254.out | refine below_set ?_ GE263.out) | exact HB.out)) hb); clear HO_255000; clear HO_264000; clear BK254; clear BK263; clear HB; have HO_255000 := n0_; have HO_264000 := n1_; have BK254 := n2_; have BK263 := n3_; have HB := n4_; clear n0_ n1_ n2_ n3_ n4_; (try clear hb); (try clear hb2); (try clear hk); (try clear hi)))
            go_ret
            exact ⟨by first | rfl | (simp [errW_none, errW_some] <;> rfl) | (simp [*, errW_none, errW_some] <;> rfl), by repeat (first | (with_reducible first | exact HB.out | apply below_alloc | apply pw_below_drewN | apply below_drew1 | refine below_set ?_ GE254.out | refine below_set ?_ GE263.out) | exact HB.out)⟩
          ·replace c33 := Bool.eq_false_iff.mpr c33
           subst c33
           have H1 : (some true) = some r := by rw [if_neg (show ¬ (false = true) by decide)] at H; exact H
           clear H
           have H := H1
           clear H1
           obtain rfl := Option.some.inj H
           have hnb66 := NB254_263.out
           have hnc66 := NB263_254.out
           have hcz67_0 : wc.cell? ⟨gb254, 0, none⟩ = some (.slice Ao15 t246.length co15) := (blk_cell BK254.out 0).trans rfl
           have hcz67_1 : wc.cell? ⟨gb254, 1, none⟩ = some (.bool t249) := (blk_cell BK254.out 1).trans rfl
           have hcz67_2 : wc.cell? ⟨gb254, 2, none⟩ = some (.string t250) := (blk_cell BK254.out 2).trans rfl
           have hcz67_3 : wc.cell? ⟨gb254, 3, none⟩ = some (.string t251) := (blk_cell BK254.out 3).trans rfl
           have hfz67_0 := blk_frozen BK254.out 0
           have hfz67_1 := blk_frozen BK254.out 1
           have hfz67_2 := blk_frozen BK254.out 2
           have hfz67_3 := blk_frozen BK254.out 3
           have hcz68_0 : wc.cell? ⟨gb263, 0, none⟩ = some (.slice Ao19 t255.length co19) := (blk_cell BK263.out 0).trans rfl
           have hcz68_1 : wc.cell? ⟨gb263, 1, none⟩ = some (.bool t258) := (blk_cell BK263.out 1).trans rfl
           have hcz68_2 : wc.cell? ⟨gb263, 2, none⟩ = some (.string t259) := (blk_cell BK263.out 2).trans rfl
           have hcz68_3 : wc.cell? ⟨gb263, 3, none⟩ = some (.string t260) := (blk_cell BK263.out 3).trans rfl
           have hfz68_0 := blk_frozen BK263.out 0
           have hfz68_1 := blk_frozen BK263.out 1
           have hfz68_2 := blk_frozen BK263.out 2
           have hfz68_3 := blk_frozen BK263.out 3
           go_wp2_with (first | ((with_reducible refine gate_callee (f := 11) rfl ?_); refine goesL_ (some 82) rfl rfl Tryd.func11 (by kernel_rfl) rfl #[.agg #[.slice Ao15 t246.length co15, .bool t249, .string t250, .string t251], .agg #[.slice Ao19 t255.length co19, .bool t258, .string t259, .string t260]] rfl (by (try simp only [List.map_toArray, List.map_cons, List.map_nil]); first | done | rfl | (simp only [List.length_drop, List.length_take]; rfl)) ?_; (with_reducible refine (spec_VerAsked.calls kj24 _ _ t246 t249 t250 t251 _ _ t255 t258 t259 t260 false _ ?side1 ?side2 ?side3 ?side4 A32.out).mono ?_); (case side1 => repeat (first | exact (Kd.R_reads' HO_255000.out).2.2 | (with_reducible refine Kd.C_alloc ?_ _) | (with_reducible refine Kd.C_drewN ?_ _) | (with_reducible refine Kd.C_drew ?_))); (case side2 => exact (Kd.R_reads' HO_255000.out).2.1); (case side3 => repeat (first | exact (Kd.R_reads' HO_264000.out).2.2 | (with_reducible refine Kd.C_alloc ?_ _) | (with_reducible refine Kd.C_drewN ?_ _) | (with_reducible refine Kd.C_drew ?_))); (case side4 => exact (Kd.R_reads' HO_264000.out).2.1); rintro e w69 ⟨rfl, hb⟩; refine ⟨_, rfl, ?_⟩; have n0_ := Aside0.mk (Kd.R_below (by (with_reducible repeat (first | apply Kd.R_alloc | apply Kd.R_drewN | apply Kd.R_drew)); exact HO_255000.out) hb); have n1_ := Aside0.mk (Kd.R_below (by (with_reducible repeat (first | apply Kd.R_alloc | apply Kd.R_drewN | apply Kd.R_drew)); exact HO_264000.out) hb); have n2_ := Aside0.mk (blk_below (g := gb254) (o := .cells #[.slice Ao15 t246.length co15, .bool t249, .string t250, .string t251] 25 (0, 0)) (by (with_reducible repeat (first | refine blk_drewN ?_ _ | refine blk_drew ?_ | refine blk_alloc ?_ _)); exact BK254.out) hb); have n3_ := Aside0.mk (blk_below (g := gb263) (o := .cells #[.slice Ao19 t255.length co19, .bool t258, .string t259, .string t260] 25 (0, 0)) (by (with_reducible repeat (first | refine blk_drewN ?_ _ | refine blk_drew ?_ | refine blk_alloc ?_ _)); exact BK263.out) hb); have n4_ := Aside0.mk (below_step (by repeat (first | (with_reducible first | exact HB.out | apply below_alloc | apply pw_below_drewN | apply below_drew1 | refine below_set ?_ GE254.out | refine below_set ?_ GE263.out) | exact HB.out)) hb); clear HO_255000; clear HO_264000; clear BK254; clear BK263; clear HB; have HO_255000 := n0_; have HO_264000 := n1_; have BK254 := n2_; have BK263 := n3_; have HB := n4_; clear n0_ n1_ n2_ n3_ n4_; (try clear hb); (try clear hb2); (try clear hk); (try clear hi)))
           go_ret
           exact ⟨by first | rfl | (simp [errW_none, errW_some] <;> rfl) | (simp [*, errW_none, errW_some] <;> rfl), by repeat (first | (with_reducible first | exact HB.out | apply below_alloc | apply pw_below_drewN | apply below_drew1 | refine below_set ?_ GE254.out | refine below_set ?_ GE263.out) | exact HB.out)⟩
end Go.Proofs.YtmfgkidppchobaaDoor.XFnVersionOrder

