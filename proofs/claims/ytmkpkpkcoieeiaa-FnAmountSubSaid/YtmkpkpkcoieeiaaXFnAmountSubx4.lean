/- A text of this session: the functions of the law FnAmountSub, by a program that calls the kit's print and lays this session's own contracts of single functions beside. -/
import Derived.Test.YtmkpkpkcoieeiaaXFnAmountSubx0
import Derived.Test.YtmkpkpkcoieeiaaXFnAmountSubx2
import Derived.Test.YtmkpkpkcoieeiaaXFnAmountSubx3
namespace Go.Proofs.Ytmkpkpkcoieeiaa.XFnAmountSub
open Go.RowKit Go.Proofs.YtmkpkpkcoieeiaaW.PrintWords Go.Proofs.YtmkpkpkcoieeiaaW.PrintLast Go.Proofs.YtmkpkpkcoieeiaaW.PrintMore
attribute [local go_sem] max2_int min2_int max_two min_two max_three min_three max_four min_four   -- for this text's walks alone
set_option linter.unusedVariables false
set_option linter.unusedSimpArgs false

/-! ### impl_AmountSub: function 9 -/
def impl_AmountSub.f (k : Nat) (a0_0 : Int) (a0_1 : Int) (a1_0 : Int) (a1_1 : Int) : Option (Int × Int × Bool) := (resource_int64Amount_Sub.f k a0_0 (wrap32 a0_1) a1_0 (wrap32 a1_1)).bind fun t => some (t.2.1, wrap64 t.2.2, t.1)
theorem impl_AmountSub.mono : ∀ a0 a1 a2 a3 k, LeO (impl_AmountSub.f k a0 a1 a2 a3) (impl_AmountSub.f (k + 1) a0 a1 a2 a3) := by
  intro a0 a1 a2 a3 k
  unfold impl_AmountSub.f
  exact LeO.bind (resource_int64Amount_Sub.mono _ _ _ _ _) (fun _ => LeO.refl _)
theorem impl_AmountSub.walk_ (k : Nat) (a0_0 a0_1 a1_0 a1_1 : Int) (r1 : Bool) (r2 r3 : Int) (w : World) (h : resource_int64Amount_Sub.f k a0_0 (wrap32 a0_1) a1_0 (wrap32 a1_1) = some (r1, r2, r3)) :
    Calls Try.prog 9 #[.agg #[.int .i64 a0_0, .int .i64 a0_1], .agg #[.int .i64 a1_0, .int .i64 a1_1]] w fun e w' => e = .returned (.tuple #[.agg #[.int .i64 r2, .int .i64 (wrap64 r3)], .bool r1]) ∧ Below w.heap.size w w' := by
  have hu1 := Try.underlying47
  have HA := Aside0.mk h
  clear h
  go_enter Try.func9, Try.ntmps9
  go_wp2_with fail
  (with_reducible refine (resource_ZzAmount.calls a0_0 _ _ _ _ rfl).mono ?_)
  rintro e w1 ⟨rfl, hb1⟩
  have hz1 := hb1.size
  have HB1 := Aside0.mk hb1
  clear hb1
  simp at hz1
  have hy1 : w.heap.size + 1 < w1.heap.size := by omega
  have hy2 : w.heap.size < w1.heap.size := by omega
  have hy3 : w.heap.size + 1 + 1 < w1.heap.size := by omega
  have Q0 : (((w.alloc (.cells #[.int .i64 a0_0, .int .i64 a0_1] 29)).alloc (.cells #[.int .i64 a1_0, .int .i64 a1_1] 29)).alloc (.cells #[.int .i64 0, .int .i64 0] 29)).heap[w.heap.size + 1]? = some (.cells #[.int .i64 a1_0, .int .i64 a1_1] 29 (0, 0)) :=
    blk_alloc (by simpa using heap_alloc_new (w.alloc (.cells #[.int .i64 a0_0, .int .i64 a0_1] 29)) (.cells #[.int .i64 a1_0, .int .i64 a1_1] 29)) _
  have Q1 := blk_below Q0 HB1.out
  have q0 : w1.cell? ⟨w.heap.size + 1, 0, none⟩ = some (.int .i64 a1_0) := (blk_cell Q1 0).trans rfl
  have q1 : w1.cell? ⟨w.heap.size + 1, 1, none⟩ = some (.int .i64 a1_1) := (blk_cell Q1 1).trans rfl
  have HQ1 := Aside0.mk Q1
  clear Q0 Q1
  go_wp2_with fail
  (with_reducible refine (resource_ZzAmount.calls a1_0 _ _ _ _ rfl).mono ?_)
  rintro e w2 ⟨rfl, hb2⟩
  have HB0 : Below w.heap.size w w1 := (((Below.refl w.heap.size w).alloc (Nat.le_refl _) _).alloc (by simp) _ |>.alloc (by simp; omega) _).trans (HB1.out.mono (by simp; omega))
  have HS := IsS47.below (IsS47.new w w1 a0_0 (wrap32 a0_1) HB0) hb2
  have HB2 : Below w.heap.size w w2 := (HB0.alloc (by omega) _).trans (hb2.mono (by simp; omega))
  have R0 : (((w.alloc (.cells #[.int .i64 a0_0, .int .i64 a0_1] 29)).alloc (.cells #[.int .i64 a1_0, .int .i64 a1_1] 29)).alloc (.cells #[.int .i64 0, .int .i64 0] 29)).heap[w.heap.size + 1 + 1]? = some (.cells #[.int .i64 0, .int .i64 0] 29 (0, 0)) := by
    simpa using heap_alloc_new ((w.alloc (.cells #[.int .i64 a0_0, .int .i64 a0_1] 29)).alloc (.cells #[.int .i64 a1_0, .int .i64 a1_1] 29)) (.cells #[.int .i64 0, .int .i64 0] 29)
  have R1 := blk_below R0 HB1.out
  have R2 := blk_below (blk_alloc R1 (.cells #[.int .i64 a0_0, .int .i32 (wrap32 a0_1)] 47)) hb2
  clear q0 q1
  go_wp2_with fail
  (with_reducible refine (resource_int64Amount_Sub.calls k _ _ _ _ _ _ _ _ w _ HS HB2 HA.out).mono ?_)
  rintro e w3 ⟨rfl, hs3, hb3, hk3⟩
  have R3 := KeepBut.blk hk3 R2 (by omega) (by simp)
  clear R0 R1 R2 hb2 hk3 HS HB0 HB2 HB1 HQ1
  have f0 : w3.cell? ⟨w1.heap.size, 0, none⟩ = some (.int .i64 r2) := cellS47_0 hs3.1
  have f1 : w3.cell? ⟨w1.heap.size, 1, none⟩ = some (.int .i32 r3) := cellS47_1 hs3.1
  have f2 := blk_frozen hs3.1 0
  have f3 := blk_frozen hs3.1 1
  have HB3 := Aside0.mk hb3
  have HR3 := Aside0.mk R3
  have hlt2 : w1.heap.size < w3.heap.size := hs3.lt
  clear hb3 R3 hs3
  go_wp2_with fail
  (with_reducible refine (resource_int64Amount_ZzParts.calls _ _ _ _ _ rfl).mono ?_)
  rintro e w4 ⟨rfl, hb4⟩
  have R4 := blk_below HR3.out hb4
  have HB4 : Below w.heap.size w w4 := HB3.out.trans (hb4.mono (by omega))
  clear f0 f1 f2 f3 hb4 HR3 HB3
  have f4 : w4.cell? ⟨w.heap.size + 1 + 1, 0, none⟩ = some (.int .i64 0) := (blk_cell R4 0).trans rfl
  have f5 : w4.cell? ⟨w.heap.size + 1 + 1, 1, none⟩ = some (.int .i64 0) := (blk_cell R4 1).trans rfl
  have f6 := blk_frozen R4 0
  have f7 := blk_frozen R4 1
  have HR4 := Aside0.mk R4
  have HB := Aside0.mk HB4
  clear R4 HB4
  go_wp2_with fail
  refine bodyPost_ret (results_ct rfl _ _ (w.heap.size + 1 + 1) 29 #[.int .i64 r2, .int .i64 (wrap64 r3)] (0, 0) _ rfl (blk_put (cs := #[.int .i64 r2, .int .i64 0]) (blk_put (cs := #[.int .i64 0, .int .i64 0]) HR4.out 0 _ rfl) 1 _ rfl) Try.underlying29 rfl (by kernel_rfl)) rfl ?_
  exact ⟨rfl, below_set (below_set HB.out (by omega)) (by omega)⟩
theorem impl_AmountSub.calls (k : Nat) (a0_0 : Int) (a0_1 : Int) (a1_0 : Int) (a1_1 : Int) (r1 : Int) (r2 : Int) (r3 : Bool) (w : World) (h : impl_AmountSub.f k a0_0 a0_1 a1_0 a1_1 = some (r1, r2, r3)) :
    Calls Try.prog 9 #[.agg #[.int .i64 a0_0, .int .i64 a0_1], .agg #[.int .i64 a1_0, .int .i64 a1_1]] w fun e w' => e = .returned (.tuple #[.agg #[.int .i64 r1, .int .i64 r2], .bool r3]) ∧ Below w.heap.size w w' := by
  unfold impl_AmountSub.f at h
  obtain ⟨⟨t1, t2, t3⟩, ht, he⟩ := Option.bind_eq_some_iff.1 h
  simp only [Option.some.injEq, Prod.mk.injEq] at he
  obtain ⟨rfl, rfl, rfl⟩ := he
  exact impl_AmountSub.walk_ k _ _ _ _ _ _ _ w ht

/-! ### spec_larger: function 23 -/
mutual
def spec_larger.l0 : Nat → Int → Bool → List Int → Int → Bool → List Int → Int → Option (Int)
  | 0, _, _, _, _, _, _, _ => none
  | k + 1, x7, x175000, x175001, x175002, x176000, x176001, x176002 => if x7 < (x175001.length : Int) then (spec_larger.j1 k x7 true x175000 x175001 x175002 x176000 x176001 x176002) else (spec_larger.j1 k x7 (decide (x7 < (x176001.length : Int))) x175000 x175001 x175002 x176000 x176001 x176002)
def spec_larger.j1 : Nat → Int → Bool → Bool → List Int → Int → Bool → List Int → Int → Option (Int)
  | 0, _, _, _, _, _, _, _, _ => none
  | k + 1, x7, x39, x175000, x175001, x175002, x176000, x176001, x176002 => if x39 = true then (if x7 < (x175001.length : Int) then (if 0 ≤ x7 then (spec_larger.j2 k x7 (rd x175001 x7) 0 x175000 x175001 x175002 x176000 x176001 x176002) else (none)) else (spec_larger.j2 k x7 0 0 x175000 x175001 x175002 x176000 x176001 x176002)) else (some 0)
def spec_larger.j2 : Nat → Int → Int → Int → Bool → List Int → Int → Bool → List Int → Int → Option (Int)
  | 0, _, _, _, _, _, _, _, _, _ => none
  | k + 1, x7, x8, x9, x175000, x175001, x175002, x176000, x176001, x176002 => if x7 < (x176001.length : Int) then (if 0 ≤ x7 then (spec_larger.j3 k x7 x8 (rd x176001 x7) x175000 x175001 x175002 x176000 x176001 x176002) else (none)) else (spec_larger.j3 k x7 x8 x9 x175000 x175001 x175002 x176000 x176001 x176002)
def spec_larger.j3 : Nat → Int → Int → Int → Bool → List Int → Int → Bool → List Int → Int → Option (Int)
  | 0, _, _, _, _, _, _, _, _, _ => none
  | k + 1, x7, x8, x9, x175000, x175001, x175002, x176000, x176001, x176002 => if x8 = x9 then (spec_larger.l0 k (wrap64 (x7 + 1)) x175000 x175001 x175002 x176000 x176001 x176002) else (if x8 < x9 then (some (-1)) else (some 1))
end
def spec_larger.f (k : Nat) (a0_0 : Bool) (l0_1 : List Int) (a0_2 : Int) (a1_0 : Bool) (l1_1 : List Int) (a1_2 : Int) : Option (Int) := if (wrap64 ((l0_1.length : Int) + a0_2)) = (wrap64 ((l1_1.length : Int) + a1_2)) then (spec_larger.l0 k 0 a0_0 l0_1 a0_2 a1_0 l1_1 a1_2) else (if (wrap64 ((l0_1.length : Int) + a0_2)) < (wrap64 ((l1_1.length : Int) + a1_2)) then (some (-1)) else (some 1))
theorem spec_larger.mono_l : ∀ k, (∀ y0 y1 y2 y3 y4 y5 y6, LeO (spec_larger.l0 k y0 y1 y2 y3 y4 y5 y6) (spec_larger.l0 (k + 1) y0 y1 y2 y3 y4 y5 y6)) ∧ (∀ y0 y1 y2 y3 y4 y5 y6 y7, LeO (spec_larger.j1 k y0 y1 y2 y3 y4 y5 y6 y7) (spec_larger.j1 (k + 1) y0 y1 y2 y3 y4 y5 y6 y7)) ∧ (∀ y0 y1 y2 y3 y4 y5 y6 y7 y8, LeO (spec_larger.j2 k y0 y1 y2 y3 y4 y5 y6 y7 y8) (spec_larger.j2 (k + 1) y0 y1 y2 y3 y4 y5 y6 y7 y8)) ∧ (∀ y0 y1 y2 y3 y4 y5 y6 y7 y8, LeO (spec_larger.j3 k y0 y1 y2 y3 y4 y5 y6 y7 y8) (spec_larger.j3 (k + 1) y0 y1 y2 y3 y4 y5 y6 y7 y8))
  | 0 => ⟨fun _ _ _ _ _ _ _ r h => by simp [spec_larger.l0] at h, fun _ _ _ _ _ _ _ _ r h => by simp [spec_larger.j1] at h, fun _ _ _ _ _ _ _ _ _ r h => by simp [spec_larger.j2] at h, fun _ _ _ _ _ _ _ _ _ r h => by simp [spec_larger.j3] at h⟩
  | k + 1 => by
    obtain ⟨ih0, ih1, ih2, ih3⟩ := spec_larger.mono_l k
    refine ⟨?_, ?_, ?_, ?_⟩
    · intro y0 y1 y2 y3 y4 y5 y6
      unfold spec_larger.l0
      repeat' first
      | (with_reducible exact ih0 _ _ _ _ _ _ _)
      | (with_reducible exact ih1 _ _ _ _ _ _ _ _)
      | (with_reducible exact ih2 _ _ _ _ _ _ _ _ _)
      | (with_reducible exact ih3 _ _ _ _ _ _ _ _ _)
      | (with_reducible exact LeO.refl _)
      | (with_reducible exact LeO.none _)
      | (with_reducible refine LeO.ite ?_ ?_)
      | (with_reducible refine LeO.bind ?_ (fun _ => ?_))
      | exact ih0 _ _ _ _ _ _ _
      | exact ih1 _ _ _ _ _ _ _ _
      | exact ih2 _ _ _ _ _ _ _ _ _
      | exact ih3 _ _ _ _ _ _ _ _ _
      | exact LeO.none _
      | refine LeO.ite ?_ ?_
      | refine LeO.bind ?_ (fun _ => ?_)
    · intro y0 y1 y2 y3 y4 y5 y6 y7
      unfold spec_larger.j1
      repeat' first
      | (with_reducible exact ih0 _ _ _ _ _ _ _)
      | (with_reducible exact ih1 _ _ _ _ _ _ _ _)
      | (with_reducible exact ih2 _ _ _ _ _ _ _ _ _)
      | (with_reducible exact ih3 _ _ _ _ _ _ _ _ _)
      | (with_reducible exact LeO.refl _)
      | (with_reducible exact LeO.none _)
      | (with_reducible refine LeO.ite ?_ ?_)
      | (with_reducible refine LeO.bind ?_ (fun _ => ?_))
      | exact ih0 _ _ _ _ _ _ _
      | exact ih1 _ _ _ _ _ _ _ _
      | exact ih2 _ _ _ _ _ _ _ _ _
      | exact ih3 _ _ _ _ _ _ _ _ _
      | exact LeO.none _
      | refine LeO.ite ?_ ?_
      | refine LeO.bind ?_ (fun _ => ?_)
    · intro y0 y1 y2 y3 y4 y5 y6 y7 y8
      unfold spec_larger.j2
      repeat' first
      | (with_reducible exact ih0 _ _ _ _ _ _ _)
      | (with_reducible exact ih1 _ _ _ _ _ _ _ _)
      | (with_reducible exact ih2 _ _ _ _ _ _ _ _ _)
      | (with_reducible exact ih3 _ _ _ _ _ _ _ _ _)
      | (with_reducible exact LeO.refl _)
      | (with_reducible exact LeO.none _)
      | (with_reducible refine LeO.ite ?_ ?_)
      | (with_reducible refine LeO.bind ?_ (fun _ => ?_))
      | exact ih0 _ _ _ _ _ _ _
      | exact ih1 _ _ _ _ _ _ _ _
      | exact ih2 _ _ _ _ _ _ _ _ _
      | exact ih3 _ _ _ _ _ _ _ _ _
      | exact LeO.none _
      | refine LeO.ite ?_ ?_
      | refine LeO.bind ?_ (fun _ => ?_)
    · intro y0 y1 y2 y3 y4 y5 y6 y7 y8
      unfold spec_larger.j3
      repeat' first
      | (with_reducible exact ih0 _ _ _ _ _ _ _)
      | (with_reducible exact ih1 _ _ _ _ _ _ _ _)
      | (with_reducible exact ih2 _ _ _ _ _ _ _ _ _)
      | (with_reducible exact ih3 _ _ _ _ _ _ _ _ _)
      | (with_reducible exact LeO.refl _)
      | (with_reducible exact LeO.none _)
      | (with_reducible refine LeO.ite ?_ ?_)
      | (with_reducible refine LeO.bind ?_ (fun _ => ?_))
      | exact ih0 _ _ _ _ _ _ _
      | exact ih1 _ _ _ _ _ _ _ _
      | exact ih2 _ _ _ _ _ _ _ _ _
      | exact ih3 _ _ _ _ _ _ _ _ _
      | exact LeO.none _
      | refine LeO.ite ?_ ?_
      | refine LeO.bind ?_ (fun _ => ?_)
theorem spec_larger.mono : ∀ a0 a1 a2 a3 a4 a5 k, LeO (spec_larger.f k a0 a1 a2 a3 a4 a5) (spec_larger.f (k + 1) a0 a1 a2 a3 a4 a5) := by
  intro a0 a1 a2 a3 a4 a5 k
  obtain ⟨ih0, ih1, ih2, ih3⟩ := spec_larger.mono_l k
  unfold spec_larger.f
  repeat' first
      | (with_reducible exact ih0 _ _ _ _ _ _ _)
      | (with_reducible exact ih1 _ _ _ _ _ _ _ _)
      | (with_reducible exact ih2 _ _ _ _ _ _ _ _ _)
      | (with_reducible exact ih3 _ _ _ _ _ _ _ _ _)
      | (with_reducible exact LeO.refl _)
      | (with_reducible exact LeO.none _)
      | (with_reducible refine LeO.ite ?_ ?_)
      | (with_reducible refine LeO.bind ?_ (fun _ => ?_))
      | exact ih0 _ _ _ _ _ _ _
      | exact ih1 _ _ _ _ _ _ _ _
      | exact ih2 _ _ _ _ _ _ _ _ _
      | exact ih3 _ _ _ _ _ _ _ _ _
      | exact LeO.none _
      | refine LeO.ite ?_ ?_
      | refine LeO.bind ?_ (fun _ => ?_)
set_option maxHeartbeats 8000000 in
set_option maxRecDepth 100000 in
theorem spec_larger.calls (k : Nat) (a0_0 : Bool) (A0_1 : Option Addr) (c0_1 : Nat) (l0_1 : List Int) (a0_2 : Int) (a1_0 : Bool) (A1_1 : Option Addr) (c1_1 : Nat) (l1_1 : List Int) (a1_2 : Int) (r : Int) (w : World) (hr0_1 : Kd.C (Kd.int .i64) w A0_1 l0_1.length l0_1) (hc0_1 : l0_1.length ≤ c0_1) (hr1_1 : Kd.C (Kd.int .i64) w A1_1 l1_1.length l1_1) (hc1_1 : l1_1.length ≤ c1_1) (h : spec_larger.f k a0_0 l0_1 a0_2 a1_0 l1_1 a1_2 = some r) :
    Calls Try.prog 23 #[.agg #[.bool a0_0, .slice A0_1 l0_1.length c0_1, .int .i64 a0_2], .agg #[.bool a1_0, .slice A1_1 l1_1.length c1_1, .int .i64 a1_2]] w fun e w' => e = .returned (.int .i64 r) ∧ Below w.heap.size w w' := by
  have hu32 := Try.underlying32
  have HR0_1 := Aside0.mk hr0_1
  have HC0_1 := Aside0.mk hc0_1
  clear hr0_1 hc0_1
  have HR1_1 := Aside0.mk hr1_1
  have HC1_1 := Aside0.mk hc1_1
  clear hr1_1 hc1_1
  have HB := Aside0.mk (Below.refl w.heap.size w)
  have H : (if (wrap64 ((l0_1.length : Int) + a0_2)) = (wrap64 ((l1_1.length : Int) + a1_2)) then (spec_larger.l0 k 0 a0_0 l0_1 a0_2 a1_0 l1_1 a1_2) else (if (wrap64 ((l0_1.length : Int) + a0_2)) < (wrap64 ((l1_1.length : Int) + a1_2)) then (some (-1)) else (some 1))) = some r := h
  clear h
  by_cases c3 : (wrap64 ((l0_1.length : Int) + a0_2)) = (wrap64 ((l1_1.length : Int) + a1_2))
  · rw [if_pos c3] at H
    have c3b0 : ((wrap64 ((l0_1.length : Int) + a0_2)) == (wrap64 ((l1_1.length : Int) + a1_2))) = true := beq_iff_eq.mpr c3
    have c3b1 : ((wrap64 ((l0_1.length : Int) + a0_2)) != (wrap64 ((l1_1.length : Int) + a1_2))) = false := bne_eq_false_iff_eq.mpr c3
    clear c3
    have H' := Aside0.mk H
    clear H
    go_enter Try.func23, Try.ntmps23
    go_wp2_with (first | ((with_reducible refine gate_dst (N := 2) rfl ?_); (try (refine gate_guard (by rfl) ?_; dsimp only)); refine box_event ?hg (N := 2) ?hd (cs := #[.bool a0_0, .slice A0_1 l0_1.length c0_1, .int .i64 a0_2]) (t := 32) ?hr ?_; (case hd => rfl); (case hg => rfl); (case hr => first | (go_simp; done) | (go_simp; rfl)); intro gb174 hg w4 hbox hb; have n0_ := Aside0.mk (below_step (by repeat (first | (with_reducible first | exact HB.out | apply below_alloc | apply pw_below_drewN | apply below_drew1) | exact HB.out)) hb); have n1_ := Aside0.mk (hbox); have n2_ := Aside0.mk ((by rw [hg]; exact (below_size (by repeat (first | (with_reducible first | exact HB.out | apply below_alloc | apply pw_below_drewN | apply below_drew1) | exact HB.out))) : w.heap.size ≤ gb174)); have n3_ := Aside0.mk ((by rw [hg]; exact (below_size (by repeat (first | (with_reducible first | exact HB.out | apply below_alloc | apply pw_below_drewN | apply below_drew1) | exact HB.out))) : w.heap.size ≤ gb174)); clear HB; have HB := n0_; have BK174 := n1_; have GW174 := n2_; have GE174 := n3_; clear n0_ n1_ n2_ n3_; clear hb hbox hg) | ((with_reducible refine gate_dst (N := 3) rfl ?_); (try (refine gate_guard (by rfl) ?_; dsimp only)); refine box_event ?hg (N := 3) ?hd (cs := #[.bool a1_0, .slice A1_1 l1_1.length c1_1, .int .i64 a1_2]) (t := 32) ?hr ?_; (case hd => rfl); (case hg => rfl); (case hr => first | (go_simp; done) | (go_simp; rfl)); intro gb175 hg w5 hbox hb; have n0_ := Aside0.mk (blk_below (g := gb174) (o := .cells #[.bool a0_0, .slice A0_1 l0_1.length c0_1, .int .i64 a0_2] 32 (0, 0)) (by (with_reducible repeat (first | refine blk_drewN ?_ _ | refine blk_drew ?_ | refine blk_alloc ?_ _)); exact BK174.out) hb); have n1_ := Aside0.mk (below_step (by repeat (first | (with_reducible first | exact HB.out | apply below_alloc | apply pw_below_drewN | apply below_drew1 | refine below_set ?_ GE174.out) | exact HB.out)) hb); have n2_ := Aside0.mk (hbox); have n3_ := Aside0.mk ((by rw [hg]; exact (below_size (by repeat (first | (with_reducible first | exact HB.out | apply below_alloc | apply pw_below_drewN | apply below_drew1 | refine below_set ?_ GE174.out) | exact HB.out))) : w.heap.size ≤ gb175)); have n4_ := Aside0.mk ((by rw [hg]; exact (below_size (by repeat (first | (with_reducible first | exact HB.out | apply below_alloc | apply pw_below_drewN | apply below_drew1 | refine below_set ?_ GE174.out) | exact HB.out))) : w.heap.size ≤ gb175)); have n5_ := Aside0.mk ((by rw [hg]; exact Nat.ne_of_lt (blk_lt (g := gb174) (o := .cells #[.bool a0_0, .slice A0_1 l0_1.length c0_1, .int .i64 a0_2] 32 (0, 0)) (by (with_reducible repeat (first | refine blk_drewN ?_ _ | refine blk_drew ?_ | refine blk_alloc ?_ _)); exact BK174.out)) : gb174 ≠ gb175)); have n6_ := Aside0.mk ((by rw [hg]; exact Nat.ne_of_gt (blk_lt (g := gb174) (o := .cells #[.bool a0_0, .slice A0_1 l0_1.length c0_1, .int .i64 a0_2] 32 (0, 0)) (by (with_reducible repeat (first | refine blk_drewN ?_ _ | refine blk_drew ?_ | refine blk_alloc ?_ _)); exact BK174.out)) : gb175 ≠ gb174)); clear BK174; clear HB; have BK174 := n0_; have HB := n1_; have BK175 := n2_; have GW175 := n3_; have GE175 := n4_; have NB174_175 := n5_; have NB175_174 := n6_; clear n0_ n1_ n2_ n3_ n4_ n5_ n6_; clear hb hbox hg; have hnb6 := NB174_175.out; have hnc6 := NB175_174.out; have hcz7_0 : w5.cell? ⟨gb174, 0, none⟩ = some (.bool a0_0) := (blk_cell BK174.out 0).trans rfl; have hcz7_1 : w5.cell? ⟨gb174, 1, none⟩ = some (.slice A0_1 l0_1.length c0_1) := (blk_cell BK174.out 1).trans rfl; have hcz7_2 : w5.cell? ⟨gb174, 2, none⟩ = some (.int .i64 a0_2) := (blk_cell BK174.out 2).trans rfl; have hfz7_0 := blk_frozen BK174.out 0; have hfz7_1 := blk_frozen BK174.out 1; have hfz7_2 := blk_frozen BK174.out 2; have hcz8_0 : w5.cell? ⟨gb175, 0, none⟩ = some (.bool a1_0) := (blk_cell BK175.out 0).trans rfl; have hcz8_1 : w5.cell? ⟨gb175, 1, none⟩ = some (.slice A1_1 l1_1.length c1_1) := (blk_cell BK175.out 1).trans rfl; have hcz8_2 : w5.cell? ⟨gb175, 2, none⟩ = some (.int .i64 a1_2) := (blk_cell BK175.out 2).trans rfl; have hfz8_0 := blk_frozen BK175.out 0; have hfz8_1 := blk_frozen BK175.out 1; have hfz8_2 := blk_frozen BK175.out 2))
    repeat (go_quiet (first | ((with_reducible refine gate_dst (N := 2) rfl ?_); (try (refine gate_guard (by rfl) ?_; dsimp only)); refine box_event ?hg (N := 2) ?hd (cs := #[.bool a0_0, .slice A0_1 l0_1.length c0_1, .int .i64 a0_2]) (t := 32) ?hr ?_; (case hd => rfl); (case hg => rfl); (case hr => first | (go_simp; done) | (go_simp; rfl)); intro gb174 hg w4 hbox hb; have n0_ := Aside0.mk (below_step (by repeat (first | (with_reducible first | exact HB.out | apply below_alloc | apply pw_below_drewN | apply below_drew1) | exact HB.out)) hb); have n1_ := Aside0.mk (hbox); have n2_ := Aside0.mk ((by rw [hg]; exact (below_size (by repeat (first | (with_reducible first | exact HB.out | apply below_alloc | apply pw_below_drewN | apply below_drew1) | exact HB.out))) : w.heap.size ≤ gb174)); have n3_ := Aside0.mk ((by rw [hg]; exact (below_size (by repeat (first | (with_reducible first | exact HB.out | apply below_alloc | apply pw_below_drewN | apply below_drew1) | exact HB.out))) : w.heap.size ≤ gb174)); clear HB; have HB := n0_; have BK174 := n1_; have GW174 := n2_; have GE174 := n3_; clear n0_ n1_ n2_ n3_; clear hb hbox hg) | ((with_reducible refine gate_dst (N := 3) rfl ?_); (try (refine gate_guard (by rfl) ?_; dsimp only)); refine box_event ?hg (N := 3) ?hd (cs := #[.bool a1_0, .slice A1_1 l1_1.length c1_1, .int .i64 a1_2]) (t := 32) ?hr ?_; (case hd => rfl); (case hg => rfl); (case hr => first | (go_simp; done) | (go_simp; rfl)); intro gb175 hg w5 hbox hb; have n0_ := Aside0.mk (blk_below (g := gb174) (o := .cells #[.bool a0_0, .slice A0_1 l0_1.length c0_1, .int .i64 a0_2] 32 (0, 0)) (by (with_reducible repeat (first | refine blk_drewN ?_ _ | refine blk_drew ?_ | refine blk_alloc ?_ _)); exact BK174.out) hb); have n1_ := Aside0.mk (below_step (by repeat (first | (with_reducible first | exact HB.out | apply below_alloc | apply pw_below_drewN | apply below_drew1 | refine below_set ?_ GE174.out) | exact HB.out)) hb); have n2_ := Aside0.mk (hbox); have n3_ := Aside0.mk ((by rw [hg]; exact (below_size (by repeat (first | (with_reducible first | exact HB.out | apply below_alloc | apply pw_below_drewN | apply below_drew1 | refine below_set ?_ GE174.out) | exact HB.out))) : w.heap.size ≤ gb175)); have n4_ := Aside0.mk ((by rw [hg]; exact (below_size (by repeat (first | (with_reducible first | exact HB.out | apply below_alloc | apply pw_below_drewN | apply below_drew1 | refine below_set ?_ GE174.out) | exact HB.out))) : w.heap.size ≤ gb175)); have n5_ := Aside0.mk ((by rw [hg]; exact Nat.ne_of_lt (blk_lt (g := gb174) (o := .cells #[.bool a0_0, .slice A0_1 l0_1.length c0_1, .int .i64 a0_2] 32 (0, 0)) (by (with_reducible repeat (first | refine blk_drewN ?_ _ | refine blk_drew ?_ | refine blk_alloc ?_ _)); exact BK174.out)) : gb174 ≠ gb175)); have n6_ := Aside0.mk ((by rw [hg]; exact Nat.ne_of_gt (blk_lt (g := gb174) (o := .cells #[.bool a0_0, .slice A0_1 l0_1.length c0_1, .int .i64 a0_2] 32 (0, 0)) (by (with_reducible repeat (first | refine blk_drewN ?_ _ | refine blk_drew ?_ | refine blk_alloc ?_ _)); exact BK174.out)) : gb175 ≠ gb174)); clear BK174; clear HB; have BK174 := n0_; have HB := n1_; have BK175 := n2_; have GW175 := n3_; have GE175 := n4_; have NB174_175 := n5_; have NB175_174 := n6_; clear n0_ n1_ n2_ n3_ n4_ n5_ n6_; clear hb hbox hg; have hnb6 := NB174_175.out; have hnc6 := NB175_174.out; have hcz7_0 : w5.cell? ⟨gb174, 0, none⟩ = some (.bool a0_0) := (blk_cell BK174.out 0).trans rfl; have hcz7_1 : w5.cell? ⟨gb174, 1, none⟩ = some (.slice A0_1 l0_1.length c0_1) := (blk_cell BK174.out 1).trans rfl; have hcz7_2 : w5.cell? ⟨gb174, 2, none⟩ = some (.int .i64 a0_2) := (blk_cell BK174.out 2).trans rfl; have hfz7_0 := blk_frozen BK174.out 0; have hfz7_1 := blk_frozen BK174.out 1; have hfz7_2 := blk_frozen BK174.out 2; have hcz8_0 : w5.cell? ⟨gb175, 0, none⟩ = some (.bool a1_0) := (blk_cell BK175.out 0).trans rfl; have hcz8_1 : w5.cell? ⟨gb175, 1, none⟩ = some (.slice A1_1 l1_1.length c1_1) := (blk_cell BK175.out 1).trans rfl; have hcz8_2 : w5.cell? ⟨gb175, 2, none⟩ = some (.int .i64 a1_2) := (blk_cell BK175.out 2).trans rfl; have hfz8_0 := blk_frozen BK175.out 0; have hfz8_1 := blk_frozen BK175.out 1; have hfz8_2 := blk_frozen BK175.out 2)); try go_wp2_with (first | ((with_reducible refine gate_dst (N := 2) rfl ?_); (try (refine gate_guard (by rfl) ?_; dsimp only)); refine box_event ?hg (N := 2) ?hd (cs := #[.bool a0_0, .slice A0_1 l0_1.length c0_1, .int .i64 a0_2]) (t := 32) ?hr ?_; (case hd => rfl); (case hg => rfl); (case hr => first | (go_simp; done) | (go_simp; rfl)); intro gb174 hg w4 hbox hb; have n0_ := Aside0.mk (below_step (by repeat (first | (with_reducible first | exact HB.out | apply below_alloc | apply pw_below_drewN | apply below_drew1) | exact HB.out)) hb); have n1_ := Aside0.mk (hbox); have n2_ := Aside0.mk ((by rw [hg]; exact (below_size (by repeat (first | (with_reducible first | exact HB.out | apply below_alloc | apply pw_below_drewN | apply below_drew1) | exact HB.out))) : w.heap.size ≤ gb174)); have n3_ := Aside0.mk ((by rw [hg]; exact (below_size (by repeat (first | (with_reducible first | exact HB.out | apply below_alloc | apply pw_below_drewN | apply below_drew1) | exact HB.out))) : w.heap.size ≤ gb174)); clear HB; have HB := n0_; have BK174 := n1_; have GW174 := n2_; have GE174 := n3_; clear n0_ n1_ n2_ n3_; clear hb hbox hg) | ((with_reducible refine gate_dst (N := 3) rfl ?_); (try (refine gate_guard (by rfl) ?_; dsimp only)); refine box_event ?hg (N := 3) ?hd (cs := #[.bool a1_0, .slice A1_1 l1_1.length c1_1, .int .i64 a1_2]) (t := 32) ?hr ?_; (case hd => rfl); (case hg => rfl); (case hr => first | (go_simp; done) | (go_simp; rfl)); intro gb175 hg w5 hbox hb; have n0_ := Aside0.mk (blk_below (g := gb174) (o := .cells #[.bool a0_0, .slice A0_1 l0_1.length c0_1, .int .i64 a0_2] 32 (0, 0)) (by (with_reducible repeat (first | refine blk_drewN ?_ _ | refine blk_drew ?_ | refine blk_alloc ?_ _)); exact BK174.out) hb); have n1_ := Aside0.mk (below_step (by repeat (first | (with_reducible first | exact HB.out | apply below_alloc | apply pw_below_drewN | apply below_drew1 | refine below_set ?_ GE174.out) | exact HB.out)) hb); have n2_ := Aside0.mk (hbox); have n3_ := Aside0.mk ((by rw [hg]; exact (below_size (by repeat (first | (with_reducible first | exact HB.out | apply below_alloc | apply pw_below_drewN | apply below_drew1 | refine below_set ?_ GE174.out) | exact HB.out))) : w.heap.size ≤ gb175)); have n4_ := Aside0.mk ((by rw [hg]; exact (below_size (by repeat (first | (with_reducible first | exact HB.out | apply below_alloc | apply pw_below_drewN | apply below_drew1 | refine below_set ?_ GE174.out) | exact HB.out))) : w.heap.size ≤ gb175)); have n5_ := Aside0.mk ((by rw [hg]; exact Nat.ne_of_lt (blk_lt (g := gb174) (o := .cells #[.bool a0_0, .slice A0_1 l0_1.length c0_1, .int .i64 a0_2] 32 (0, 0)) (by (with_reducible repeat (first | refine blk_drewN ?_ _ | refine blk_drew ?_ | refine blk_alloc ?_ _)); exact BK174.out)) : gb174 ≠ gb175)); have n6_ := Aside0.mk ((by rw [hg]; exact Nat.ne_of_gt (blk_lt (g := gb174) (o := .cells #[.bool a0_0, .slice A0_1 l0_1.length c0_1, .int .i64 a0_2] 32 (0, 0)) (by (with_reducible repeat (first | refine blk_drewN ?_ _ | refine blk_drew ?_ | refine blk_alloc ?_ _)); exact BK174.out)) : gb175 ≠ gb174)); clear BK174; clear HB; have BK174 := n0_; have HB := n1_; have BK175 := n2_; have GW175 := n3_; have GE175 := n4_; have NB174_175 := n5_; have NB175_174 := n6_; clear n0_ n1_ n2_ n3_ n4_ n5_ n6_; clear hb hbox hg; have hnb6 := NB174_175.out; have hnc6 := NB175_174.out; have hcz7_0 : w5.cell? ⟨gb174, 0, none⟩ = some (.bool a0_0) := (blk_cell BK174.out 0).trans rfl; have hcz7_1 : w5.cell? ⟨gb174, 1, none⟩ = some (.slice A0_1 l0_1.length c0_1) := (blk_cell BK174.out 1).trans rfl; have hcz7_2 : w5.cell? ⟨gb174, 2, none⟩ = some (.int .i64 a0_2) := (blk_cell BK174.out 2).trans rfl; have hfz7_0 := blk_frozen BK174.out 0; have hfz7_1 := blk_frozen BK174.out 1; have hfz7_2 := blk_frozen BK174.out 2; have hcz8_0 : w5.cell? ⟨gb175, 0, none⟩ = some (.bool a1_0) := (blk_cell BK175.out 0).trans rfl; have hcz8_1 : w5.cell? ⟨gb175, 1, none⟩ = some (.slice A1_1 l1_1.length c1_1) := (blk_cell BK175.out 1).trans rfl; have hcz8_2 : w5.cell? ⟨gb175, 2, none⟩ = some (.int .i64 a1_2) := (blk_cell BK175.out 2).trans rfl; have hfz8_0 := blk_frozen BK175.out 0; have hfz8_1 := blk_frozen BK175.out 1; have hfz8_2 := blk_frozen BK175.out 2)))
    go_loopg [7] k (fun kq v7 w' => ∃ (x7_1 : Int), v7 = .int .i64 x7_1 ∧ Aside0 (spec_larger.l0 kq x7_1 a0_0 l0_1 a0_2 a1_0 l1_1 a1_2 = some r) ∧ Aside0 (kq ≤ k) ∧ Aside0 (w'.heap[gb174]? = some (.cells #[.bool a0_0, (.slice A0_1 l0_1.length c0_1), .int .i64 a0_2] 32 (0, 0))) ∧ Aside0 (w'.heap[gb175]? = some (.cells #[.bool a1_0, (.slice A1_1 l1_1.length c1_1), .int .i64 a1_2] 32 (0, 0))) ∧ Aside0 (Below w.heap.size w w'))
    case atStart => exact ⟨(0), (by first | rfl | (simp; done) | (simp [*]; done)), H', ⟨Nat.le_refl _⟩, ⟨by (with_reducible repeat (first | refine blk_drewN ?_ _ | refine blk_drew ?_ | refine blk_alloc ?_ _)); exact BK174.out⟩, ⟨by (with_reducible repeat (first | refine blk_drewN ?_ _ | refine blk_drew ?_ | refine blk_alloc ?_ _)); exact BK175.out⟩, ⟨by repeat (first | (with_reducible first | exact HB.out | apply below_alloc | apply pw_below_drewN | apply below_drew1 | refine below_set ?_ GE174.out | refine below_set ?_ GE175.out) | exact HB.out)⟩⟩
    case round =>
      clear H'
      try clear c1
      try clear c2
      try clear p2
      try clear c3
      try clear c3b0
      try clear c3b1
      try clear c6
      try clear p6
      try clear hcz7_0
      try clear hcz7_1
      try clear hcz7_2
      try clear hcz8_0
      try clear hcz8_1
      try clear hcz8_2
      try clear hfz7_0
      try clear hfz7_1
      try clear hfz7_2
      try clear hfz8_0
      try clear hfz8_1
      try clear hfz8_2
      obtain ⟨x7_1, rfl, HA, HK1, BK174, BK175, HB⟩ := hrel
      cases gk with
      | zero => exact absurd HA.out (by simp [spec_larger.l0])
      | succ k1 =>
        have H := HA.out
        clear HA
        simp only [spec_larger.l0] at H
        have HC9 := Aside0.mk H
        clear H
        go_upto_region 7 with (fail)
        repeat (go_quiet (fail); go_upto_region 7 with (fail))
        go_cut [39] (fun v39 wc => ∃ (kq : Nat) (x39_8 : Bool), v39 = .bool x39_8 ∧ Aside0 (spec_larger.j1 kq x7_1 x39_8 a0_0 l0_1 a0_2 a1_0 l1_1 a1_2 = some r) ∧ Aside0 (kq ≤ k1) ∧ Aside0 (wc.heap[gb174]? = some (.cells #[.bool a0_0, (.slice A0_1 l0_1.length c0_1), .int .i64 a0_2] 32 (0, 0))) ∧ Aside0 (wc.heap[gb175]? = some (.cells #[.bool a1_0, (.slice A1_1 l1_1.length c1_1), .int .i64 a1_2] 32 (0, 0))) ∧ Aside0 (Below w.heap.size w wc))
        case first =>
          have H := HC9.out
          clear HC9
          by_cases c10 : x7_1 < (l0_1.length : Int)
          · rw [if_pos c10] at H
            have c10b0 : decide (x7_1 < (l0_1.length : Int)) = true := decide_eq_true c10
            clear c10
            (first | rw [c10b0] | (simp only [i64_w, i32_w]; rw [c10b0]) | skip)
            have H' := Aside0.mk H
            clear H
            have hnb11 := NB174_175.out
            have hnc11 := NB175_174.out
            have hcz12_0 : wr.cell? ⟨gb174, 0, none⟩ = some (.bool a0_0) := (blk_cell BK174.out 0).trans rfl
            have hcz12_1 : wr.cell? ⟨gb174, 1, none⟩ = some (.slice A0_1 l0_1.length c0_1) := (blk_cell BK174.out 1).trans rfl
            have hcz12_2 : wr.cell? ⟨gb174, 2, none⟩ = some (.int .i64 a0_2) := (blk_cell BK174.out 2).trans rfl
            have hfz12_0 := blk_frozen BK174.out 0
            have hfz12_1 := blk_frozen BK174.out 1
            have hfz12_2 := blk_frozen BK174.out 2
            go_wp2
            repeat (go_quiet (fail); try go_wp2)
            go_meet
            case rel => exact ⟨_, (true), (by first | rfl | (simp; done) | (simp [*]; done)), H', ⟨by have := HK1.out; first | omega | exact Nat.le_refl _⟩, ⟨by (with_reducible repeat (first | refine blk_drewN ?_ _ | refine blk_drew ?_ | refine blk_alloc ?_ _)); exact BK174.out⟩, ⟨by (with_reducible repeat (first | refine blk_drewN ?_ _ | refine blk_drew ?_ | refine blk_alloc ?_ _)); exact BK175.out⟩, ⟨by repeat (first | (with_reducible first | exact HB.out | apply below_alloc | apply pw_below_drewN | apply below_drew1 | refine below_set ?_ GE174.out | refine below_set ?_ GE175.out) | exact HB.out)⟩⟩
          · rw [if_neg c10] at H
            have c10b0 : decide (x7_1 < (l0_1.length : Int)) = false := decide_eq_false c10
            clear c10
            (first | rw [c10b0] | (simp only [i64_w, i32_w]; rw [c10b0]) | skip)
            have H' := Aside0.mk H
            clear H
            have hnb13 := NB174_175.out
            have hnc13 := NB175_174.out
            have hcz14_0 : wr.cell? ⟨gb174, 0, none⟩ = some (.bool a0_0) := (blk_cell BK174.out 0).trans rfl
            have hcz14_1 : wr.cell? ⟨gb174, 1, none⟩ = some (.slice A0_1 l0_1.length c0_1) := (blk_cell BK174.out 1).trans rfl
            have hcz14_2 : wr.cell? ⟨gb174, 2, none⟩ = some (.int .i64 a0_2) := (blk_cell BK174.out 2).trans rfl
            have hfz14_0 := blk_frozen BK174.out 0
            have hfz14_1 := blk_frozen BK174.out 1
            have hfz14_2 := blk_frozen BK174.out 2
            have hcz15_0 : wr.cell? ⟨gb175, 0, none⟩ = some (.bool a1_0) := (blk_cell BK175.out 0).trans rfl
            have hcz15_1 : wr.cell? ⟨gb175, 1, none⟩ = some (.slice A1_1 l1_1.length c1_1) := (blk_cell BK175.out 1).trans rfl
            have hcz15_2 : wr.cell? ⟨gb175, 2, none⟩ = some (.int .i64 a1_2) := (blk_cell BK175.out 2).trans rfl
            have hfz15_0 := blk_frozen BK175.out 0
            have hfz15_1 := blk_frozen BK175.out 1
            have hfz15_2 := blk_frozen BK175.out 2
            go_wp2
            repeat (go_quiet (fail); try go_wp2)
            go_meet
            case rel => exact ⟨_, (decide (x7_1 < (l1_1.length : Int))), (by first | rfl | (simp; done) | (simp [*]; done)), H', ⟨by have := HK1.out; first | omega | exact Nat.le_refl _⟩, ⟨by (with_reducible repeat (first | refine blk_drewN ?_ _ | refine blk_drew ?_ | refine blk_alloc ?_ _)); exact BK174.out⟩, ⟨by (with_reducible repeat (first | refine blk_drewN ?_ _ | refine blk_drew ?_ | refine blk_alloc ?_ _)); exact BK175.out⟩, ⟨by repeat (first | (with_reducible first | exact HB.out | apply below_alloc | apply pw_below_drewN | apply below_drew1 | refine below_set ?_ GE174.out | refine below_set ?_ GE175.out) | exact HB.out)⟩⟩
        case rest =>
          clear HC9
          try clear c1
          try clear c2
          try clear p2
          try clear c3
          try clear c3b0
          try clear c3b1
          try clear c6
          try clear p6
          try clear c10
          try clear c10b0
          try clear c11
          try clear c13
          try clear hcz12_0
          try clear hcz12_1
          try clear hcz12_2
          try clear hcz14_0
          try clear hcz14_1
          try clear hcz14_2
          try clear hcz15_0
          try clear hcz15_1
          try clear hcz15_2
          try clear hcz7_0
          try clear hcz7_1
          try clear hcz7_2
          try clear hcz8_0
          try clear hcz8_1
          try clear hcz8_2
          try clear hfz12_0
          try clear hfz12_1
          try clear hfz12_2
          try clear hfz14_0
          try clear hfz14_1
          try clear hfz14_2
          try clear hfz15_0
          try clear hfz15_1
          try clear hfz15_2
          try clear hfz7_0
          try clear hfz7_1
          try clear hfz7_2
          try clear hfz8_0
          try clear hfz8_1
          try clear hfz8_2
          try clear p2
          try clear p6
          obtain ⟨kq, x39_8, rfl, HA, HJ8, BK174, BK175, HB⟩ := hcut
          cases kq with
          | zero => exact absurd HA.out (by simp [spec_larger.j1])
          | succ kj8 =>
            have H := HA.out
            clear HA
            simp only [spec_larger.j1] at H
            by_cases c16 : x39_8 = true
            · subst c16
              have H1 : (if x7_1 < (l0_1.length : Int) then (if 0 ≤ x7_1 then (spec_larger.j2 kj8 x7_1 (rd l0_1 x7_1) 0 a0_0 l0_1 a0_2 a1_0 l1_1 a1_2) else (none)) else (spec_larger.j2 kj8 x7_1 0 0 a0_0 l0_1 a0_2 a1_0 l1_1 a1_2)) = some r := by rw [if_pos rfl] at H; exact H
              clear H
              have H := H1
              clear H1
              have HC17 := Aside0.mk H
              clear H
              have hnb18 := NB174_175.out
              have hnc18 := NB175_174.out
              have hcz19_0 : wc.cell? ⟨gb174, 0, none⟩ = some (.bool a0_0) := (blk_cell BK174.out 0).trans rfl
              have hcz19_1 : wc.cell? ⟨gb174, 1, none⟩ = some (.slice A0_1 l0_1.length c0_1) := (blk_cell BK174.out 1).trans rfl
              have hcz19_2 : wc.cell? ⟨gb174, 2, none⟩ = some (.int .i64 a0_2) := (blk_cell BK174.out 2).trans rfl
              have hfz19_0 := blk_frozen BK174.out 0
              have hfz19_1 := blk_frozen BK174.out 1
              have hfz19_2 := blk_frozen BK174.out 2
              go_upto_if 46 with (fail)
              repeat (go_quiet (fail); go_upto_if 46 with (fail))
              go_cut [8] (fun v8 wc => ∃ (kq : Nat) (x8_16 : Int), v8 = .int .i64 x8_16 ∧ Aside0 (spec_larger.j2 kq x7_1 x8_16 0 a0_0 l0_1 a0_2 a1_0 l1_1 a1_2 = some r) ∧ Aside0 (kq ≤ kj8) ∧ Aside0 (wc.heap[gb174]? = some (.cells #[.bool a0_0, (.slice A0_1 l0_1.length c0_1), .int .i64 a0_2] 32 (0, 0))) ∧ Aside0 (wc.heap[gb175]? = some (.cells #[.bool a1_0, (.slice A1_1 l1_1.length c1_1), .int .i64 a1_2] 32 (0, 0))) ∧ Aside0 (Below w.heap.size w wc))
              case first =>
                have H := HC17.out
                clear HC17
                by_cases c20 : x7_1 < (l0_1.length : Int)
                · rw [if_pos c20] at H
                  have c20b0 : decide (x7_1 < (l0_1.length : Int)) = true := decide_eq_true c20
                  clear c20
                  (first | rw [c20b0] | (simp only [i64_w, i32_w]; rw [c20b0]) | skip)
                  by_cases c21 : 0 ≤ x7_1
                  · rw [if_pos c21] at H
                    have c21b0 : decide (0 ≤ x7_1) = true := decide_eq_true c21
                    clear c21
                    have H' := Aside0.mk H
                    clear H
                    have hnb22 := NB174_175.out
                    have hnc22 := NB175_174.out
                    have hcz23_0 : wc.cell? ⟨gb174, 0, none⟩ = some (.bool a0_0) := (blk_cell BK174.out 0).trans rfl
                    have hcz23_1 : wc.cell? ⟨gb174, 1, none⟩ = some (.slice A0_1 l0_1.length c0_1) := (blk_cell BK174.out 1).trans rfl
                    have hcz23_2 : wc.cell? ⟨gb174, 2, none⟩ = some (.int .i64 a0_2) := (blk_cell BK174.out 2).trans rfl
                    have hfz23_0 := blk_frozen BK174.out 0
                    have hfz23_1 := blk_frozen BK174.out 1
                    have hfz23_2 := blk_frozen BK174.out 2
                    have p176 : 0 ≤ (x7_1 : Int) := of_decide_eq_true (by first | (with_reducible assumption) | assumption)
                    have q176 : x7_1 < (l0_1.length : Int) := of_decide_eq_true (by first | (with_reducible assumption) | assumption)
                    obtain ⟨ad176, e176, hx176_0⟩ := Kd.at_int HR0_1.out x7_1 p176 q176
                    cases e176
                    replace hx176_0 := (HB.out.cell (World.block_lt_of_cell? w _ hx176_0)).trans hx176_0
                    replace p176 := eq_true p176
                    replace q176 := eq_true q176
                    go_wp2
                    repeat (go_quiet (fail); try go_wp2)
                    go_meet
                    case rel => exact ⟨_, (rd l0_1 x7_1), (by first | rfl | (simp; done) | (simp [*]; done)), H', ⟨by have := HK1.out; have := HJ8.out; first | omega | exact Nat.le_refl _⟩, ⟨by (with_reducible repeat (first | refine blk_drewN ?_ _ | refine blk_drew ?_ | refine blk_alloc ?_ _)); exact BK174.out⟩, ⟨by (with_reducible repeat (first | refine blk_drewN ?_ _ | refine blk_drew ?_ | refine blk_alloc ?_ _)); exact BK175.out⟩, ⟨by repeat (first | (with_reducible first | exact HB.out | apply below_alloc | apply pw_below_drewN | apply below_drew1 | refine below_set ?_ GE174.out | refine below_set ?_ GE175.out) | exact HB.out)⟩⟩
                  · rw [if_neg c21] at H
                    exact absurd H (by simp)
                · rw [if_neg c20] at H
                  have c20b0 : decide (x7_1 < (l0_1.length : Int)) = false := decide_eq_false c20
                  clear c20
                  (first | rw [c20b0] | (simp only [i64_w, i32_w]; rw [c20b0]) | skip)
                  have H' := Aside0.mk H
                  clear H
                  go_wp2
                  repeat (go_quiet (fail); try go_wp2)
                  go_meet
                  case rel => exact ⟨_, (0), (by first | rfl | (simp; done) | (simp [*]; done)), H', ⟨by have := HK1.out; have := HJ8.out; first | omega | exact Nat.le_refl _⟩, ⟨by (with_reducible repeat (first | refine blk_drewN ?_ _ | refine blk_drew ?_ | refine blk_alloc ?_ _)); exact BK174.out⟩, ⟨by (with_reducible repeat (first | refine blk_drewN ?_ _ | refine blk_drew ?_ | refine blk_alloc ?_ _)); exact BK175.out⟩, ⟨by repeat (first | (with_reducible first | exact HB.out | apply below_alloc | apply pw_below_drewN | apply below_drew1 | refine below_set ?_ GE174.out | refine below_set ?_ GE175.out) | exact HB.out)⟩⟩
              case rest =>
                clear HC17
                try clear c1
                try clear p1
                try clear q1
                try clear hx1
                try clear c2
                try clear p2
                try clear c3
                try clear c3b0
                try clear c3b1
                try clear c6
                try clear p6
                try clear c10
                try clear c10b0
                try clear c11
                try clear c13
                try clear c16
                try clear p17
                try clear q17
                try clear hx17
                try clear c18
                try clear c20
                try clear c20b0
                try clear c21
                try clear c21b0
                try clear c22
                try clear c23
                try clear hcz12_0
                try clear hcz12_1
                try clear hcz12_2
                try clear hcz14_0
                try clear hcz14_1
                try clear hcz14_2
                try clear hcz15_0
                try clear hcz15_1
                try clear hcz15_2
                try clear hcz19_0
                try clear hcz19_1
                try clear hcz19_2
                try clear hcz23_0
                try clear hcz23_1
                try clear hcz23_2
                try clear hcz7_0
                try clear hcz7_1
                try clear hcz7_2
                try clear hcz8_0
                try clear hcz8_1
                try clear hcz8_2
                try clear hfz12_0
                try clear hfz12_1
                try clear hfz12_2
                try clear hfz14_0
                try clear hfz14_1
                try clear hfz14_2
                try clear hfz15_0
                try clear hfz15_1
                try clear hfz15_2
                try clear hfz19_0
                try clear hfz19_1
                try clear hfz19_2
                try clear hfz23_0
                try clear hfz23_1
                try clear hfz23_2
                try clear hfz7_0
                try clear hfz7_1
                try clear hfz7_2
                try clear hfz8_0
                try clear hfz8_1
                try clear hfz8_2
                try clear hx176_0
                try clear p176
                try clear p2
                try clear p6
                try clear q176
                obtain ⟨kq, x8_16, rfl, HA, HJ16, BK174, BK175, HB⟩ := hcut
                cases kq with
                | zero => exact absurd HA.out (by simp [spec_larger.j2])
                | succ kj16 =>
                  have H := HA.out
                  clear HA
                  simp only [spec_larger.j2] at H
                  have HC24 := Aside0.mk H
                  clear H
                  have hnb25 := NB175_174.out
                  have hnc25 := NB174_175.out
                  have hcz26_0 : wc.cell? ⟨gb175, 0, none⟩ = some (.bool a1_0) := (blk_cell BK175.out 0).trans rfl
                  have hcz26_1 : wc.cell? ⟨gb175, 1, none⟩ = some (.slice A1_1 l1_1.length c1_1) := (blk_cell BK175.out 1).trans rfl
                  have hcz26_2 : wc.cell? ⟨gb175, 2, none⟩ = some (.int .i64 a1_2) := (blk_cell BK175.out 2).trans rfl
                  have hfz26_0 := blk_frozen BK175.out 0
                  have hfz26_1 := blk_frozen BK175.out 1
                  have hfz26_2 := blk_frozen BK175.out 2
                  go_upto_if 56 with (fail)
                  repeat (go_quiet (fail); go_upto_if 56 with (fail))
                  go_cut [9] (fun v9 wc => ∃ (kq : Nat) (x9_23 : Int), v9 = .int .i64 x9_23 ∧ Aside0 (spec_larger.j3 kq x7_1 x8_16 x9_23 a0_0 l0_1 a0_2 a1_0 l1_1 a1_2 = some r) ∧ Aside0 (kq ≤ kj16) ∧ Aside0 (wc.heap[gb174]? = some (.cells #[.bool a0_0, (.slice A0_1 l0_1.length c0_1), .int .i64 a0_2] 32 (0, 0))) ∧ Aside0 (wc.heap[gb175]? = some (.cells #[.bool a1_0, (.slice A1_1 l1_1.length c1_1), .int .i64 a1_2] 32 (0, 0))) ∧ Aside0 (Below w.heap.size w wc))
                  case first =>
                    have H := HC24.out
                    clear HC24
                    by_cases c27 : x7_1 < (l1_1.length : Int)
                    · rw [if_pos c27] at H
                      have c27b0 : decide (x7_1 < (l1_1.length : Int)) = true := decide_eq_true c27
                      clear c27
                      (first | rw [c27b0] | (simp only [i64_w, i32_w]; rw [c27b0]) | skip)
                      by_cases c28 : 0 ≤ x7_1
                      · rw [if_pos c28] at H
                        have c28b0 : decide (0 ≤ x7_1) = true := decide_eq_true c28
                        clear c28
                        have H' := Aside0.mk H
                        clear H
                        have hnb29 := NB175_174.out
                        have hnc29 := NB174_175.out
                        have hcz30_0 : wc.cell? ⟨gb175, 0, none⟩ = some (.bool a1_0) := (blk_cell BK175.out 0).trans rfl
                        have hcz30_1 : wc.cell? ⟨gb175, 1, none⟩ = some (.slice A1_1 l1_1.length c1_1) := (blk_cell BK175.out 1).trans rfl
                        have hcz30_2 : wc.cell? ⟨gb175, 2, none⟩ = some (.int .i64 a1_2) := (blk_cell BK175.out 2).trans rfl
                        have hfz30_0 := blk_frozen BK175.out 0
                        have hfz30_1 := blk_frozen BK175.out 1
                        have hfz30_2 := blk_frozen BK175.out 2
                        have p177 : 0 ≤ (x7_1 : Int) := of_decide_eq_true (by first | (with_reducible assumption) | assumption)
                        have q177 : x7_1 < (l1_1.length : Int) := of_decide_eq_true (by first | (with_reducible assumption) | assumption)
                        obtain ⟨ad177, e177, hx177_0⟩ := Kd.at_int HR1_1.out x7_1 p177 q177
                        cases e177
                        replace hx177_0 := (HB.out.cell (World.block_lt_of_cell? w _ hx177_0)).trans hx177_0
                        replace p177 := eq_true p177
                        replace q177 := eq_true q177
                        go_wp2
                        repeat (go_quiet (fail); try go_wp2)
                        go_meet
                        case rel => exact ⟨_, (rd l1_1 x7_1), (by first | rfl | (simp; done) | (simp [*]; done)), H', ⟨by have := HK1.out; have := HJ8.out; have := HJ16.out; first | omega | exact Nat.le_refl _⟩, ⟨by (with_reducible repeat (first | refine blk_drewN ?_ _ | refine blk_drew ?_ | refine blk_alloc ?_ _)); exact BK174.out⟩, ⟨by (with_reducible repeat (first | refine blk_drewN ?_ _ | refine blk_drew ?_ | refine blk_alloc ?_ _)); exact BK175.out⟩, ⟨by repeat (first | (with_reducible first | exact HB.out | apply below_alloc | apply pw_below_drewN | apply below_drew1 | refine below_set ?_ GE174.out | refine below_set ?_ GE175.out) | exact HB.out)⟩⟩
                      · rw [if_neg c28] at H
                        exact absurd H (by simp)
                    · rw [if_neg c27] at H
                      have c27b0 : decide (x7_1 < (l1_1.length : Int)) = false := decide_eq_false c27
                      clear c27
                      (first | rw [c27b0] | (simp only [i64_w, i32_w]; rw [c27b0]) | skip)
                      have H' := Aside0.mk H
                      clear H
                      go_wp2
                      repeat (go_quiet (fail); try go_wp2)
                      go_meet
                      case rel => exact ⟨_, (0), (by first | rfl | (simp; done) | (simp [*]; done)), H', ⟨by have := HK1.out; have := HJ8.out; have := HJ16.out; first | omega | exact Nat.le_refl _⟩, ⟨by (with_reducible repeat (first | refine blk_drewN ?_ _ | refine blk_drew ?_ | refine blk_alloc ?_ _)); exact BK174.out⟩, ⟨by (with_reducible repeat (first | refine blk_drewN ?_ _ | refine blk_drew ?_ | refine blk_alloc ?_ _)); exact BK175.out⟩, ⟨by repeat (first | (with_reducible first | exact HB.out | apply below_alloc | apply pw_below_drewN | apply below_drew1 | refine below_set ?_ GE174.out | refine below_set ?_ GE175.out) | exact HB.out)⟩⟩
                  case rest =>
                    clear HC24
                    try clear c1
                    try clear p1
                    try clear q1
                    try clear hx1
                    try clear c2
                    try clear p2
                    try clear c3
                    try clear c3b0
                    try clear c3b1
                    try clear c6
                    try clear p6
                    try clear c10
                    try clear c10b0
                    try clear c11
                    try clear c13
                    try clear c16
                    try clear p17
                    try clear q17
                    try clear hx17
                    try clear c18
                    try clear c20
                    try clear c20b0
                    try clear c21
                    try clear c21b0
                    try clear c22
                    try clear c23
                    try clear c25
                    try clear c27
                    try clear c27b0
                    try clear c28
                    try clear c28b0
                    try clear c29
                    try clear hcz12_0
                    try clear hcz12_1
                    try clear hcz12_2
                    try clear hcz14_0
                    try clear hcz14_1
                    try clear hcz14_2
                    try clear hcz15_0
                    try clear hcz15_1
                    try clear hcz15_2
                    try clear hcz19_0
                    try clear hcz19_1
                    try clear hcz19_2
                    try clear hcz23_0
                    try clear hcz23_1
                    try clear hcz23_2
                    try clear hcz26_0
                    try clear hcz26_1
                    try clear hcz26_2
                    try clear hcz30_0
                    try clear hcz30_1
                    try clear hcz30_2
                    try clear hcz7_0
                    try clear hcz7_1
                    try clear hcz7_2
                    try clear hcz8_0
                    try clear hcz8_1
                    try clear hcz8_2
                    try clear hfz12_0
                    try clear hfz12_1
                    try clear hfz12_2
                    try clear hfz14_0
                    try clear hfz14_1
                    try clear hfz14_2
                    try clear hfz15_0
                    try clear hfz15_1
                    try clear hfz15_2
                    try clear hfz19_0
                    try clear hfz19_1
                    try clear hfz19_2
                    try clear hfz23_0
                    try clear hfz23_1
                    try clear hfz23_2
                    try clear hfz26_0
                    try clear hfz26_1
                    try clear hfz26_2
                    try clear hfz30_0
                    try clear hfz30_1
                    try clear hfz30_2
                    try clear hfz7_0
                    try clear hfz7_1
                    try clear hfz7_2
                    try clear hfz8_0
                    try clear hfz8_1
                    try clear hfz8_2
                    try clear hx176_0
                    try clear hx177_0
                    try clear p1
                    try clear p17
                    try clear p176
                    try clear p177
                    try clear p2
                    try clear p6
                    try clear q1
                    try clear q17
                    try clear q176
                    try clear q177
                    obtain ⟨kq, x9_23, rfl, HA, HJ23, BK174, BK175, HB⟩ := hcut
                    cases kq with
                    | zero => exact absurd HA.out (by simp [spec_larger.j3])
                    | succ kj23 =>
                      have H := HA.out
                      clear HA
                      simp only [spec_larger.j3] at H
                      by_cases c31 : x8_16 = x9_23
                      · rw [if_pos c31] at H
                        have c31b0 : (x8_16 == x9_23) = true := beq_iff_eq.mpr c31
                        have c31b1 : (x8_16 != x9_23) = false := bne_eq_false_iff_eq.mpr c31
                        clear c31
                        have H' := Aside0.mk H
                        clear H
                        go_wp2
                        repeat (go_quiet (fail); try go_wp2)
                        go_roundg kj23
                        case measure => have := HK1.out; have := HJ8.out; have := HJ16.out; have := HJ23.out; omega
                        case rel => exact ⟨(wrap64 (x7_1 + 1)), (by first | rfl | (simp; done) | (simp [*]; done)), H', ⟨by have := HK1.out; have := HJ8.out; have := HJ16.out; have := HJ23.out; omega⟩, ⟨by (with_reducible repeat (first | refine blk_drewN ?_ _ | refine blk_drew ?_ | refine blk_alloc ?_ _)); exact BK174.out⟩, ⟨by (with_reducible repeat (first | refine blk_drewN ?_ _ | refine blk_drew ?_ | refine blk_alloc ?_ _)); exact BK175.out⟩, ⟨by repeat (first | (with_reducible first | exact HB.out | apply below_alloc | apply pw_below_drewN | apply below_drew1 | refine below_set ?_ GE174.out | refine below_set ?_ GE175.out) | exact HB.out)⟩⟩
                      · rw [if_neg c31] at H
                        have c31b0 : (x8_16 == x9_23) = false := beq_eq_false_iff_ne.mpr c31
                        have c31b1 : (x8_16 != x9_23) = true := bne_iff_ne.mpr c31
                        by_cases c32 : x8_16 < x9_23
                        · rw [if_pos c32] at H
                          have c32b0 : decide (x8_16 < x9_23) = true := decide_eq_true c32
                          clear c32
                          obtain rfl := Option.some.inj H
                          go_wp2
                          repeat (go_quiet (fail); try go_wp2)
                          go_ret
                          exact ⟨by first | rfl | (simp [errW_none, errW_some] <;> rfl) | (simp [*, errW_none, errW_some] <;> rfl), by repeat (first | (with_reducible first | exact HB.out | apply below_alloc | apply pw_below_drewN | apply below_drew1 | refine below_set ?_ GE174.out | refine below_set ?_ GE175.out) | exact HB.out)⟩
                        · rw [if_neg c32] at H
                          have c32b0 : decide (x8_16 < x9_23) = false := decide_eq_false c32
                          clear c32
                          obtain rfl := Option.some.inj H
                          go_wp2
                          repeat (go_quiet (fail); try go_wp2)
                          go_ret
                          exact ⟨by first | rfl | (simp [errW_none, errW_some] <;> rfl) | (simp [*, errW_none, errW_some] <;> rfl), by repeat (first | (with_reducible first | exact HB.out | apply below_alloc | apply pw_below_drewN | apply below_drew1 | refine below_set ?_ GE174.out | refine below_set ?_ GE175.out) | exact HB.out)⟩
            · replace c16 := Bool.eq_false_iff.mpr c16
              subst c16
              have H1 : (some 0) = some r := by rw [if_neg (show ¬ (false = true) by decide)] at H; exact H
              clear H
              have H := H1
              clear H1
              obtain rfl := Option.some.inj H
              go_wp2
              repeat (go_quiet (fail); try go_wp2)
              go_ret
              exact ⟨by first | rfl | (simp [errW_none, errW_some] <;> rfl) | (simp [*, errW_none, errW_some] <;> rfl), by repeat (first | (with_reducible first | exact HB.out | apply below_alloc | apply pw_below_drewN | apply below_drew1 | refine below_set ?_ GE174.out | refine below_set ?_ GE175.out) | exact HB.out)⟩
  · rw [if_neg c3] at H
    have c3b0 : ((wrap64 ((l0_1.length : Int) + a0_2)) == (wrap64 ((l1_1.length : Int) + a1_2))) = false := beq_eq_false_iff_ne.mpr c3
    have c3b1 : ((wrap64 ((l0_1.length : Int) + a0_2)) != (wrap64 ((l1_1.length : Int) + a1_2))) = true := bne_iff_ne.mpr c3
    by_cases c33 : (wrap64 ((l0_1.length : Int) + a0_2)) < (wrap64 ((l1_1.length : Int) + a1_2))
    · rw [if_pos c33] at H
      have c33b0 : decide ((wrap64 ((l0_1.length : Int) + a0_2)) < (wrap64 ((l1_1.length : Int) + a1_2))) = true := decide_eq_true c33
      clear c33
      obtain rfl := Option.some.inj H
      go_enter Try.func23, Try.ntmps23
      go_wp2_with (first | ((with_reducible refine gate_dst (N := 2) rfl ?_); (try (refine gate_guard (by rfl) ?_; dsimp only)); refine box_event ?hg (N := 2) ?hd (cs := #[.bool a0_0, .slice A0_1 l0_1.length c0_1, .int .i64 a0_2]) (t := 32) ?hr ?_; (case hd => rfl); (case hg => rfl); (case hr => first | (go_simp; done) | (go_simp; rfl)); intro gb174 hg w34 hbox hb; have n0_ := Aside0.mk (below_step (by repeat (first | (with_reducible first | exact HB.out | apply below_alloc | apply pw_below_drewN | apply below_drew1) | exact HB.out)) hb); have n1_ := Aside0.mk (hbox); have n2_ := Aside0.mk ((by rw [hg]; exact (below_size (by repeat (first | (with_reducible first | exact HB.out | apply below_alloc | apply pw_below_drewN | apply below_drew1) | exact HB.out))) : w.heap.size ≤ gb174)); have n3_ := Aside0.mk ((by rw [hg]; exact (below_size (by repeat (first | (with_reducible first | exact HB.out | apply below_alloc | apply pw_below_drewN | apply below_drew1) | exact HB.out))) : w.heap.size ≤ gb174)); clear HB; have HB := n0_; have BK174 := n1_; have GW174 := n2_; have GE174 := n3_; clear n0_ n1_ n2_ n3_; clear hb hbox hg) | ((with_reducible refine gate_dst (N := 3) rfl ?_); (try (refine gate_guard (by rfl) ?_; dsimp only)); refine box_event ?hg (N := 3) ?hd (cs := #[.bool a1_0, .slice A1_1 l1_1.length c1_1, .int .i64 a1_2]) (t := 32) ?hr ?_; (case hd => rfl); (case hg => rfl); (case hr => first | (go_simp; done) | (go_simp; rfl)); intro gb175 hg w35 hbox hb; have n0_ := Aside0.mk (blk_below (g := gb174) (o := .cells #[.bool a0_0, .slice A0_1 l0_1.length c0_1, .int .i64 a0_2] 32 (0, 0)) (by (with_reducible repeat (first | refine blk_drewN ?_ _ | refine blk_drew ?_ | refine blk_alloc ?_ _)); exact BK174.out) hb); have n1_ := Aside0.mk (below_step (by repeat (first | (with_reducible first | exact HB.out | apply below_alloc | apply pw_below_drewN | apply below_drew1 | refine below_set ?_ GE174.out) | exact HB.out)) hb); have n2_ := Aside0.mk (hbox); have n3_ := Aside0.mk ((by rw [hg]; exact (below_size (by repeat (first | (with_reducible first | exact HB.out | apply below_alloc | apply pw_below_drewN | apply below_drew1 | refine below_set ?_ GE174.out) | exact HB.out))) : w.heap.size ≤ gb175)); have n4_ := Aside0.mk ((by rw [hg]; exact (below_size (by repeat (first | (with_reducible first | exact HB.out | apply below_alloc | apply pw_below_drewN | apply below_drew1 | refine below_set ?_ GE174.out) | exact HB.out))) : w.heap.size ≤ gb175)); have n5_ := Aside0.mk ((by rw [hg]; exact Nat.ne_of_lt (blk_lt (g := gb174) (o := .cells #[.bool a0_0, .slice A0_1 l0_1.length c0_1, .int .i64 a0_2] 32 (0, 0)) (by (with_reducible repeat (first | refine blk_drewN ?_ _ | refine blk_drew ?_ | refine blk_alloc ?_ _)); exact BK174.out)) : gb174 ≠ gb175)); have n6_ := Aside0.mk ((by rw [hg]; exact Nat.ne_of_gt (blk_lt (g := gb174) (o := .cells #[.bool a0_0, .slice A0_1 l0_1.length c0_1, .int .i64 a0_2] 32 (0, 0)) (by (with_reducible repeat (first | refine blk_drewN ?_ _ | refine blk_drew ?_ | refine blk_alloc ?_ _)); exact BK174.out)) : gb175 ≠ gb174)); clear BK174; clear HB; have BK174 := n0_; have HB := n1_; have BK175 := n2_; have GW175 := n3_; have GE175 := n4_; have NB174_175 := n5_; have NB175_174 := n6_; clear n0_ n1_ n2_ n3_ n4_ n5_ n6_; clear hb hbox hg; have hnb36 := NB174_175.out; have hnc36 := NB175_174.out; have hcz37_0 : w35.cell? ⟨gb174, 0, none⟩ = some (.bool a0_0) := (blk_cell BK174.out 0).trans rfl; have hcz37_1 : w35.cell? ⟨gb174, 1, none⟩ = some (.slice A0_1 l0_1.length c0_1) := (blk_cell BK174.out 1).trans rfl; have hcz37_2 : w35.cell? ⟨gb174, 2, none⟩ = some (.int .i64 a0_2) := (blk_cell BK174.out 2).trans rfl; have hfz37_0 := blk_frozen BK174.out 0; have hfz37_1 := blk_frozen BK174.out 1; have hfz37_2 := blk_frozen BK174.out 2; have hcz38_0 : w35.cell? ⟨gb175, 0, none⟩ = some (.bool a1_0) := (blk_cell BK175.out 0).trans rfl; have hcz38_1 : w35.cell? ⟨gb175, 1, none⟩ = some (.slice A1_1 l1_1.length c1_1) := (blk_cell BK175.out 1).trans rfl; have hcz38_2 : w35.cell? ⟨gb175, 2, none⟩ = some (.int .i64 a1_2) := (blk_cell BK175.out 2).trans rfl; have hfz38_0 := blk_frozen BK175.out 0; have hfz38_1 := blk_frozen BK175.out 1; have hfz38_2 := blk_frozen BK175.out 2))
      repeat (go_quiet (first | ((with_reducible refine gate_dst (N := 2) rfl ?_); (try (refine gate_guard (by rfl) ?_; dsimp only)); refine box_event ?hg (N := 2) ?hd (cs := #[.bool a0_0, .slice A0_1 l0_1.length c0_1, .int .i64 a0_2]) (t := 32) ?hr ?_; (case hd => rfl); (case hg => rfl); (case hr => first | (go_simp; done) | (go_simp; rfl)); intro gb174 hg w34 hbox hb; have n0_ := Aside0.mk (below_step (by repeat (first | (with_reducible first | exact HB.out | apply below_alloc | apply pw_below_drewN | apply below_drew1) | exact HB.out)) hb); have n1_ := Aside0.mk (hbox); have n2_ := Aside0.mk ((by rw [hg]; exact (below_size (by repeat (first | (with_reducible first | exact HB.out | apply below_alloc | apply pw_below_drewN | apply below_drew1) | exact HB.out))) : w.heap.size ≤ gb174)); have n3_ := Aside0.mk ((by rw [hg]; exact (below_size (by repeat (first | (with_reducible first | exact HB.out | apply below_alloc | apply pw_below_drewN | apply below_drew1) | exact HB.out))) : w.heap.size ≤ gb174)); clear HB; have HB := n0_; have BK174 := n1_; have GW174 := n2_; have GE174 := n3_; clear n0_ n1_ n2_ n3_; clear hb hbox hg) | ((with_reducible refine gate_dst (N := 3) rfl ?_); (try (refine gate_guard (by rfl) ?_; dsimp only)); refine box_event ?hg (N := 3) ?hd (cs := #[.bool a1_0, .slice A1_1 l1_1.length c1_1, .int .i64 a1_2]) (t := 32) ?hr ?_; (case hd => rfl); (case hg => rfl); (case hr => first | (go_simp; done) | (go_simp; rfl)); intro gb175 hg w35 hbox hb; have n0_ := Aside0.mk (blk_below (g := gb174) (o := .cells #[.bool a0_0, .slice A0_1 l0_1.length c0_1, .int .i64 a0_2] 32 (0, 0)) (by (with_reducible repeat (first | refine blk_drewN ?_ _ | refine blk_drew ?_ | refine blk_alloc ?_ _)); exact BK174.out) hb); have n1_ := Aside0.mk (below_step (by repeat (first | (with_reducible first | exact HB.out | apply below_alloc | apply pw_below_drewN | apply below_drew1 | refine below_set ?_ GE174.out) | exact HB.out)) hb); have n2_ := Aside0.mk (hbox); have n3_ := Aside0.mk ((by rw [hg]; exact (below_size (by repeat (first | (with_reducible first | exact HB.out | apply below_alloc | apply pw_below_drewN | apply below_drew1 | refine below_set ?_ GE174.out) | exact HB.out))) : w.heap.size ≤ gb175)); have n4_ := Aside0.mk ((by rw [hg]; exact (below_size (by repeat (first | (with_reducible first | exact HB.out | apply below_alloc | apply pw_below_drewN | apply below_drew1 | refine below_set ?_ GE174.out) | exact HB.out))) : w.heap.size ≤ gb175)); have n5_ := Aside0.mk ((by rw [hg]; exact Nat.ne_of_lt (blk_lt (g := gb174) (o := .cells #[.bool a0_0, .slice A0_1 l0_1.length c0_1, .int .i64 a0_2] 32 (0, 0)) (by (with_reducible repeat (first | refine blk_drewN ?_ _ | refine blk_drew ?_ | refine blk_alloc ?_ _)); exact BK174.out)) : gb174 ≠ gb175)); have n6_ := Aside0.mk ((by rw [hg]; exact Nat.ne_of_gt (blk_lt (g := gb174) (o := .cells #[.bool a0_0, .slice A0_1 l0_1.length c0_1, .int .i64 a0_2] 32 (0, 0)) (by (with_reducible repeat (first | refine blk_drewN ?_ _ | refine blk_drew ?_ | refine blk_alloc ?_ _)); exact BK174.out)) : gb175 ≠ gb174)); clear BK174; clear HB; have BK174 := n0_; have HB := n1_; have BK175 := n2_; have GW175 := n3_; have GE175 := n4_; have NB174_175 := n5_; have NB175_174 := n6_; clear n0_ n1_ n2_ n3_ n4_ n5_ n6_; clear hb hbox hg; have hnb36 := NB174_175.out; have hnc36 := NB175_174.out; have hcz37_0 : w35.cell? ⟨gb174, 0, none⟩ = some (.bool a0_0) := (blk_cell BK174.out 0).trans rfl; have hcz37_1 : w35.cell? ⟨gb174, 1, none⟩ = some (.slice A0_1 l0_1.length c0_1) := (blk_cell BK174.out 1).trans rfl; have hcz37_2 : w35.cell? ⟨gb174, 2, none⟩ = some (.int .i64 a0_2) := (blk_cell BK174.out 2).trans rfl; have hfz37_0 := blk_frozen BK174.out 0; have hfz37_1 := blk_frozen BK174.out 1; have hfz37_2 := blk_frozen BK174.out 2; have hcz38_0 : w35.cell? ⟨gb175, 0, none⟩ = some (.bool a1_0) := (blk_cell BK175.out 0).trans rfl; have hcz38_1 : w35.cell? ⟨gb175, 1, none⟩ = some (.slice A1_1 l1_1.length c1_1) := (blk_cell BK175.out 1).trans rfl; have hcz38_2 : w35.cell? ⟨gb175, 2, none⟩ = some (.int .i64 a1_2) := (blk_cell BK175.out 2).trans rfl; have hfz38_0 := blk_frozen BK175.out 0; have hfz38_1 := blk_frozen BK175.out 1; have hfz38_2 := blk_frozen BK175.out 2)); try go_wp2_with (first | ((with_reducible refine gate_dst (N := 2) rfl ?_); (try (refine gate_guard (by rfl) ?_; dsimp only)); refine box_event ?hg (N := 2) ?hd (cs := #[.bool a0_0, .slice A0_1 l0_1.length c0_1, .int .i64 a0_2]) (t := 32) ?hr ?_; (case hd => rfl); (case hg => rfl); (case hr => first | (go_simp; done) | (go_simp; rfl)); intro gb174 hg w34 hbox hb; have n0_ := Aside0.mk (below_step (by repeat (first | (with_reducible first | exact HB.out | apply below_alloc | apply pw_below_drewN | apply below_drew1) | exact HB.out)) hb); have n1_ := Aside0.mk (hbox); have n2_ := Aside0.mk ((by rw [hg]; exact (below_size (by repeat (first | (with_reducible first | exact HB.out | apply below_alloc | apply pw_below_drewN | apply below_drew1) | exact HB.out))) : w.heap.size ≤ gb174)); have n3_ := Aside0.mk ((by rw [hg]; exact (below_size (by repeat (first | (with_reducible first | exact HB.out | apply below_alloc | apply pw_below_drewN | apply below_drew1) | exact HB.out))) : w.heap.size ≤ gb174)); clear HB; have HB := n0_; have BK174 := n1_; have GW174 := n2_; have GE174 := n3_; clear n0_ n1_ n2_ n3_; clear hb hbox hg) | ((with_reducible refine gate_dst (N := 3) rfl ?_); (try (refine gate_guard (by rfl) ?_; dsimp only)); refine box_event ?hg (N := 3) ?hd (cs := #[.bool a1_0, .slice A1_1 l1_1.length c1_1, .int .i64 a1_2]) (t := 32) ?hr ?_; (case hd => rfl); (case hg => rfl); (case hr => first | (go_simp; done) | (go_simp; rfl)); intro gb175 hg w35 hbox hb; have n0_ := Aside0.mk (blk_below (g := gb174) (o := .cells #[.bool a0_0, .slice A0_1 l0_1.length c0_1, .int .i64 a0_2] 32 (0, 0)) (by (with_reducible repeat (first | refine blk_drewN ?_ _ | refine blk_drew ?_ | refine blk_alloc ?_ _)); exact BK174.out) hb); have n1_ := Aside0.mk (below_step (by repeat (first | (with_reducible first | exact HB.out | apply below_alloc | apply pw_below_drewN | apply below_drew1 | refine below_set ?_ GE174.out) | exact HB.out)) hb); have n2_ := Aside0.mk (hbox); have n3_ := Aside0.mk ((by rw [hg]; exact (below_size (by repeat (first | (with_reducible first | exact HB.out | apply below_alloc | apply pw_below_drewN | apply below_drew1 | refine below_set ?_ GE174.out) | exact HB.out))) : w.heap.size ≤ gb175)); have n4_ := Aside0.mk ((by rw [hg]; exact (below_size (by repeat (first | (with_reducible first | exact HB.out | apply below_alloc | apply pw_below_drewN | apply below_drew1 | refine below_set ?_ GE174.out) | exact HB.out))) : w.heap.size ≤ gb175)); have n5_ := Aside0.mk ((by rw [hg]; exact Nat.ne_of_lt (blk_lt (g := gb174) (o := .cells #[.bool a0_0, .slice A0_1 l0_1.length c0_1, .int .i64 a0_2] 32 (0, 0)) (by (with_reducible repeat (first | refine blk_drewN ?_ _ | refine blk_drew ?_ | refine blk_alloc ?_ _)); exact BK174.out)) : gb174 ≠ gb175)); have n6_ := Aside0.mk ((by rw [hg]; exact Nat.ne_of_gt (blk_lt (g := gb174) (o := .cells #[.bool a0_0, .slice A0_1 l0_1.length c0_1, .int .i64 a0_2] 32 (0, 0)) (by (with_reducible repeat (first | refine blk_drewN ?_ _ | refine blk_drew ?_ | refine blk_alloc ?_ _)); exact BK174.out)) : gb175 ≠ gb174)); clear BK174; clear HB; have BK174 := n0_; have HB := n1_; have BK175 := n2_; have GW175 := n3_; have GE175 := n4_; have NB174_175 := n5_; have NB175_174 := n6_; clear n0_ n1_ n2_ n3_ n4_ n5_ n6_; clear hb hbox hg; have hnb36 := NB174_175.out; have hnc36 := NB175_174.out; have hcz37_0 : w35.cell? ⟨gb174, 0, none⟩ = some (.bool a0_0) := (blk_cell BK174.out 0).trans rfl; have hcz37_1 : w35.cell? ⟨gb174, 1, none⟩ = some (.slice A0_1 l0_1.length c0_1) := (blk_cell BK174.out 1).trans rfl; have hcz37_2 : w35.cell? ⟨gb174, 2, none⟩ = some (.int .i64 a0_2) := (blk_cell BK174.out 2).trans rfl; have hfz37_0 := blk_frozen BK174.out 0; have hfz37_1 := blk_frozen BK174.out 1; have hfz37_2 := blk_frozen BK174.out 2; have hcz38_0 : w35.cell? ⟨gb175, 0, none⟩ = some (.bool a1_0) := (blk_cell BK175.out 0).trans rfl; have hcz38_1 : w35.cell? ⟨gb175, 1, none⟩ = some (.slice A1_1 l1_1.length c1_1) := (blk_cell BK175.out 1).trans rfl; have hcz38_2 : w35.cell? ⟨gb175, 2, none⟩ = some (.int .i64 a1_2) := (blk_cell BK175.out 2).trans rfl; have hfz38_0 := blk_frozen BK175.out 0; have hfz38_1 := blk_frozen BK175.out 1; have hfz38_2 := blk_frozen BK175.out 2)))
      go_ret
      exact ⟨by first | rfl | (simp [errW_none, errW_some] <;> rfl) | (simp [*, errW_none, errW_some] <;> rfl), by repeat (first | (with_reducible first | exact HB.out | apply below_alloc | apply pw_below_drewN | apply below_drew1 | refine below_set ?_ GE174.out | refine below_set ?_ GE175.out) | exact HB.out)⟩
    · rw [if_neg c33] at H
      have c33b0 : decide ((wrap64 ((l0_1.length : Int) + a0_2)) < (wrap64 ((l1_1.length : Int) + a1_2))) = false := decide_eq_false c33
      clear c33
      obtain rfl := Option.some.inj H
      go_enter Try.func23, Try.ntmps23
      go_wp2_with (first | ((with_reducible refine gate_dst (N := 2) rfl ?_); (try (refine gate_guard (by rfl) ?_; dsimp only)); refine box_event ?hg (N := 2) ?hd (cs := #[.bool a0_0, .slice A0_1 l0_1.length c0_1, .int .i64 a0_2]) (t := 32) ?hr ?_; (case hd => rfl); (case hg => rfl); (case hr => first | (go_simp; done) | (go_simp; rfl)); intro gb174 hg w39 hbox hb; have n0_ := Aside0.mk (below_step (by repeat (first | (with_reducible first | exact HB.out | apply below_alloc | apply pw_below_drewN | apply below_drew1) | exact HB.out)) hb); have n1_ := Aside0.mk (hbox); have n2_ := Aside0.mk ((by rw [hg]; exact (below_size (by repeat (first | (with_reducible first | exact HB.out | apply below_alloc | apply pw_below_drewN | apply below_drew1) | exact HB.out))) : w.heap.size ≤ gb174)); have n3_ := Aside0.mk ((by rw [hg]; exact (below_size (by repeat (first | (with_reducible first | exact HB.out | apply below_alloc | apply pw_below_drewN | apply below_drew1) | exact HB.out))) : w.heap.size ≤ gb174)); clear HB; have HB := n0_; have BK174 := n1_; have GW174 := n2_; have GE174 := n3_; clear n0_ n1_ n2_ n3_; clear hb hbox hg) | ((with_reducible refine gate_dst (N := 3) rfl ?_); (try (refine gate_guard (by rfl) ?_; dsimp only)); refine box_event ?hg (N := 3) ?hd (cs := #[.bool a1_0, .slice A1_1 l1_1.length c1_1, .int .i64 a1_2]) (t := 32) ?hr ?_; (case hd => rfl); (case hg => rfl); (case hr => first | (go_simp; done) | (go_simp; rfl)); intro gb175 hg w40 hbox hb; have n0_ := Aside0.mk (blk_below (g := gb174) (o := .cells #[.bool a0_0, .slice A0_1 l0_1.length c0_1, .int .i64 a0_2] 32 (0, 0)) (by (with_reducible repeat (first | refine blk_drewN ?_ _ | refine blk_drew ?_ | refine blk_alloc ?_ _)); exact BK174.out) hb); have n1_ := Aside0.mk (below_step (by repeat (first | (with_reducible first | exact HB.out | apply below_alloc | apply pw_below_drewN | apply below_drew1 | refine below_set ?_ GE174.out) | exact HB.out)) hb); have n2_ := Aside0.mk (hbox); have n3_ := Aside0.mk ((by rw [hg]; exact (below_size (by repeat (first | (with_reducible first | exact HB.out | apply below_alloc | apply pw_below_drewN | apply below_drew1 | refine below_set ?_ GE174.out) | exact HB.out))) : w.heap.size ≤ gb175)); have n4_ := Aside0.mk ((by rw [hg]; exact (below_size (by repeat (first | (with_reducible first | exact HB.out | apply below_alloc | apply pw_below_drewN | apply below_drew1 | refine below_set ?_ GE174.out) | exact HB.out))) : w.heap.size ≤ gb175)); have n5_ := Aside0.mk ((by rw [hg]; exact Nat.ne_of_lt (blk_lt (g := gb174) (o := .cells #[.bool a0_0, .slice A0_1 l0_1.length c0_1, .int .i64 a0_2] 32 (0, 0)) (by (with_reducible repeat (first | refine blk_drewN ?_ _ | refine blk_drew ?_ | refine blk_alloc ?_ _)); exact BK174.out)) : gb174 ≠ gb175)); have n6_ := Aside0.mk ((by rw [hg]; exact Nat.ne_of_gt (blk_lt (g := gb174) (o := .cells #[.bool a0_0, .slice A0_1 l0_1.length c0_1, .int .i64 a0_2] 32 (0, 0)) (by (with_reducible repeat (first | refine blk_drewN ?_ _ | refine blk_drew ?_ | refine blk_alloc ?_ _)); exact BK174.out)) : gb175 ≠ gb174)); clear BK174; clear HB; have BK174 := n0_; have HB := n1_; have BK175 := n2_; have GW175 := n3_; have GE175 := n4_; have NB174_175 := n5_; have NB175_174 := n6_; clear n0_ n1_ n2_ n3_ n4_ n5_ n6_; clear hb hbox hg; have hnb41 := NB174_175.out; have hnc41 := NB175_174.out; have hcz42_0 : w40.cell? ⟨gb174, 0, none⟩ = some (.bool a0_0) := (blk_cell BK174.out 0).trans rfl; have hcz42_1 : w40.cell? ⟨gb174, 1, none⟩ = some (.slice A0_1 l0_1.length c0_1) := (blk_cell BK174.out 1).trans rfl; have hcz42_2 : w40.cell? ⟨gb174, 2, none⟩ = some (.int .i64 a0_2) := (blk_cell BK174.out 2).trans rfl; have hfz42_0 := blk_frozen BK174.out 0; have hfz42_1 := blk_frozen BK174.out 1; have hfz42_2 := blk_frozen BK174.out 2; have hcz43_0 : w40.cell? ⟨gb175, 0, none⟩ = some (.bool a1_0) := (blk_cell BK175.out 0).trans rfl; have hcz43_1 : w40.cell? ⟨gb175, 1, none⟩ = some (.slice A1_1 l1_1.length c1_1) := (blk_cell BK175.out 1).trans rfl; have hcz43_2 : w40.cell? ⟨gb175, 2, none⟩ = some (.int .i64 a1_2) := (blk_cell BK175.out 2).trans rfl; have hfz43_0 := blk_frozen BK175.out 0; have hfz43_1 := blk_frozen BK175.out 1; have hfz43_2 := blk_frozen BK175.out 2))
      repeat (go_quiet (first | ((with_reducible refine gate_dst (N := 2) rfl ?_); (try (refine gate_guard (by rfl) ?_; dsimp only)); refine box_event ?hg (N := 2) ?hd (cs := #[.bool a0_0, .slice A0_1 l0_1.length c0_1, .int .i64 a0_2]) (t := 32) ?hr ?_; (case hd => rfl); (case hg => rfl); (case hr => first | (go_simp; done) | (go_simp; rfl)); intro gb174 hg w39 hbox hb; have n0_ := Aside0.mk (below_step (by repeat (first | (with_reducible first | exact HB.out | apply below_alloc | apply pw_below_drewN | apply below_drew1) | exact HB.out)) hb); have n1_ := Aside0.mk (hbox); have n2_ := Aside0.mk ((by rw [hg]; exact (below_size (by repeat (first | (with_reducible first | exact HB.out | apply below_alloc | apply pw_below_drewN | apply below_drew1) | exact HB.out))) : w.heap.size ≤ gb174)); have n3_ := Aside0.mk ((by rw [hg]; exact (below_size (by repeat (first | (with_reducible first | exact HB.out | apply below_alloc | apply pw_below_drewN | apply below_drew1) | exact HB.out))) : w.heap.size ≤ gb174)); clear HB; have HB := n0_; have BK174 := n1_; have GW174 := n2_; have GE174 := n3_; clear n0_ n1_ n2_ n3_; clear hb hbox hg) | ((with_reducible refine gate_dst (N := 3) rfl ?_); (try (refine gate_guard (by rfl) ?_; dsimp only)); refine box_event ?hg (N := 3) ?hd (cs := #[.bool a1_0, .slice A1_1 l1_1.length c1_1, .int .i64 a1_2]) (t := 32) ?hr ?_; (case hd => rfl); (case hg => rfl); (case hr => first | (go_simp; done) | (go_simp; rfl)); intro gb175 hg w40 hbox hb; have n0_ := Aside0.mk (blk_below (g := gb174) (o := .cells #[.bool a0_0, .slice A0_1 l0_1.length c0_1, .int .i64 a0_2] 32 (0, 0)) (by (with_reducible repeat (first | refine blk_drewN ?_ _ | refine blk_drew ?_ | refine blk_alloc ?_ _)); exact BK174.out) hb); have n1_ := Aside0.mk (below_step (by repeat (first | (with_reducible first | exact HB.out | apply below_alloc | apply pw_below_drewN | apply below_drew1 | refine below_set ?_ GE174.out) | exact HB.out)) hb); have n2_ := Aside0.mk (hbox); have n3_ := Aside0.mk ((by rw [hg]; exact (below_size (by repeat (first | (with_reducible first | exact HB.out | apply below_alloc | apply pw_below_drewN | apply below_drew1 | refine below_set ?_ GE174.out) | exact HB.out))) : w.heap.size ≤ gb175)); have n4_ := Aside0.mk ((by rw [hg]; exact (below_size (by repeat (first | (with_reducible first | exact HB.out | apply below_alloc | apply pw_below_drewN | apply below_drew1 | refine below_set ?_ GE174.out) | exact HB.out))) : w.heap.size ≤ gb175)); have n5_ := Aside0.mk ((by rw [hg]; exact Nat.ne_of_lt (blk_lt (g := gb174) (o := .cells #[.bool a0_0, .slice A0_1 l0_1.length c0_1, .int .i64 a0_2] 32 (0, 0)) (by (with_reducible repeat (first | refine blk_drewN ?_ _ | refine blk_drew ?_ | refine blk_alloc ?_ _)); exact BK174.out)) : gb174 ≠ gb175)); have n6_ := Aside0.mk ((by rw [hg]; exact Nat.ne_of_gt (blk_lt (g := gb174) (o := .cells #[.bool a0_0, .slice A0_1 l0_1.length c0_1, .int .i64 a0_2] 32 (0, 0)) (by (with_reducible repeat (first | refine blk_drewN ?_ _ | refine blk_drew ?_ | refine blk_alloc ?_ _)); exact BK174.out)) : gb175 ≠ gb174)); clear BK174; clear HB; have BK174 := n0_; have HB := n1_; have BK175 := n2_; have GW175 := n3_; have GE175 := n4_; have NB174_175 := n5_; have NB175_174 := n6_; clear n0_ n1_ n2_ n3_ n4_ n5_ n6_; clear hb hbox hg; have hnb41 := NB174_175.out; have hnc41 := NB175_174.out; have hcz42_0 : w40.cell? ⟨gb174, 0, none⟩ = some (.bool a0_0) := (blk_cell BK174.out 0).trans rfl; have hcz42_1 : w40.cell? ⟨gb174, 1, none⟩ = some (.slice A0_1 l0_1.length c0_1) := (blk_cell BK174.out 1).trans rfl; have hcz42_2 : w40.cell? ⟨gb174, 2, none⟩ = some (.int .i64 a0_2) := (blk_cell BK174.out 2).trans rfl; have hfz42_0 := blk_frozen BK174.out 0; have hfz42_1 := blk_frozen BK174.out 1; have hfz42_2 := blk_frozen BK174.out 2; have hcz43_0 : w40.cell? ⟨gb175, 0, none⟩ = some (.bool a1_0) := (blk_cell BK175.out 0).trans rfl; have hcz43_1 : w40.cell? ⟨gb175, 1, none⟩ = some (.slice A1_1 l1_1.length c1_1) := (blk_cell BK175.out 1).trans rfl; have hcz43_2 : w40.cell? ⟨gb175, 2, none⟩ = some (.int .i64 a1_2) := (blk_cell BK175.out 2).trans rfl; have hfz43_0 := blk_frozen BK175.out 0; have hfz43_1 := blk_frozen BK175.out 1; have hfz43_2 := blk_frozen BK175.out 2)); try go_wp2_with (first | ((with_reducible refine gate_dst (N := 2) rfl ?_); (try (refine gate_guard (by rfl) ?_; dsimp only)); refine box_event ?hg (N := 2) ?hd (cs := #[.bool a0_0, .slice A0_1 l0_1.length c0_1, .int .i64 a0_2]) (t := 32) ?hr ?_; (case hd => rfl); (case hg => rfl); (case hr => first | (go_simp; done) | (go_simp; rfl)); intro gb174 hg w39 hbox hb; have n0_ := Aside0.mk (below_step (by repeat (first | (with_reducible first | exact HB.out | apply below_alloc | apply pw_below_drewN | apply below_drew1) | exact HB.out)) hb); have n1_ := Aside0.mk (hbox); have n2_ := Aside0.mk ((by rw [hg]; exact (below_size (by repeat (first | (with_reducible first | exact HB.out | apply below_alloc | apply pw_below_drewN | apply below_drew1) | exact HB.out))) : w.heap.size ≤ gb174)); have n3_ := Aside0.mk ((by rw [hg]; exact (below_size (by repeat (first | (with_reducible first | exact HB.out | apply below_alloc | apply pw_below_drewN | apply below_drew1) | exact HB.out))) : w.heap.size ≤ gb174)); clear HB; have HB := n0_; have BK174 := n1_; have GW174 := n2_; have GE174 := n3_; clear n0_ n1_ n2_ n3_; clear hb hbox hg) | ((with_reducible refine gate_dst (N := 3) rfl ?_); (try (refine gate_guard (by rfl) ?_; dsimp only)); refine box_event ?hg (N := 3) ?hd (cs := #[.bool a1_0, .slice A1_1 l1_1.length c1_1, .int .i64 a1_2]) (t := 32) ?hr ?_; (case hd => rfl); (case hg => rfl); (case hr => first | (go_simp; done) | (go_simp; rfl)); intro gb175 hg w40 hbox hb; have n0_ := Aside0.mk (blk_below (g := gb174) (o := .cells #[.bool a0_0, .slice A0_1 l0_1.length c0_1, .int .i64 a0_2] 32 (0, 0)) (by (with_reducible repeat (first | refine blk_drewN ?_ _ | refine blk_drew ?_ | refine blk_alloc ?_ _)); exact BK174.out) hb); have n1_ := Aside0.mk (below_step (by repeat (first | (with_reducible first | exact HB.out | apply below_alloc | apply pw_below_drewN | apply below_drew1 | refine below_set ?_ GE174.out) | exact HB.out)) hb); have n2_ := Aside0.mk (hbox); have n3_ := Aside0.mk ((by rw [hg]; exact (below_size (by repeat (first | (with_reducible first | exact HB.out | apply below_alloc | apply pw_below_drewN | apply below_drew1 | refine below_set ?_ GE174.out) | exact HB.out))) : w.heap.size ≤ gb175)); have n4_ := Aside0.mk ((by rw [hg]; exact (below_size (by repeat (first | (with_reducible first | exact HB.out | apply below_alloc | apply pw_below_drewN | apply below_drew1 | refine below_set ?_ GE174.out) | exact HB.out))) : w.heap.size ≤ gb175)); have n5_ := Aside0.mk ((by rw [hg]; exact Nat.ne_of_lt (blk_lt (g := gb174) (o := .cells #[.bool a0_0, .slice A0_1 l0_1.length c0_1, .int .i64 a0_2] 32 (0, 0)) (by (with_reducible repeat (first | refine blk_drewN ?_ _ | refine blk_drew ?_ | refine blk_alloc ?_ _)); exact BK174.out)) : gb174 ≠ gb175)); have n6_ := Aside0.mk ((by rw [hg]; exact Nat.ne_of_gt (blk_lt (g := gb174) (o := .cells #[.bool a0_0, .slice A0_1 l0_1.length c0_1, .int .i64 a0_2] 32 (0, 0)) (by (with_reducible repeat (first | refine blk_drewN ?_ _ | refine blk_drew ?_ | refine blk_alloc ?_ _)); exact BK174.out)) : gb175 ≠ gb174)); clear BK174; clear HB; have BK174 := n0_; have HB := n1_; have BK175 := n2_; have GW175 := n3_; have GE175 := n4_; have NB174_175 := n5_; have NB175_174 := n6_; clear n0_ n1_ n2_ n3_ n4_ n5_ n6_; clear hb hbox hg; have hnb41 := NB174_175.out; have hnc41 := NB175_174.out; have hcz42_0 : w40.cell? ⟨gb174, 0, none⟩ = some (.bool a0_0) := (blk_cell BK174.out 0).trans rfl; have hcz42_1 : w40.cell? ⟨gb174, 1, none⟩ = some (.slice A0_1 l0_1.length c0_1) := (blk_cell BK174.out 1).trans rfl; have hcz42_2 : w40.cell? ⟨gb174, 2, none⟩ = some (.int .i64 a0_2) := (blk_cell BK174.out 2).trans rfl; have hfz42_0 := blk_frozen BK174.out 0; have hfz42_1 := blk_frozen BK174.out 1; have hfz42_2 := blk_frozen BK174.out 2; have hcz43_0 : w40.cell? ⟨gb175, 0, none⟩ = some (.bool a1_0) := (blk_cell BK175.out 0).trans rfl; have hcz43_1 : w40.cell? ⟨gb175, 1, none⟩ = some (.slice A1_1 l1_1.length c1_1) := (blk_cell BK175.out 1).trans rfl; have hcz43_2 : w40.cell? ⟨gb175, 2, none⟩ = some (.int .i64 a1_2) := (blk_cell BK175.out 2).trans rfl; have hfz43_0 := blk_frozen BK175.out 0; have hfz43_1 := blk_frozen BK175.out 1; have hfz43_2 := blk_frozen BK175.out 2)))
      go_ret
      exact ⟨by first | rfl | (simp [errW_none, errW_some] <;> rfl) | (simp [*, errW_none, errW_some] <;> rfl), by repeat (first | (with_reducible first | exact HB.out | apply below_alloc | apply pw_below_drewN | apply below_drew1 | refine below_set ?_ GE174.out | refine below_set ?_ GE175.out) | exact HB.out)⟩

/-! ### spec_at: function 30 -/
def spec_at.f (l0 : List Int) (a1 : Int) : Option (Int) := if a1 < (l0.length : Int) then (if 0 ≤ (wrap64 ((wrap64 ((l0.length : Int) - 1)) - a1)) then (if (wrap64 ((wrap64 ((l0.length : Int) - 1)) - a1)) < (l0.length : Int) then (some (rd l0 (wrap64 ((wrap64 ((l0.length : Int) - 1)) - a1)))) else (none)) else (none)) else (some 0)
set_option maxHeartbeats 8000000 in
set_option maxRecDepth 100000 in
theorem spec_at.calls (A0 : Option Addr) (c0 : Nat) (l0 : List Int) (a1 : Int) (r : Int) (w : World) (hr0 : Kd.C (Kd.int .i64) w A0 l0.length l0) (hc0 : l0.length ≤ c0) (h : spec_at.f l0 a1 = some r) :
    Calls Try.prog 30 #[.slice A0 l0.length c0, .int .i64 a1] w fun e w' => e = .returned (.int .i64 r) ∧ Drawn0 w w' := by
  have HR0 := Aside0.mk hr0
  have HC0 := Aside0.mk hc0
  clear hr0 hc0
  have H : (if a1 < (l0.length : Int) then (if 0 ≤ (wrap64 ((wrap64 ((l0.length : Int) - 1)) - a1)) then (if (wrap64 ((wrap64 ((l0.length : Int) - 1)) - a1)) < (l0.length : Int) then (some (rd l0 (wrap64 ((wrap64 ((l0.length : Int) - 1)) - a1)))) else (none)) else (none)) else (some 0)) = some r := h
  clear h
  by_cases c3 : a1 < (l0.length : Int)
  · rw [if_pos c3] at H
    have c3b0 : decide (a1 < (l0.length : Int)) = true := decide_eq_true c3
    clear c3
    obtain ⟨ji4, hji4⟩ : ∃ j_ : Int, (wrap64 ((wrap64 ((l0.length : Int) - 1)) - a1)) = j_ := ⟨_, rfl⟩
    replace H : (if 0 ≤ (ji4) then (if (ji4) < (l0.length : Int) then (some (rd l0 (ji4))) else (none)) else (none)) = some r := by first | (rw [hji4] at H; exact H) | (simp only [hji4] at H ⊢; exact H)
    have hji4w : (IntKind.i64.wrap ((wrap64 ((l0.length : Int) - 1)) - a1)) = ji4 := (i64_w _).trans hji4
    by_cases c5 : 0 ≤ (ji4)
    · rw [if_pos c5] at H
      have c5b0 : decide (0 ≤ (ji4)) = true := decide_eq_true c5
      clear c5
      by_cases c6 : (ji4) < (l0.length : Int)
      · rw [if_pos c6] at H
        have c6b0 : decide ((ji4) < (l0.length : Int)) = true := decide_eq_true c6
        clear c6
        obtain rfl := Option.some.inj H
        have p178 : 0 ≤ ((ji4) : Int) := of_decide_eq_true (by first | (with_reducible assumption) | assumption)
        have q178 : (ji4) < (l0.length : Int) := of_decide_eq_true (by first | (with_reducible assumption) | assumption)
        obtain ⟨ad178, e178, hx178_0⟩ := Kd.at_int HR0.out (ji4) p178 q178
        cases e178
        replace p178 := eq_true p178
        replace q178 := eq_true q178
        go_enter Try.func30, Try.ntmps30
        go_wp2
        go_ret
        exact ⟨by first | rfl | (simp; done) | (simp only [← hji4] <;> (first | rfl | simp)) | (simp [*]; done), by repeat (first | exact Drawn0.refl _ | apply Drawn0.step)⟩
      · rw [if_neg c6] at H
        exact absurd H (by simp)
    · rw [if_neg c5] at H
      exact absurd H (by simp)
  · rw [if_neg c3] at H
    have c3b0 : decide (a1 < (l0.length : Int)) = false := decide_eq_false c3
    clear c3
    obtain rfl := Option.some.inj H
    go_enter Try.func30, Try.ntmps30
    go_wp2
    go_ret
    exact ⟨by first | rfl | (simp; done) | (simp [*]; done), by repeat (first | exact Drawn0.refl _ | apply Drawn0.step)⟩

end Go.Proofs.Ytmkpkpkcoieeiaa.XFnAmountSub
