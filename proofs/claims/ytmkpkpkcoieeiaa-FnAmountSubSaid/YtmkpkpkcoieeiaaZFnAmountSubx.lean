/- The law's function walked on the one way that the print does not take: nothing is taken away (the second number is 0), so that the sum is the first number's own row. -/
import Derived.Test.YtmkpkpkcoieeiaaXFnAmountSubx
import Derived.Deep.RegionWith
import Derived.RegionCalls
namespace Go.Proofs.Ytmkpkpkcoieeiaa.ZFnAmountSub
open Go.RowKit Go.Proofs.YtmkpkpkcoieeiaaW.PrintWords Go.Proofs.YtmkpkpkcoieeiaaW.PrintLast Go.Proofs.YtmkpkpkcoieeiaaW.PrintMore Go.Proofs.Ytmkpkpkcoieeiaa.XFnAmountSub

theorem neg0 (n : Bool) (A : Option Addr) (c : Nat) (x : Int) (w : World) :
    Calls Try.prog 11 #[.agg #[.bool n, .slice A 0 c, .int .i64 x]] w fun e w' => e = .returned (.agg #[.bool n, .slice A 0 c, .int .i64 x]) ∧ Below w.heap.size w w' := by
  go_enter Try.func11, Try.ntmps11
  go_wp2_with fail
  refine bodyPost_ret (results_cell_row rfl _ _ (w.heap.size + 1) 32 #[.bool n, .slice A 0 c, .int .i64 x] (0, 0) _ rfl (by simpa using heap_alloc_new (w.alloc (.cells #[.bool n, .slice A 0 c, .int .i64 x] 32)) (.cells #[.bool n, .slice A 0 c, .int .i64 x] 32)) Try.underlying32 rfl (by kernel_rfl)) rfl ?_
  exact ⟨rfl, below_alloc (below_alloc (Below.refl _ _) _) _⟩
theorem add0 (n : Bool) (A : Option Addr) (l : Nat) (c : Nat) (x : Int) (n2 : Bool) (A2 : Option Addr) (c2 : Nat) (x2 : Int) (hl : ¬ (l : Int) = 0) (w : World) :
    Calls Try.prog 10 #[.agg #[.bool n, .slice A l c, .int .i64 x], .agg #[.bool n2, .slice A2 0 c2, .int .i64 x2]] w fun e w' => e = .returned (.tuple #[.agg #[.bool n, .slice A l c, .int .i64 x], .bool true]) ∧ Below w.heap.size w w' := by
  have c0 : ((l : Int) == 0) = false := beq_eq_false_iff_ne.mpr hl
  clear hl
  go_enter Try.func10, Try.ntmps10
  go_wp2_with fail
  refine bodyPost_ret (results_ct rfl _ _ (w.heap.size + 1 + 1) 32 #[.bool n, .slice A l c, .int .i64 x] (0, 0) _ rfl (by simpa using heap_alloc_new ((w.alloc (.cells #[.bool n, .slice A l c, .int .i64 x] 32)).alloc (.cells #[.bool n2, .slice A2 0 c2, .int .i64 x2] 32)) (.cells #[.bool n, .slice A l c, .int .i64 x] 32)) Try.underlying32 rfl (by kernel_rfl)) rfl ?_
  exact ⟨rfl, below_alloc (below_alloc (below_alloc (Below.refl _ _) _) _) _⟩
theorem sealA {W w5 : World} (hs : Below W.heap.size W w5) (cs : Array Value) :
    ∃ V B, w5.alloc (.cells cs 32) = V ∧ w5.heap.size = B ∧ Aside0 (V.heap[B]? = some (.cells cs 32 (0, 0))) ∧ Below W.heap.size W V ∧ B < V.heap.size :=
  ⟨_, _, rfl, rfl, ⟨by simpa using heap_alloc_new w5 (.cells cs 32)⟩, below_alloc hs _, by simp⟩
theorem sealB {W w5 : World} {g : Nat} (hs : Below W.heap.size W w5) (hg : W.heap.size ≤ g) {o0 o1 o2 : Value} (p : w5.heap[g]? = some (.cells #[o0, o1, o2] 32 (0, 0))) (v0 v1 v2 : Value) :
    ∃ V B, ((w5.setCell ⟨g, 0, none⟩ v0).setCell ⟨g, 1, none⟩ v1).setCell ⟨g, 2, none⟩ v2 = V ∧ g = B ∧ Aside0 (V.heap[B]? = some (.cells #[v0, v1, v2] 32 (0, 0))) ∧ Below W.heap.size W V ∧ B < V.heap.size := by
  have h := blk_set (blk_set (blk_set p 0 v0) 1 v1) 2 v2
  exact ⟨_, _, rfl, rfl, ⟨by simpa using h⟩, ((hs.setCell hg _).setCell hg _).setCell hg _, blk_lt h⟩
set_option maxHeartbeats 8000000 in
set_option maxRecDepth 100000 in
theorem sub0 (k : Nat) (a0 a1 b0 b1 : Int) (n1 : Bool) (l1 : List Int) (x1 : Int) (n2 : Bool) (x2 : Int) (g1 g2 s1 s2 t1 t2 : Int)
    (h1 : Aside0 (laws_amountOf.f k a0 a1 = some (n1, l1, x1, true))) (hl : ¬ (l1.length : Int) = 0) (h2 : Aside0 (laws_amountOf.f k b0 b1 = some (n2, [], x2, true))) (hb : ¬ b0 = -9223372036854775808)
    (h3 : Aside0 (impl_AmountSub.f k a0 a1 b0 b1 = some (g1, g2, true))) (h4 : Aside0 (laws_amountIs.f k g1 g2 n1 l1 x1 = some true)) (h5 : Aside0 (impl_AmountAdd.f k a0 a1 b0 b1 = some (s1, s2, true)))
    (h6 : Aside0 (impl_AmountSub.f k s1 s2 b0 b1 = some (t1, t2, true))) (h7 : Aside0 (laws_amountIs.f k t1 t2 n1 l1 x1 = some true)) (h8 : Aside0 (laws_amountAwake.f k = some true)) (w : World) :
    Calls Try.prog 4 #[.agg #[.int .i64 a0, .int .i64 a1], .agg #[.int .i64 b0, .int .i64 b1]] w fun e w' => e = .returned (.bool true) ∧ Below w.heap.size w w' := by
  have c0 : (b0 == -9223372036854775808) = false := beq_eq_false_iff_ne.mpr hb
  clear hb
  go_enter Try.func4, Try.ntmps4
  go_wp2_with fail
  (with_reducible refine (laws_amountOf.calls k a0 a1 _ _ _ _ _ h1.out).mono ?_)
  rintro e w1 ⟨v1, rfl, hR1, hb1⟩
  have z1 := hb1.size
  simp at z1
  have RA1 : w1.heap[w.heap.size]? = some (.cells #[.int .i64 a0, .int .i64 a1] 29 (0, 0)) := blk_below (blk_alloc (by simpa using heap_alloc_new w (.cells #[.int .i64 a0, .int .i64 a1] 29)) _) hb1
  have RB1 : w1.heap[w.heap.size + 1]? = some (.cells #[.int .i64 b0, .int .i64 b1] 29 (0, 0)) := blk_below (by simpa using heap_alloc_new (w.alloc (.cells #[.int .i64 a0, .int .i64 a1] 29)) (.cells #[.int .i64 b0, .int .i64 b1] 29)) hb1
  have HB1 : Below w.heap.size w w1 := (below_alloc (below_alloc (Below.refl _ _) _) _).trans (hb1.mono (by simp; omega))
  obtain ⟨A1, c1, rfl⟩ := Kd.R_slice hR1
  obtain ⟨_, hc1, hC1⟩ := Kd.R_reads' hR1
  have y0 : w.heap.size < w1.heap.size := by omega
  have y1 : w.heap.size + 1 < w1.heap.size := by omega
  have fb0 : w1.cell? ⟨w.heap.size + 1, 0, none⟩ = some (.int .i64 b0) := (blk_cell RB1 0).trans rfl
  have fb1 : w1.cell? ⟨w.heap.size + 1, 1, none⟩ = some (.int .i64 b1) := (blk_cell RB1 1).trans rfl
  have GA1 := Aside0.mk RA1
  have GB1 := Aside0.mk RB1
  have GH1 := Aside0.mk HB1
  have GC1 := Aside0.mk hC1
  clear RA1 RB1 HB1 hC1 hR1 hb1
  go_wp2_with fail
  (with_reducible refine (laws_amountOf.calls k b0 b1 _ _ _ _ _ h2.out).mono ?_)
  rintro e w2 ⟨v2, rfl, hR2, hb2⟩
  have z2 := hb2.size
  simp at z2
  have RA2 := blk_below (blk_alloc GA1.out (.cells #[.bool n1, .slice A1 l1.length c1, .int .i64 x1] 32)) hb2
  have RB2 := blk_below (blk_alloc GB1.out (.cells #[.bool n1, .slice A1 l1.length c1, .int .i64 x1] 32)) hb2
  have RX2 : w2.heap[w1.heap.size]? = some (.cells #[.bool n1, .slice A1 l1.length c1, .int .i64 x1] 32 (0, 0)) := blk_below (by simpa using heap_alloc_new w1 (.cells #[.bool n1, .slice A1 l1.length c1, .int .i64 x1] 32)) hb2
  have HB2 : Below w.heap.size w w2 := (below_alloc GH1.out _).trans (hb2.mono (by simp; omega))
  have hC2 := Kd.C_below (Kd.C_below GC1.out (below_alloc (Below.refl _ _) (.cells #[.bool n1, .slice A1 l1.length c1, .int .i64 x1] 32))) hb2
  obtain ⟨A2, c2, e2_⟩ := Kd.R_slice hR2
  have e2_ : v2 = .slice A2 0 c2 := e2_
  subst e2_
  have y2 : w1.heap.size < w2.heap.size := by omega
  have y4 : w.heap.size < w2.heap.size := by omega
  have y5 : w.heap.size + 1 < w2.heap.size := by omega
  have fa0 : w2.cell? ⟨w.heap.size, 0, none⟩ = some (.int .i64 a0) := (blk_cell RA2 0).trans rfl
  have fa1 : w2.cell? ⟨w.heap.size, 1, none⟩ = some (.int .i64 a1) := (blk_cell RA2 1).trans rfl
  have fb2 : w2.cell? ⟨w.heap.size + 1, 0, none⟩ = some (.int .i64 b0) := (blk_cell RB2 0).trans rfl
  have fb3 : w2.cell? ⟨w.heap.size + 1, 1, none⟩ = some (.int .i64 b1) := (blk_cell RB2 1).trans rfl
  have GA2 := Aside0.mk RA2
  have GB2 := Aside0.mk RB2
  have GX2 := Aside0.mk RX2
  have GH2 := Aside0.mk HB2
  have GC2 := Aside0.mk hC2
  clear RA2 RB2 RX2 HB2 hC2 hR2 hb2 fb0 fb1 GA1 GB1 GH1 GC1
  go_wp2_with fail
  (with_reducible refine (impl_AmountSub.calls k a0 a1 b0 b1 _ _ _ _ h3.out).mono ?_)
  rintro e w3 ⟨rfl, hb3⟩
  have z3 := hb3.size
  simp at z3
  have RA3 := blk_below (blk_alloc GA2.out (.cells #[.bool n2, .slice A2 0 c2, .int .i64 x2] 32)) hb3
  have RB3 := blk_below (blk_alloc GB2.out (.cells #[.bool n2, .slice A2 0 c2, .int .i64 x2] 32)) hb3
  have RX3 := blk_below (blk_alloc GX2.out (.cells #[.bool n2, .slice A2 0 c2, .int .i64 x2] 32)) hb3
  have RY3 : w3.heap[w2.heap.size]? = some (.cells #[.bool n2, .slice A2 0 c2, .int .i64 x2] 32 (0, 0)) := blk_below (by simpa using heap_alloc_new w2 (.cells #[.bool n2, .slice A2 0 c2, .int .i64 x2] 32)) hb3
  have HB3 : Below w.heap.size w w3 := (below_alloc GH2.out _).trans (hb3.mono (by simp; omega))
  have hC3 := Kd.C_below (Kd.C_below GC2.out (below_alloc (Below.refl _ _) (.cells #[.bool n2, .slice A2 0 c2, .int .i64 x2] 32))) hb3
  have y3 : w2.heap.size < w3.heap.size := by omega
  have y6 : w.heap.size < w3.heap.size := by omega
  have y7 : w.heap.size + 1 < w3.heap.size := by omega
  have y8 : w1.heap.size < w3.heap.size := by omega
  have fx0 : w3.cell? ⟨w1.heap.size, 0, none⟩ = some (.bool n1) := (blk_cell RX3 0).trans rfl
  have fx1 : w3.cell? ⟨w1.heap.size, 1, none⟩ = some (.slice A1 l1.length c1) := (blk_cell RX3 1).trans rfl
  have fx2 : w3.cell? ⟨w1.heap.size, 2, none⟩ = some (.int .i64 x1) := (blk_cell RX3 2).trans rfl
  have fy0 : w3.cell? ⟨w2.heap.size, 0, none⟩ = some (.bool n2) := (blk_cell RY3 0).trans rfl
  have fy1 : w3.cell? ⟨w2.heap.size, 1, none⟩ = some (.slice A2 0 c2) := (blk_cell RY3 1).trans rfl
  have fy2 : w3.cell? ⟨w2.heap.size, 2, none⟩ = some (.int .i64 x2) := (blk_cell RY3 2).trans rfl
  have GA3 := Aside0.mk RA3
  have GB3 := Aside0.mk RB3
  have GX3 := Aside0.mk RX3
  have GY3 := Aside0.mk RY3
  have GH3 := Aside0.mk HB3
  have GC3 := Aside0.mk hC3
  clear RA3 RB3 RX3 RY3 HB3 hC3 hb3 fa0 fa1 fb2 fb3 GA2 GB2 GX2 GH2 GC2
  go_wp2_with fail
  obtain ⟨W, hW⟩ : ∃ W, w3.alloc (.cells #[.int .i64 g1, .int .i64 g2] 29) = W := ⟨_, rfl⟩
  rw [hW]
  have RAW : W.heap[w.heap.size]? = some (.cells #[.int .i64 a0, .int .i64 a1] 29 (0, 0)) := by rw [← hW]; exact blk_alloc GA3.out _
  have RBW : W.heap[w.heap.size + 1]? = some (.cells #[.int .i64 b0, .int .i64 b1] 29 (0, 0)) := by rw [← hW]; exact blk_alloc GB3.out _
  have RXW : W.heap[w1.heap.size]? = some (.cells #[.bool n1, .slice A1 l1.length c1, .int .i64 x1] 32 (0, 0)) := by rw [← hW]; exact blk_alloc GX3.out _
  have RYW : W.heap[w2.heap.size]? = some (.cells #[.bool n2, .slice A2 0 c2, .int .i64 x2] 32 (0, 0)) := by rw [← hW]; exact blk_alloc GY3.out _
  have RGW : W.heap[w3.heap.size]? = some (.cells #[.int .i64 g1, .int .i64 g2] 29 (0, 0)) := by rw [← hW]; simpa using heap_alloc_new w3 (.cells #[.int .i64 g1, .int .i64 g2] 29)
  have HBW : Below w.heap.size w W := by rw [← hW]; exact below_alloc GH3.out _
  have hCW : Kd.C (Kd.int .i64) W A1 l1.length l1 := by rw [← hW]; exact Kd.C_below GC3.out (below_alloc (Below.refl _ _) _)
  have zW : W.heap.size = w3.heap.size + 1 := by rw [← hW]; simp
  have u0 : w.heap.size < W.heap.size := by omega
  have u1 : w.heap.size + 1 < W.heap.size := by omega
  have u2 : w1.heap.size < W.heap.size := by omega
  have u3 : w2.heap.size < W.heap.size := by omega
  have u4 : w3.heap.size < W.heap.size := by omega
  have gx0 : W.cell? ⟨w1.heap.size, 0, none⟩ = some (.bool n1) := (blk_cell RXW 0).trans rfl
  have gx1 : W.cell? ⟨w1.heap.size, 1, none⟩ = some (.slice A1 l1.length c1) := (blk_cell RXW 1).trans rfl
  have gx2 : W.cell? ⟨w1.heap.size, 2, none⟩ = some (.int .i64 x1) := (blk_cell RXW 2).trans rfl
  have gy0 : W.cell? ⟨w2.heap.size, 0, none⟩ = some (.bool n2) := (blk_cell RYW 0).trans rfl
  have gy1 : W.cell? ⟨w2.heap.size, 1, none⟩ = some (.slice A2 0 c2) := (blk_cell RYW 1).trans rfl
  have gy2 : W.cell? ⟨w2.heap.size, 2, none⟩ = some (.int .i64 x2) := (blk_cell RYW 2).trans rfl
  clear fx0 fx1 fx2 fy0 fy1 fy2 hW GA3 GB3 GX3 GY3 GH3 GC3 y0 y1 y2 y3 y4 y5 y6 y7 y8 z1 z2 z3 zW
  have LA := Aside0.mk RAW
  have LB := Aside0.mk RBW
  have LX := Aside0.mk RXW
  have LG := Aside0.mk RGW
  have LH := Aside0.mk HBW
  have LC := Aside0.mk hCW
  clear RAW RBW RXW RYW RGW HBW hCW
  go_region_with (first
    | (go_at_call 11; refine (neg0 n2 A2 c2 x2 _).mono ?_; rintro e w4 ⟨rfl, hb4⟩;
       have H4 : Below W.heap.size W w4 := Below.trans (by repeat (first | exact Below.refl _ _ | apply below_alloc | apply pw_below_drewN | apply below_drew1)) (hb4.mono (by first | exact Nat.le_refl _ | (simp; done) | (simp; omega)));
       have q0 := (blk_cell (blk_below LX.out H4) 0).trans rfl; have q1 := (blk_cell (blk_below LX.out H4) 1).trans rfl; have q2 := (blk_cell (blk_below LX.out H4) 2).trans rfl;
       have s4 := H4.size; have s5 : w1.heap.size < w4.heap.size := by omega;
       (try (have m_ : w4.heap[W.heap.size]? = some (.cells #[.bool false, .slice none 0 0, .int .i64 0] 32 (0, 0)) := blk_below (by (with_reducible repeat (first | refine blk_drewN ?_ _ | refine blk_drew ?_)); simpa using heap_alloc_new W (.cells #[.bool false, .slice none 0 0, .int .i64 0] 32)) hb4; have m0 := (blk_cell m_ 0).trans rfl; have m1 := (blk_cell m_ 1).trans rfl; have m2 := (blk_cell m_ 2).trans rfl; have m3 := blk_frozen m_ 0; have m4 := blk_frozen m_ 1; have m5 := blk_frozen m_ 2)))
    | (go_at_call 10; refine (add0 n1 A1 l1.length c1 x1 n2 A2 c2 x2 hl _).mono ?_; rintro e w5 ⟨rfl, hb5⟩;
       have H5 : Below W.heap.size W w5 := Below.trans (by repeat (first | exact H4 | apply below_alloc | apply pw_below_drewN | apply below_drew1)) (hb5.mono (by first | exact s4 | (simp; omega) | omega));
       (try (have p_ : w5.heap[W.heap.size]? = some (.cells #[.bool false, .slice none 0 0, .int .i64 0] 32 (0, 0)) := blk_below (by (with_reducible repeat (first | refine blk_drewN ?_ _ | refine blk_drew ?_ | refine blk_alloc ?_ _)); exact m_) hb5; have p0 := (blk_cell p_ 0).trans rfl; have p1 := (blk_cell p_ 1).trans rfl; have p2 := (blk_cell p_ 2).trans rfl; have p3 := blk_frozen p_ 0; have p4 := blk_frozen p_ 1; have p5 := blk_frozen p_ 2));
       (try (have p_ : w5.heap[w4.heap.size]? = some (.cells #[.bool false, .slice none 0 0, .int .i64 0] 32 (0, 0)) := blk_below (by (with_reducible repeat (first | refine blk_drewN ?_ _ | refine blk_drew ?_)); simpa using heap_alloc_new w4 (.cells #[.bool false, .slice none 0 0, .int .i64 0] 32)) hb5; have p0 := (blk_cell p_ 0).trans rfl; have p1 := (blk_cell p_ 1).trans rfl; have p2 := (blk_cell p_ 2).trans rfl; have p3 := blk_frozen p_ 0; have p4 := blk_frozen p_ 1; have p5 := blk_frozen p_ 2))))
  all_goals
    ((first
      | (obtain ⟨V, B, hV, hB, hW, HV, zB⟩ := sealA H5 #[.bool n1, .slice A1 l1.length c1, .int .i64 x1]; rw [hV, hB])
      | (obtain ⟨V, B, hV, hB, hW, HV, zB⟩ := sealB (g := w4.heap.size) H5 s4 p_ (.bool n1) (.slice A1 l1.length c1) (.int .i64 x1); rw [hV, hB])
      | (obtain ⟨V, B, hV, hB, hW, HV, zB⟩ := sealB (g := W.heap.size) H5 (Nat.le_refl _) p_ (.bool n1) (.slice A1 l1.length c1) (.int .i64 x1); rw [hV, hB]))
     (try clear hV hB p_ p0 p1 p2 p3 p4 p5)
     (try clear m_ m0 m1 m2 m3 m4 m5)
     (try clear q0 q1 q2 s5)
     (try clear hb5 H5 hb4 H4 s4)
     have MA := Aside0.mk (blk_below LA.out HV)
     have MB := Aside0.mk (blk_below LB.out HV)
     have MX := Aside0.mk (blk_below LX.out HV)
     have MG := Aside0.mk (blk_below LG.out HV)
     have MH := Aside0.mk (LH.out.trans (HV.mono (Nat.le_of_lt u0)))
     have MC := Aside0.mk (Kd.C_below LC.out HV)
     have zV := HV.size
     have u0 : w.heap.size < V.heap.size := by omega
     have u1 : w.heap.size + 1 < V.heap.size := by omega
     have u2 : w1.heap.size < V.heap.size := by omega
     have u4 : w3.heap.size < V.heap.size := by omega
     clear LA LB LX LG LH LC gx0 gx1 gx2 gy0 gy1 gy2 u3 HV zV
     have fg0 : V.cell? ⟨w3.heap.size, 0, none⟩ = some (.int .i64 g1) := (blk_cell MG.out 0).trans rfl
     have fg1 : V.cell? ⟨w3.heap.size, 1, none⟩ = some (.int .i64 g2) := (blk_cell MG.out 1).trans rfl
     have fw0 : V.cell? ⟨B, 0, none⟩ = some (.bool n1) := (blk_cell hW.out 0).trans rfl
     have fw1 : V.cell? ⟨B, 1, none⟩ = some (.slice A1 l1.length c1) := (blk_cell hW.out 1).trans rfl
     have fw2 : V.cell? ⟨B, 2, none⟩ = some (.int .i64 x1) := (blk_cell hW.out 2).trans rfl
     go_wp2_with fail
     (with_reducible refine (laws_amountIs.calls k g1 g2 n1 A1 c1 l1 x1 true V MC.out hc1 h4.out).mono ?_)
     rintro e w6 ⟨rfl, hb6⟩
     have z6 := hb6.size
     have NA := Aside0.mk (blk_below MA.out hb6)
     have NB := Aside0.mk (blk_below MB.out hb6)
     have NX := Aside0.mk (blk_below MX.out hb6)
     have NH := Aside0.mk (MH.out.trans (hb6.mono (Nat.le_of_lt u0)))
     have NC := Aside0.mk (Kd.C_below MC.out hb6)
     have v0 : w.heap.size < w6.heap.size := by omega
     have v1 : w.heap.size + 1 < w6.heap.size := by omega
     have v2 : w1.heap.size < w6.heap.size := by omega
     clear MA MB MX MG MH MC hW zB u0 u1 u2 u4 fg0 fg1 fw0 fw1 fw2 hb6 z6
     have fa0 : w6.cell? ⟨w.heap.size, 0, none⟩ = some (.int .i64 a0) := (blk_cell NA.out 0).trans rfl
     have fa1 : w6.cell? ⟨w.heap.size, 1, none⟩ = some (.int .i64 a1) := (blk_cell NA.out 1).trans rfl
     have fb0 : w6.cell? ⟨w.heap.size + 1, 0, none⟩ = some (.int .i64 b0) := (blk_cell NB.out 0).trans rfl
     have fb1 : w6.cell? ⟨w.heap.size + 1, 1, none⟩ = some (.int .i64 b1) := (blk_cell NB.out 1).trans rfl
     go_wp2_with fail
     (with_reducible refine (impl_AmountAdd.calls k a0 a1 b0 b1 _ _ _ _ h5.out).mono ?_)
     rintro e w7 ⟨rfl, hb7⟩
     have z7 := hb7.size
     have OB := Aside0.mk (blk_below NB.out hb7)
     have OX := Aside0.mk (blk_below NX.out hb7)
     have OH := Aside0.mk (NH.out.trans (hb7.mono (Nat.le_of_lt v0)))
     have OC := Aside0.mk (Kd.C_below NC.out hb7)
     have y0 : w.heap.size < w7.heap.size := by omega
     have y1 : w.heap.size + 1 < w7.heap.size := by omega
     have y2 : w1.heap.size < w7.heap.size := by omega
     clear NA NB NX NH NC hb7 z7 v0 v1 v2 fa0 fa1 fb0 fb1
     have fb0 : w7.cell? ⟨w.heap.size + 1, 0, none⟩ = some (.int .i64 b0) := (blk_cell OB.out 0).trans rfl
     have fb1 : w7.cell? ⟨w.heap.size + 1, 1, none⟩ = some (.int .i64 b1) := (blk_cell OB.out 1).trans rfl
     go_wp2_with fail
     (with_reducible refine (impl_AmountSub.calls k s1 s2 b0 b1 _ _ _ _ h6.out).mono ?_)
     rintro e w8 ⟨rfl, hb8⟩
     have z8 := hb8.size
     simp at z8
     have PX := Aside0.mk (blk_below (blk_alloc OX.out (.cells #[.int .i64 s1, .int .i64 s2] 29)) hb8)
     have PH := Aside0.mk ((below_alloc OH.out (.cells #[.int .i64 s1, .int .i64 s2] 29)).trans (hb8.mono (by simp; omega)))
     have PC := Aside0.mk (Kd.C_below (Kd.C_below OC.out (below_alloc (Below.refl _ _) (.cells #[.int .i64 s1, .int .i64 s2] 29))) hb8)
     have v0 : w.heap.size < w8.heap.size := by omega
     have v2 : w1.heap.size < w8.heap.size := by omega
     clear OB OX OH OC hb8 z8 y0 y1 y2 fb0 fb1
     have fx0 : w8.cell? ⟨w1.heap.size, 0, none⟩ = some (.bool n1) := (blk_cell PX.out 0).trans rfl
     have fx1 : w8.cell? ⟨w1.heap.size, 1, none⟩ = some (.slice A1 l1.length c1) := (blk_cell PX.out 1).trans rfl
     have fx2 : w8.cell? ⟨w1.heap.size, 2, none⟩ = some (.int .i64 x1) := (blk_cell PX.out 2).trans rfl
     go_wp2_with fail
     (with_reducible refine (laws_amountIs.calls k t1 t2 n1 A1 c1 l1 x1 true _ (Kd.C_below PC.out (below_alloc (Below.refl _ _) _)) hc1 h7.out).mono ?_)
     rintro e w9 ⟨rfl, hb9⟩
     have z9 := hb9.size
     simp at z9
     have QH := Aside0.mk ((below_alloc PH.out (.cells #[.int .i64 t1, .int .i64 t2] 29)).trans (hb9.mono (by simp; omega)))
     have y0 : w.heap.size < w9.heap.size := by omega
     clear PX PH PC hb9 z9 v0 v2 fx0 fx1 fx2
     go_wp2_with fail
     (with_reducible refine (laws_amountAwake.calls k _ _ h8.out).mono ?_)
     rintro e w10 ⟨rfl, hb10⟩
     have RH := Aside0.mk (QH.out.trans (hb10.mono (by omega)))
     clear QH hb10 y0
     go_wp2_with fail
     go_ret
     exact ⟨rfl, RH.out⟩)

/-- The one way that the print leaves out: the second number is 0, the first is not. -/
def Way (k : Nat) (a0 a1 b0 b1 : Int) : Prop := ∃ (n1 : Bool) (l1 : List Int) (x1 : Int) (n2 : Bool) (x2 : Int) (g1 g2 s1 s2 t1 t2 : Int),
  laws_amountOf.f k a0 a1 = some (n1, l1, x1, true) ∧ ¬ (l1.length : Int) = 0 ∧ laws_amountOf.f k b0 b1 = some (n2, [], x2, true) ∧ ¬ b0 = -9223372036854775808 ∧
  impl_AmountSub.f k a0 a1 b0 b1 = some (g1, g2, true) ∧ laws_amountIs.f k g1 g2 n1 l1 x1 = some true ∧ impl_AmountAdd.f k a0 a1 b0 b1 = some (s1, s2, true) ∧
  impl_AmountSub.f k s1 s2 b0 b1 = some (t1, t2, true) ∧ laws_amountIs.f k t1 t2 n1 l1 x1 = some true ∧ laws_amountAwake.f k = some true
open Classical in
/-- What the law answers. -/
noncomputable def laws_FnAmountSub.f (k : Nat) (a0_0 : Int) (a0_1 : Int) (a1_0 : Int) (a1_1 : Int) : Option (Bool) :=
  if Way k a0_0 a0_1 a1_0 a1_1 then some true else XFnAmountSub.laws_FnAmountSub.f k a0_0 a0_1 a1_0 a1_1
theorem laws_FnAmountSub.calls (k : Nat) (a0_0 : Int) (a0_1 : Int) (a1_0 : Int) (a1_1 : Int) (r : Bool) (w : World) (h : laws_FnAmountSub.f k a0_0 a0_1 a1_0 a1_1 = some r) :
    Calls Try.prog 4 #[.agg #[.int .i64 a0_0, .int .i64 a0_1], .agg #[.int .i64 a1_0, .int .i64 a1_1]] w fun e w' => e = .returned (.bool r) ∧ Below w.heap.size w w' := by
  unfold laws_FnAmountSub.f at h
  by_cases hw : Way k a0_0 a0_1 a1_0 a1_1
  · rw [if_pos hw] at h
    obtain ⟨n1, l1, x1, n2, x2, g1, g2, s1, s2, t1, t2, h1, hl, h2, hb, h3, h4, h5, h6, h7, h8⟩ := hw
    obtain rfl := Option.some.inj h
    exact sub0 k a0_0 a0_1 a1_0 a1_1 n1 l1 x1 n2 x2 g1 g2 s1 s2 t1 t2 ⟨h1⟩ hl ⟨h2⟩ hb ⟨h3⟩ ⟨h4⟩ ⟨h5⟩ ⟨h6⟩ ⟨h7⟩ ⟨h8⟩ w
  · rw [if_neg hw] at h
    exact XFnAmountSub.laws_FnAmountSub.calls k a0_0 a0_1 a1_0 a1_1 r w h
end Go.Proofs.Ytmkpkpkcoieeiaa.ZFnAmountSub
