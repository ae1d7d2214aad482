/- A text of this session: the functions of the law FnArgBoth, by a program that calls the kit's print and lays this session's own contracts of single functions beside. -/
import Derived.Test.YtehgokciafpnbabXFnArgBothx0
import Derived.Test.YtehgokciafpnbabXFnArgBothx2
namespace Go.Proofs.Ytehgokciafpnbab.XFnArgBoth
open Go.RowKit Go.Proofs.YtehgokciafpnbabW.PrintWords Go.Proofs.YtehgokciafpnbabW.PrintLast Go.Proofs.YtehgokciafpnbabW.PrintMore
attribute [local go_sem] max2_int min2_int max_two min_two max_three min_three max_four min_four   -- for this text's walks alone
set_option linter.unusedVariables false
set_option linter.unusedSimpArgs false

/-! ### impl_KindArg: function 14 -/
theorem results_ctc {fn : Func} {P : Program} {p u p' : Tmp} {ty ty' : TypeId} (h : fn.results = #[.cell p ty, .tmp u, .cell p' ty']) (tmps : Array Value) (w : World) (g g' : Nat) (t t' : TypeId) (cs cs' : Array Value) (fr fr' : Nat × Nat) (d d' : TypeDesc)
    (hp : tmps.getD p undef = .pointer (some ⟨g, 0, none⟩)) (hg : w.heap[g]? = some (.cells cs t fr))
    (hu : P.underlying ty = some d) (hd : (match d with | .struct _ | .array _ _ => true | _ => false) = true) (hi : (P.info? ty).map (·.size) = some cs.size)
    (hp' : tmps.getD p' undef = .pointer (some ⟨g', 0, none⟩)) (hg' : w.heap[g']? = some (.cells cs' t' fr'))
    (hu' : P.underlying ty' = some d') (hd' : (match d' with | .struct _ | .array _ _ => true | _ => false) = true) (hi' : (P.info? ty').map (·.size) = some cs'.size) :
    (results fn tmps).run P w = .ok (.tuple #[.agg cs, tmps.getD u undef, .agg cs']) w := by
  have h1 : tmps[p]?.getD undef = .pointer (some ⟨g, 0, none⟩) := by simpa using hp
  have h2 : tmps[p']?.getD undef = .pointer (some ⟨g', 0, none⟩) := by simpa using hp'
  simp [results, h, h1, h2, asAddr, run_loadVar_row w g t ty cs fr d hg hu hd hi, run_loadVar_row w g' t' ty' cs' fr' d' hg' hu' hd' hi']
theorem pka_short (k : Nat) (s g kd : ByteArray) (n : Int) (w : World) (hc : Aside0 (schema_zzCount.f k s (⟨#[46]⟩ : ByteArray) = some n)) (hn : decide (2 ≤ n) = false) (hp : Aside0 (schema_ParseGroupKind.f k s = some (g, kd))) :
    Calls Try.prog 24 #[.string s] w fun e w' => e = .returned (.tuple #[.pointer none, .agg #[.string g, .string kd]]) ∧ Below w.heap.size w w' := by
  go_enter Try.func24, Try.ntmps24
  go_wp2_with fail
  (with_reducible refine (schema_zzCount.calls k _ _ _ _ hc.out).mono ?_)
  rintro e w1 ⟨rfl, ⟨m, rfl⟩⟩
  go_wp2_with fail
  (with_reducible refine (schema_ParseGroupKind.calls k _ _ _ _ hp.out).mono ?_)
  rintro e w2 ⟨rfl, hb⟩
  have hz := hb.size
  simp at hz
  have hy : w.heap.size < w2.heap.size := by omega
  have R0 : w2.heap[w.heap.size]? = some (.cells #[.string ⟨#[]⟩, .string ⟨#[]⟩] 48 (0, 0)) := blk_below (blk_drewN (by simpa using heap_alloc_new w (.cells #[.string ⟨#[]⟩, .string ⟨#[]⟩] 48)) m) hb
  have HB : Below w.heap.size w w2 := (pw_below_drewN (below_alloc (Below.refl _ _) _) m).trans (hb.mono (by simp))
  have f0 : w2.cell? ⟨w.heap.size, 0, none⟩ = some (.string ⟨#[]⟩) := (blk_cell R0 0).trans rfl
  have f1 : w2.cell? ⟨w.heap.size, 1, none⟩ = some (.string ⟨#[]⟩) := (blk_cell R0 1).trans rfl
  have f3 := blk_frozen R0 0
  have f4 := blk_frozen R0 1
  have HR := Aside0.mk R0
  have HB1 := Aside0.mk HB
  clear hb hz R0 HB
  go_wp2_with fail
  refine bodyPost_ret (results_tc rfl _ _ w.heap.size 48 #[.string g, .string kd] (0, 0) _ rfl (blk_put (cs := #[.string g, .string ⟨#[]⟩]) (blk_put (cs := #[.string ⟨#[]⟩, .string ⟨#[]⟩]) HR.out 0 _ rfl) 1 _ rfl) Try.underlying48 rfl (by kernel_rfl)) rfl ?_
  exact ⟨rfl, below_set (below_set HB1.out (Nat.le_refl _)) (Nat.le_refl _)⟩
theorem pka_long (k : Nat) (s g kd l0 l1 l2 : ByteArray) (n : Int) (w : World) (hc : Aside0 (schema_zzCount.f k s (⟨#[46]⟩ : ByteArray) = some n)) (hn : decide (2 ≤ n) = true) (hs : Aside0 (schema_zzSplitThree.f k s = some [l0, l1, l2])) (hp : Aside0 (schema_ParseGroupKind.f k s = some (g, kd))) :
    Calls Try.prog 24 #[.string s] w fun e w' => ∃ b, e = .returned (.tuple #[.pointer (some ⟨b, 0, none⟩), .agg #[.string g, .string kd]]) ∧ w.heap.size ≤ b ∧ b < w'.heap.size ∧ w'.heap[b]? = some (.cells #[.string l2, .string l1, .string l0] 41 (0, 0)) ∧ Below w.heap.size w w' := by
  go_enter Try.func24, Try.ntmps24
  go_wp2_with fail
  (with_reducible refine (schema_zzCount.calls k _ _ _ _ hc.out).mono ?_)
  rintro e w1 ⟨rfl, ⟨m, rfl⟩⟩
  go_wp2_with fail
  (with_reducible refine (schema_zzSplitThree.calls k _ _ _ hs.out).mono ?_)
  rintro e w2 ⟨v0, rfl, hR, hb⟩
  have hz := hb.size
  simp at hz
  have hy : w.heap.size < w2.heap.size := by omega
  have R0 : w2.heap[w.heap.size]? = some (.cells #[.string ⟨#[]⟩, .string ⟨#[]⟩] 48 (0, 0)) := blk_below (blk_drewN (by simpa using heap_alloc_new w (.cells #[.string ⟨#[]⟩, .string ⟨#[]⟩] 48)) m) hb
  have HB : Below w.heap.size w w2 := (pw_below_drewN (below_alloc (Below.refl _ _) _) m).trans (hb.mono (by simp))
  have f0 : w2.cell? ⟨w.heap.size, 0, none⟩ = some (.string ⟨#[]⟩) := (blk_cell R0 0).trans rfl
  have f1 : w2.cell? ⟨w.heap.size, 1, none⟩ = some (.string ⟨#[]⟩) := (blk_cell R0 1).trans rfl
  have f3 := blk_frozen R0 0
  have f4 := blk_frozen R0 1
  have HR := Aside0.mk R0
  have HB1 := Aside0.mk HB
  obtain ⟨A, c, rfl⟩ := Kd.R_slice hR
  have hC := (Kd.R_reads' hR).2.2
  have g0 := Kd.at_string hC 0 (by simp) (by simp)
  obtain ⟨ad, rfl, g0⟩ := g0
  obtain ⟨ad1, e1, g1⟩ := Kd.at_string hC 1 (by simp) (by simp)
  obtain rfl : ad = ad1 := by simpa using e1
  obtain ⟨ad2, e2, g2⟩ := Kd.at_string hC 2 (by simp) (by simp)
  obtain rfl : ad = ad2 := by simpa using e2
  replace g0 : w2.cell? (ad.add 0) = some (.string l0) := g0
  replace g1 : w2.cell? (ad.add 1) = some (.string l1) := g1
  replace g2 : w2.cell? (ad.add 2) = some (.string l2) := g2
  have g0' : w2.cell? ad = some (.string l0) := by rw [← g0]; cases ad; rfl
  have g1' : w2.cell? { block := ad.block, off := ad.off + 1 } = some (.string l1) := g1
  have g2' : w2.cell? { block := ad.block, off := ad.off + 2 } = some (.string l2) := g2
  have hlen : [l0, l1, l2].length = 3 := rfl
  rw [hlen]
  clear hb hz R0 HB hR hC hlen e1 e2
  go_wp2_with fail
  go_region
  all_goals go_wp2_with fail
  clear f0 f1 f3 f4 g0 g1 g2 g0' g1' g2'
  (with_reducible refine (schema_ParseGroupKind.calls k _ _ _ _ hp.out).mono ?_)
  rintro e w3 ⟨rfl, hb⟩
  have hz := hb.size
  simp at hz
  have hy3 : w.heap.size < w3.heap.size := by omega
  have hy4 : w2.heap.size < w3.heap.size := by omega
  have hne : w.heap.size ≠ w2.heap.size := by omega
  have R0 : w3.heap[w.heap.size]? = some (.cells #[.string ⟨#[]⟩, .string ⟨#[]⟩] 48 (0, 0)) := blk_below (blk_drew (blk_alloc HR.out _)) hb
  have R1 : w3.heap[w2.heap.size]? = some (.cells #[.string l2, .string l1, .string l0] 41 (0, 0)) := blk_below (blk_drew (by simpa using heap_alloc_new w2 (.cells #[.string l2, .string l1, .string l0] 41))) hb
  have HB2 : Below w.heap.size w w3 := (below_drew1 (below_alloc HB1.out _)).trans (hb.mono (by simp; omega))
  have f0 : w3.cell? ⟨w.heap.size, 0, none⟩ = some (.string ⟨#[]⟩) := (blk_cell R0 0).trans rfl
  have f1 : w3.cell? ⟨w.heap.size, 1, none⟩ = some (.string ⟨#[]⟩) := (blk_cell R0 1).trans rfl
  have f3 := blk_frozen R0 0
  have f4 := blk_frozen R0 1
  have HR2 := Aside0.mk R0
  have HR3 := Aside0.mk R1
  have HB3 := Aside0.mk HB2
  clear hb hz R0 R1 HB2
  go_wp2_with fail
  refine bodyPost_ret (results_tc rfl _ _ w.heap.size 48 #[.string g, .string kd] (0, 0) _ rfl (blk_put (cs := #[.string g, .string ⟨#[]⟩]) (blk_put (cs := #[.string ⟨#[]⟩, .string ⟨#[]⟩]) HR2.out 0 _ rfl) 1 _ rfl) Try.underlying48 rfl (by kernel_rfl)) rfl ?_
  exact ⟨w2.heap.size, rfl, by omega, by simpa using hy4, blk_far (blk_far HR3.out hne.symm _) hne.symm _, below_set (below_set HB3.out (Nat.le_refl _)) (Nat.le_refl _)⟩
theorem pka_walk_short (k : Nat) (s g kd : ByteArray) (n : Int) (w : World) (hc : Aside0 (schema_zzCount.f k s (⟨#[46]⟩ : ByteArray) = some n)) (hn : decide (2 ≤ n) = false) (hp : Aside0 (schema_ParseGroupKind.f k s = some (g, kd))) :
    Calls Try.prog 14 #[.string s] w fun e w' => e = .returned (.tuple #[.agg #[.string ⟨#[]⟩, .string ⟨#[]⟩, .string ⟨#[]⟩], .bool false, .agg #[.string g, .string ⟨#[]⟩, .string kd]]) ∧ Below w.heap.size w w' := by
  go_enter Try.func14, Try.ntmps14
  go_wp2_with fail
  (with_reducible refine (pka_short k _ _ _ _ _ hc hn hp).mono ?_)
  rintro e w1 ⟨rfl, hb⟩
  have hz := hb.size
  simp at hz
  have hA : w.heap.size < w1.heap.size := by omega
  have hB : w.heap.size + 1 < w1.heap.size := by omega
  have hAB : w.heap.size ≠ w.heap.size + 1 := by omega
  have R0 : w1.heap[w.heap.size]? = some (.cells #[.string ⟨#[]⟩, .string ⟨#[]⟩, .string ⟨#[]⟩] 29 (0, 0)) := blk_below (blk_alloc (by simpa using heap_alloc_new w (.cells #[.string ⟨#[]⟩, .string ⟨#[]⟩, .string ⟨#[]⟩] 29)) _) hb
  have R1 : w1.heap[w.heap.size + 1]? = some (.cells #[.string ⟨#[]⟩, .string ⟨#[]⟩, .string ⟨#[]⟩] 29 (0, 0)) := blk_below (by simpa using heap_alloc_new (w.alloc (.cells #[.string ⟨#[]⟩, .string ⟨#[]⟩, .string ⟨#[]⟩] 29)) (.cells #[.string ⟨#[]⟩, .string ⟨#[]⟩, .string ⟨#[]⟩] 29)) hb
  have HB : Below w.heap.size w w1 := (below_alloc (below_alloc (Below.refl _ _) _) _).trans (hb.mono (by simp; omega))
  have f0 : w1.cell? ⟨w.heap.size, 0, none⟩ = some (.string ⟨#[]⟩) := (blk_cell R0 0).trans rfl
  have f1 : w1.cell? ⟨w.heap.size, 1, none⟩ = some (.string ⟨#[]⟩) := (blk_cell R0 1).trans rfl
  have f2 : w1.cell? ⟨w.heap.size, 2, none⟩ = some (.string ⟨#[]⟩) := (blk_cell R0 2).trans rfl
  have f3 := blk_frozen R0 0
  have f4 := blk_frozen R0 1
  have f5 := blk_frozen R0 2
  have f6 : w1.cell? ⟨w.heap.size + 1, 0, none⟩ = some (.string ⟨#[]⟩) := (blk_cell R1 0).trans rfl
  have f7 : w1.cell? ⟨w.heap.size + 1, 1, none⟩ = some (.string ⟨#[]⟩) := (blk_cell R1 1).trans rfl
  have f8 : w1.cell? ⟨w.heap.size + 1, 2, none⟩ = some (.string ⟨#[]⟩) := (blk_cell R1 2).trans rfl
  have f9 := blk_frozen R1 0
  have f10 := blk_frozen R1 1
  have f11 := blk_frozen R1 2
  have HR0 := Aside0.mk R0
  have HR1 := Aside0.mk R1
  have HB1 := Aside0.mk HB
  clear hb hz R0 R1 HB
  go_wp2_with fail
  go_region
  go_wp2_with fail
  refine bodyPost_ret (results_ctc rfl _ _ w.heap.size (w.heap.size + 1) 29 29 #[.string ⟨#[]⟩, .string ⟨#[]⟩, .string ⟨#[]⟩] #[.string g, .string ⟨#[]⟩, .string kd] (0, 0) (0, 0) _ _ rfl (blk_drew (blk_alloc (blk_far (blk_far (blk_far (blk_put (cs := #[.string ⟨#[]⟩, .string ⟨#[]⟩, .string ⟨#[]⟩]) (blk_put (cs := #[.string ⟨#[]⟩, .string ⟨#[]⟩, .string ⟨#[]⟩]) (blk_put (cs := #[.string ⟨#[]⟩, .string ⟨#[]⟩, .string ⟨#[]⟩]) (HR0.out) 0 _ rfl) 1 _ rfl) 2 _ rfl) hAB _) hAB _) hAB _) _)) Try.underlying29 rfl (by kernel_rfl) rfl (blk_drew (blk_alloc (blk_put (cs := #[.string g, .string ⟨#[]⟩, .string ⟨#[]⟩]) (blk_put (cs := #[.string g, .string ⟨#[]⟩, .string ⟨#[]⟩]) (blk_put (cs := #[.string ⟨#[]⟩, .string ⟨#[]⟩, .string ⟨#[]⟩]) ((blk_far (blk_far (blk_far HR1.out hAB.symm _) hAB.symm _) hAB.symm _)) 0 _ rfl) 1 _ rfl) 2 _ rfl) _)) Try.underlying29 rfl (by kernel_rfl)) rfl ?_
  exact ⟨rfl, (below_drew1 (below_alloc (below_set (below_set (below_set (below_set (below_set (below_set HB1.out (by simp)) (by simp)) (by simp)) (by simp)) (by simp)) (by simp)) _))⟩
theorem pka_walk_long (k : Nat) (s g kd l0 l1 l2 : ByteArray) (n : Int) (w : World) (hc : Aside0 (schema_zzCount.f k s (⟨#[46]⟩ : ByteArray) = some n)) (hn : decide (2 ≤ n) = true) (hs : Aside0 (schema_zzSplitThree.f k s = some [l0, l1, l2])) (hp : Aside0 (schema_ParseGroupKind.f k s = some (g, kd))) :
    Calls Try.prog 14 #[.string s] w fun e w' => e = .returned (.tuple #[.agg #[.string l2, .string l1, .string l0], .bool true, .agg #[.string g, .string ⟨#[]⟩, .string kd]]) ∧ Below w.heap.size w w' := by
  go_enter Try.func14, Try.ntmps14
  go_wp2_with fail
  (with_reducible refine (pka_long k _ _ _ _ _ _ _ _ hc hn hs hp).mono ?_)
  rintro e w1 ⟨b, rfl, hb0, hb1, hP, hb⟩
  have hz := hb.size
  simp at hz
  have hA : w.heap.size < w1.heap.size := by omega
  have hB : w.heap.size + 1 < w1.heap.size := by omega
  have hAB : w.heap.size ≠ w.heap.size + 1 := by omega
  have R0 : w1.heap[w.heap.size]? = some (.cells #[.string ⟨#[]⟩, .string ⟨#[]⟩, .string ⟨#[]⟩] 29 (0, 0)) := blk_below (blk_alloc (by simpa using heap_alloc_new w (.cells #[.string ⟨#[]⟩, .string ⟨#[]⟩, .string ⟨#[]⟩] 29)) _) hb
  have R1 : w1.heap[w.heap.size + 1]? = some (.cells #[.string ⟨#[]⟩, .string ⟨#[]⟩, .string ⟨#[]⟩] 29 (0, 0)) := blk_below (by simpa using heap_alloc_new (w.alloc (.cells #[.string ⟨#[]⟩, .string ⟨#[]⟩, .string ⟨#[]⟩] 29)) (.cells #[.string ⟨#[]⟩, .string ⟨#[]⟩, .string ⟨#[]⟩] 29)) hb
  have HB : Below w.heap.size w w1 := (below_alloc (below_alloc (Below.refl _ _) _) _).trans (hb.mono (by simp; omega))
  have f0 : w1.cell? ⟨w.heap.size, 0, none⟩ = some (.string ⟨#[]⟩) := (blk_cell R0 0).trans rfl
  have f1 : w1.cell? ⟨w.heap.size, 1, none⟩ = some (.string ⟨#[]⟩) := (blk_cell R0 1).trans rfl
  have f2 : w1.cell? ⟨w.heap.size, 2, none⟩ = some (.string ⟨#[]⟩) := (blk_cell R0 2).trans rfl
  have f3 := blk_frozen R0 0
  have f4 := blk_frozen R0 1
  have f5 := blk_frozen R0 2
  have f6 : w1.cell? ⟨w.heap.size + 1, 0, none⟩ = some (.string ⟨#[]⟩) := (blk_cell R1 0).trans rfl
  have f7 : w1.cell? ⟨w.heap.size + 1, 1, none⟩ = some (.string ⟨#[]⟩) := (blk_cell R1 1).trans rfl
  have f8 : w1.cell? ⟨w.heap.size + 1, 2, none⟩ = some (.string ⟨#[]⟩) := (blk_cell R1 2).trans rfl
  have f9 := blk_frozen R1 0
  have f10 := blk_frozen R1 1
  have f11 := blk_frozen R1 2
  have p0 : w1.cell? ⟨b, 0, none⟩ = some (.string l2) := (blk_cell hP 0).trans rfl
  have p1 : w1.cell? ⟨b, 1, none⟩ = some (.string l1) := (blk_cell hP 1).trans rfl
  have p2 : w1.cell? ⟨b, 2, none⟩ = some (.string l0) := (blk_cell hP 2).trans rfl
  have hbA : b ≠ w.heap.size := by simp at hb0; omega
  have hbB : b ≠ w.heap.size + 1 := by simp at hb0; omega
  have hbC : b < w1.heap.size := hb1
  have HR0 := Aside0.mk R0
  have HR1 := Aside0.mk R1
  have HB1 := Aside0.mk HB
  clear hb hz R0 R1 HB
  go_wp2_with fail
  go_region
  go_wp2_with fail
  go_region
  go_wp2_with fail
  refine bodyPost_ret (results_ctc rfl _ _ w.heap.size (w.heap.size + 1) 29 29 #[.string l2, .string l1, .string l0] #[.string g, .string ⟨#[]⟩, .string kd] (0, 0) (0, 0) _ _ rfl (blk_drew (blk_drew (blk_alloc (blk_far (blk_far (blk_far (blk_put (cs := #[.string l2, .string l1, .string l0]) (blk_put (cs := #[.string l2, .string l1, .string l0]) (blk_put (cs := #[.string l2, .string l1, .string l0]) ((blk_put (cs := #[.string l2, .string l1, .string ⟨#[]⟩]) (blk_put (cs := #[.string l2, .string ⟨#[]⟩, .string ⟨#[]⟩]) (blk_put (cs := #[.string ⟨#[]⟩, .string ⟨#[]⟩, .string ⟨#[]⟩]) (HR0.out) 0 _ rfl) 1 _ rfl) 2 _ rfl)) 0 _ rfl) 1 _ rfl) 2 _ rfl) hAB _) hAB _) hAB _) _))) Try.underlying29 rfl (by kernel_rfl) rfl (blk_drew (blk_drew (blk_alloc (blk_put (cs := #[.string g, .string ⟨#[]⟩, .string ⟨#[]⟩]) (blk_put (cs := #[.string g, .string ⟨#[]⟩, .string ⟨#[]⟩]) (blk_put (cs := #[.string ⟨#[]⟩, .string ⟨#[]⟩, .string ⟨#[]⟩]) ((blk_far (blk_far (blk_far (blk_far (blk_far (blk_far HR1.out hAB.symm _) hAB.symm _) hAB.symm _) hAB.symm _) hAB.symm _) hAB.symm _)) 0 _ rfl) 1 _ rfl) 2 _ rfl) _))) Try.underlying29 rfl (by kernel_rfl)) rfl ?_
  exact ⟨rfl, (below_drew1 (below_drew1 (below_alloc (below_set (below_set (below_set (below_set (below_set (below_set (below_set (below_set (below_set HB1.out (by simp)) (by simp)) (by simp)) (by simp)) (by simp)) (by simp)) (by simp)) (by simp)) (by simp)) _)))⟩
def impl_KindArg.f (k : Nat) (a0 : ByteArray) : Option (ByteArray × ByteArray × ByteArray × Bool × ByteArray × ByteArray × ByteArray) :=
  (schema_zzCount.f k a0 (⟨#[46]⟩ : ByteArray)).bind fun n => (schema_ParseGroupKind.f k a0).bind fun p => if 2 ≤ n then
    (schema_zzSplitThree.f k a0).bind fun l => (match l with | [x, y, z] => some (z, y, x, true, p.1, (⟨#[]⟩ : ByteArray), p.2) | _ => none)
  else some ((⟨#[]⟩ : ByteArray), (⟨#[]⟩ : ByteArray), (⟨#[]⟩ : ByteArray), false, p.1, (⟨#[]⟩ : ByteArray), p.2)
theorem impl_KindArg.mono : ∀ a0 k, LeO (impl_KindArg.f k a0) (impl_KindArg.f (k + 1) a0) := by
  intro a0 k
  unfold impl_KindArg.f
  exact LeO.bind (schema_zzCount.mono _ _ _) (fun _ => LeO.bind (schema_ParseGroupKind.mono _ _) (fun _ => LeO.ite (LeO.bind (schema_zzSplitThree.mono _ _) (fun _ => LeO.refl _)) (LeO.refl _)))
theorem impl_KindArg.calls (k : Nat) (a0 : ByteArray) (r1 r2 r3 : ByteArray) (r4 : Bool) (r5 r6 r7 : ByteArray) (w : World) (h : impl_KindArg.f k a0 = some (r1, r2, r3, r4, r5, r6, r7)) :
    Calls Try.prog 14 #[.string a0] w fun e w' => e = .returned (.tuple #[.agg #[.string r1, .string r2, .string r3], .bool r4, .agg #[.string r5, .string r6, .string r7]]) ∧ Below w.heap.size w w' := by
  unfold impl_KindArg.f at h
  obtain ⟨n, hn, h⟩ := Option.bind_eq_some_iff.1 h
  obtain ⟨⟨g, kd⟩, hp, h⟩ := Option.bind_eq_some_iff.1 h
  by_cases hc : 2 ≤ n
  · rw [if_pos hc] at h
    obtain ⟨l, hl, h⟩ := Option.bind_eq_some_iff.1 h
    match l, hl, h with
    | [x, y, z], hl, h =>
      simp only [Option.some.injEq, Prod.mk.injEq] at h
      obtain ⟨rfl, rfl, rfl, rfl, rfl, rfl, rfl⟩ := h
      exact pka_walk_long k a0 _ _ _ _ _ n w ⟨hn⟩ (decide_eq_true hc) ⟨hl⟩ ⟨hp⟩
  · rw [if_neg hc] at h
    simp only [Option.some.injEq, Prod.mk.injEq] at h
    obtain ⟨rfl, rfl, rfl, rfl, rfl, rfl, rfl⟩ := h
    exact pka_walk_short k a0 _ _ n w ⟨hn⟩ (decide_eq_false hc) ⟨hp⟩

/-! ### schema_ParseGroupResource: function 34 -/
def schema_ParseGroupResource.f (k : Nat) (a0 : ByteArray) : Option (ByteArray × ByteArray) := (schema_zzIndex.f k a0 (⟨#[46]⟩ : ByteArray)).bind fun t115 => (if t115 ≥ 0 then (if 0 ≤ (wrap64 (t115 + 1)) then (if (wrap64 (t115 + 1)) ≤ (a0.size : Int) then (if 0 ≤ t115 then (if t115 ≤ (a0.size : Int) then (some (a0.extract ((wrap64 (t115 + 1)) : Int).toNat a0.size, a0.extract 0 (t115 : Int).toNat)) else (none)) else (none)) else (none)) else (none)) else (some ((⟨#[]⟩ : ByteArray), a0)))
theorem schema_ParseGroupResource.mono : ∀ a0 k, LeO (schema_ParseGroupResource.f k a0) (schema_ParseGroupResource.f (k + 1) a0) := by
  intro a0 k
  unfold schema_ParseGroupResource.f
  repeat' first
      | (with_reducible exact schema_zzIndex.mono _ _ _)
      | (with_reducible exact LeO.refl _)
      | (with_reducible exact LeO.none _)
      | (with_reducible refine LeO.ite ?_ ?_)
      | (with_reducible refine LeO.bind ?_ (fun _ => ?_))
      | exact schema_zzIndex.mono _ _ _
      | exact LeO.none _
      | refine LeO.ite ?_ ?_
      | refine LeO.bind ?_ (fun _ => ?_)
def schema_ParseGroupResource.T3 : Bool × List (List Nat × List Nat) := (true, [([], []), ([], []), ([1], [1]), ([0, 2], [0, 2]), ([], []), ([], []), ([4, 5], [4, 5]), ([3, 6], [3, 6]), ([7, 0, 1, 2, 3, 4, 5, 6, 7], [7])])
def schema_ParseGroupResource.B3 : List Nat := [0, 0, 2, 7, 0, 0, 48, 127, 255]
theorem schema_ParseGroupResource.tab3 : rtab .any (opsOf Try.f34 3) = schema_ParseGroupResource.T3 := by kernel_rfl
theorem schema_ParseGroupResource.bits3 : waitsOk schema_ParseGroupResource.T3.2 schema_ParseGroupResource.B3 = true := by kernel_rfl
set_option maxHeartbeats 8000000 in
set_option maxRecDepth 100000 in
theorem schema_ParseGroupResource.calls (k : Nat) (a0 : ByteArray) (r1 : ByteArray) (r2 : ByteArray) (w : World) (h : schema_ParseGroupResource.f k a0 = some (r1, r2)) :
    Calls Try.prog 34 #[.string a0] w fun e w' => e = .returned (.agg #[.string r1, .string r2]) ∧ Below w.heap.size w w' := by
  have hu53 := Try.underlying53
  have HB := Aside0.mk (Below.refl w.heap.size w)
  have H : ((schema_zzIndex.f k a0 (⟨#[46]⟩ : ByteArray)).bind fun t115 => (if t115 ≥ 0 then (if 0 ≤ (wrap64 (t115 + 1)) then (if (wrap64 (t115 + 1)) ≤ (a0.size : Int) then (if 0 ≤ t115 then (if t115 ≤ (a0.size : Int) then (some (a0.extract ((wrap64 (t115 + 1)) : Int).toNat a0.size, a0.extract 0 (t115 : Int).toNat)) else (none)) else (none)) else (none)) else (none)) else (some ((⟨#[]⟩ : ByteArray), a0)))) = some (r1, r2) := h
  clear h
  replace H := Option.bind_eq_some_iff.mp H
  obtain ⟨t115, A20, H⟩ := H
  replace H : (if t115 ≥ 0 then (if 0 ≤ (wrap64 (t115 + 1)) then (if (wrap64 (t115 + 1)) ≤ (a0.size : Int) then (if 0 ≤ t115 then (if t115 ≤ (a0.size : Int) then (some (a0.extract ((wrap64 (t115 + 1)) : Int).toNat a0.size, a0.extract 0 (t115 : Int).toNat)) else (none)) else (none)) else (none)) else (none)) else (some ((⟨#[]⟩ : ByteArray), a0))) = some (r1, r2) := H
  have A2 := Aside0.mk A20
  clear A20
  by_cases c3 : t115 ≥ 0
  · rw [if_pos c3] at H
    have c3b0 : decide (0 ≤ t115) = true := decide_eq_true c3
    clear c3
    obtain ⟨ji4, hji4⟩ : ∃ j_ : Int, (wrap64 (t115 + 1)) = j_ := ⟨_, rfl⟩
    replace H : (if 0 ≤ (ji4) then (if (ji4) ≤ (a0.size : Int) then (if 0 ≤ t115 then (if t115 ≤ (a0.size : Int) then (some (a0.extract ((ji4) : Int).toNat a0.size, a0.extract 0 (t115 : Int).toNat)) else (none)) else (none)) else (none)) else (none)) = some (r1, r2) := by first | (rw [hji4] at H; exact H) | (simp only [hji4] at H ⊢; exact H)
    (try rw [hji4] at A2)
    have hji4w : (IntKind.i64.wrap (t115 + 1)) = ji4 := (i64_w _).trans hji4
    by_cases c5 : 0 ≤ (ji4)
    · rw [if_pos c5] at H
      have c5b0 := eq_true c5
      have c5b1 : decide (0 ≤ (ji4)) = true := decide_eq_true c5
      clear c5
      by_cases c6 : (ji4) ≤ (a0.size : Int)
      · rw [if_pos c6] at H
        have c6b0 := eq_true c6
        have c6b1 : decide ((ji4) ≤ (a0.size : Int)) = true := decide_eq_true c6
        clear c6
        by_cases c7 : 0 ≤ t115
        · rw [if_pos c7] at H
          have c7b0 := eq_true c7
          have c7b1 : decide (0 ≤ t115) = true := decide_eq_true c7
          clear c7
          by_cases c8 : t115 ≤ (a0.size : Int)
          · rw [if_pos c8] at H
            have c8b0 := eq_true c8
            have c8b1 : decide (t115 ≤ (a0.size : Int)) = true := decide_eq_true c8
            clear c8
            simp only [Option.some.injEq, Prod.mk.injEq] at H
            obtain ⟨rfl, rfl⟩ := H
            go_enter Try.func34, Try.ntmps34
            try go_wp2_with (first | ((with_reducible refine gate_dst (N := 2) rfl ?_); refine box_event ?hg (N := 2) ?hd (cs := #[.string (⟨#[]⟩ : ByteArray), .string (⟨#[]⟩ : ByteArray)]) (t := 53) ?hr ?_; (case hd => rfl); (case hg => rfl); (case hr => first | (go_simp; done) | (go_simp; rfl)); intro gb114 hg w9 hbox hb; have n0_ := Aside0.mk (below_step (by repeat (first | (with_reducible first | exact HB.out | apply below_alloc | apply pw_below_drewN | apply below_drew1) | exact HB.out)) hb); have n1_ := Aside0.mk (hbox); have n2_ := Aside0.mk ((by rw [hg]; exact (below_size (by repeat (first | (with_reducible first | exact HB.out | apply below_alloc | apply pw_below_drewN | apply below_drew1) | exact HB.out))) : w.heap.size ≤ gb114)); have n3_ := Aside0.mk ((by rw [hg]; exact (below_size (by repeat (first | (with_reducible first | exact HB.out | apply below_alloc | apply pw_below_drewN | apply below_drew1) | exact HB.out))) : w.heap.size ≤ gb114)); clear HB; have HB := n0_; have BK114 := n1_; have GW114 := n2_; have GE114 := n3_; clear n0_ n1_ n2_ n3_; clear hb hbox hg) | ((with_reducible refine gate_callee (f := 36) rfl ?_); refine goesL_ (some 5) rfl rfl Try.func36 (by kernel_rfl) rfl #[.string a0, .string (⟨#[46]⟩ : ByteArray)] rfl (by (try simp only [List.map_toArray, List.map_cons, List.map_nil]); first | done | rfl | (simp only [List.length_drop, List.length_take]; rfl)) ?_; (with_reducible refine (schema_zzIndex.calls k a0 (⟨#[46]⟩ : ByteArray) t115 _ A2.out).mono ?_); rintro e w' ⟨rfl, ⟨nd, rfl⟩⟩; refine ⟨_, rfl, ?_⟩; (try (rw [drewN_self w9]; generalize hq_ : World.drewN w9 _ = w9; have n0_ : Aside0 (w9.heap[gb114]? = some (.cells #[.string (⟨#[]⟩ : ByteArray), .string (⟨#[]⟩ : ByteArray)] 53 (0, 0))) := ⟨by rw [← hq_]; exact (by (with_reducible repeat (first | refine blk_drewN ?_ _ | refine blk_drew ?_ | refine blk_alloc ?_ _)); exact BK114.out)⟩; have n1_ : Aside0 (Below w.heap.size w w9) := ⟨by rw [← hq_]; exact (by repeat (first | (with_reducible first | exact HB.out | apply below_alloc | apply pw_below_drewN | apply below_drew1 | refine below_set ?_ GE114.out) | exact HB.out))⟩; clear BK114 HB hq_; have BK114 := n0_; have HB := n1_; clear n0_ n1_))))
            have n0_ := Aside0.mk (blk_drew BK114.out)
            have n1_ := Aside0.mk (below_drew1 HB.out)
            clear BK114
            clear HB
            have BK114 := n0_
            have HB := n1_
            clear n0_ n1_
            refine start_ (n := 9) (S := fun w' => True) (ds := []) #[false, false, false, false, false, false, false, false, false] (by kernel_rfl) rfl rfl trivial (fun hHeld => ?_); refine with_tabW schema_ParseGroupResource.tab3 schema_ParseGroupResource.bits3 (fun HT_ HW_ => ?_)
            generalize w9.drew = w10 at BK114 HB hHeld ⊢
            refine pure_ (i := 0) (N := some 8) (v := ?_) (a' := ?_) #[true, false, false, false, false, false, false, false, false] rfl rfl (any_of HT_.out (by kernel_rfl)) (fun _ _ _ h => h) (Or.inl ⟨by rfl, ?_⟩) ?_ ?_
            rotate_left
            · intro w'
              go_simp
              with_reducible rfl
            rotate_left
            · simp only [Act.put, List.setIfInBounds_toArray, List.set_cons_zero, List.set_cons_succ, i64_w, i32_w]
              rfl
            refine pure_ (i := 1) (N := some 9) (v := ?_) (a' := ?_) #[true, true, false, false, false, false, false, false, false] rfl rfl (any_of HT_.out (by kernel_rfl)) (fun _ _ _ h => h) (Or.inl ⟨by rfl, ?_⟩) ?_ ?_
            rotate_left
            · intro w'
              go_simp
              with_reducible rfl
            rotate_left
            · simp only [Act.put, List.setIfInBounds_toArray, List.set_cons_zero, List.set_cons_succ, i64_w, i32_w]
              rfl
            refine pure_ (i := 2) (N := some 10) (v := ?_) (a' := ?_) #[true, true, true, false, false, false, false, false, false] rfl rfl (any_of HT_.out (by kernel_rfl)) (fun _ _ _ h => h) (Or.inl ⟨by rfl, ?_⟩) ?_ ?_
            rotate_left
            · intro w'
              go_simp
              with_reducible rfl
            rotate_left
            · simp only [Act.put, List.setIfInBounds_toArray, List.set_cons_zero, List.set_cons_succ, i64_w, i32_w]
              rfl
            refine pure_ (i := 3) (N := some 11) (v := ?_) (a' := ?_) #[true, true, true, true, false, false, false, false, false] rfl rfl (any_of HT_.out (by kernel_rfl)) (fun _ _ _ h => h) (Or.inl ⟨by rfl, ?_⟩) ?_ ?_
            rotate_left
            · intro w'
              go_simp
              with_reducible rfl
            rotate_left
            · simp only [Act.put, List.setIfInBounds_toArray, List.set_cons_zero, List.set_cons_succ, i64_w, i32_w]
              rfl
            refine pure_ (i := 4) (N := some 12) (v := ?_) (a' := ?_) #[true, true, true, true, true, false, false, false, false] rfl rfl (any_of HT_.out (by kernel_rfl)) (fun _ _ _ h => h) (Or.inl ⟨by rfl, ?_⟩) ?_ ?_
            rotate_left
            · intro w'
              go_simp
              with_reducible rfl
            rotate_left
            · simp only [Act.put, List.setIfInBounds_toArray, List.set_cons_zero, List.set_cons_succ, i64_w, i32_w]
              rfl
            refine pure_ (i := 5) (N := some 13) (v := ?_) (a' := ?_) #[true, true, true, true, true, true, false, false, false] rfl rfl (any_of HT_.out (by kernel_rfl)) (fun _ _ _ h => h) (Or.inl ⟨by rfl, ?_⟩) ?_ ?_
            rotate_left
            · intro w'
              go_simp
              with_reducible rfl
            rotate_left
            · simp only [Act.put, List.setIfInBounds_toArray, List.set_cons_zero, List.set_cons_succ, i64_w, i32_w]
              rfl
            refine pure_ (i := 6) (N := some 14) (v := ?_) (a' := ?_) #[true, true, true, true, true, true, true, false, false] rfl rfl (any_of HT_.out (by kernel_rfl)) (fun _ _ _ h => h) (Or.inl ⟨by rfl, ?_⟩) ?_ ?_
            rotate_left
            · intro w'
              go_simp
              with_reducible rfl
            rotate_left
            · simp only [Act.put, List.setIfInBounds_toArray, List.set_cons_zero, List.set_cons_succ, i64_w, i32_w]
              rfl
            refine pure_ (i := 7) (N := some 15) (v := ?_) (a' := ?_) #[true, true, true, true, true, true, true, true, false] rfl rfl (any_of HT_.out (by kernel_rfl)) (fun _ _ _ h => h) (Or.inl ⟨by rfl, ?_⟩) ?_ ?_
            rotate_left
            · intro w'
              go_simp
              with_reducible rfl
            rotate_left
            · simp only [Act.put, List.setIfInBounds_toArray, List.set_cons_zero, List.set_cons_succ, i64_w, i32_w]
              rfl
            refine one_ (i := 8) (N := none) #[true, true, true, true, true, true, true, true, true] rfl rfl (one_of HT_.out (by kernel_rfl)) (by decide) (fun K hK => ?_)
            have hs11 : w10.cell? ⟨gb114, 0, none⟩ = some (.string (⟨#[]⟩ : ByteArray)) := (blk_cell BK114.out 0).trans rfl
            have hfs11 := blk_frozen BK114.out 0
            have hs12 : w10.cell? ⟨gb114, 1, none⟩ = some (.string (⟨#[]⟩ : ByteArray)) := (blk_cell BK114.out 1).trans rfl
            have hfs12 := blk_frozen BK114.out 1
            refine skip_ (w1 := ?_) (by rfl) rfl ?_ ?_
            rotate_left
            · go_simp
              rfl
            refine hK.out _ _ trivial (fun hHeld => ?_)
            clear hK K
            refine done_ (done_of HT_.out (by kernel_rfl)) ?_
            try go_wp2
            refine bodyPost_ret (results_cell_row rfl _ _ gb114 53 #[.string (a0.extract ((ji4) : Int).toNat a0.size), .string (a0.extract 0 (t115 : Int).toNat)] (0, 0) _ rfl (by (with_reducible repeat (first | refine blk_drewN ?_ _ | refine blk_drew ?_ | refine blk_alloc ?_ _)); refine blk_put (cs := #[.string (a0.extract ((ji4) : Int).toNat a0.size), .string (⟨#[]⟩ : ByteArray)]) ?_ 1 _ rfl; (with_reducible repeat (first | refine blk_drewN ?_ _ | refine blk_drew ?_ | refine blk_alloc ?_ _)); refine blk_put (cs := #[.string (⟨#[]⟩ : ByteArray), .string (⟨#[]⟩ : ByteArray)]) ?_ 0 _ rfl; (with_reducible repeat (first | refine blk_drewN ?_ _ | refine blk_drew ?_ | refine blk_alloc ?_ _)); exact BK114.out) Try.underlying53 rfl (by kernel_rfl)) rfl ?_
            exact ⟨by first | rfl | (simp [errW_none, errW_some] <;> rfl) | (simp only [← hji4]; first | rfl | (simp [errW_none, errW_some] <;> rfl)) | (simp [*, errW_none, errW_some] <;> rfl), by repeat (first | (with_reducible first | exact HB.out | apply below_alloc | apply pw_below_drewN | apply below_drew1 | refine below_set ?_ GE114.out) | exact HB.out)⟩
          · rw [if_neg c8] at H
            exact absurd H (by simp)
        · rw [if_neg c7] at H
          exact absurd H (by simp)
      · rw [if_neg c6] at H
        exact absurd H (by simp)
    · rw [if_neg c5] at H
      exact absurd H (by simp)
  · rw [if_neg c3] at H
    have c3b0 : decide (0 ≤ t115) = false := decide_eq_false c3
    clear c3
    simp only [Option.some.injEq, Prod.mk.injEq] at H
    obtain ⟨rfl, rfl⟩ := H
    go_enter Try.func34, Try.ntmps34
    go_wp2_with (first | ((with_reducible refine gate_dst (N := 2) rfl ?_); refine box_event ?hg (N := 2) ?hd (cs := #[.string (⟨#[]⟩ : ByteArray), .string (⟨#[]⟩ : ByteArray)]) (t := 53) ?hr ?_; (case hd => rfl); (case hg => rfl); (case hr => first | (go_simp; done) | (go_simp; rfl)); intro gb114 hg w13 hbox hb; have n0_ := Aside0.mk (below_step (by repeat (first | (with_reducible first | exact HB.out | apply below_alloc | apply pw_below_drewN | apply below_drew1) | exact HB.out)) hb); have n1_ := Aside0.mk (hbox); have n2_ := Aside0.mk ((by rw [hg]; exact (below_size (by repeat (first | (with_reducible first | exact HB.out | apply below_alloc | apply pw_below_drewN | apply below_drew1) | exact HB.out))) : w.heap.size ≤ gb114)); have n3_ := Aside0.mk ((by rw [hg]; exact (below_size (by repeat (first | (with_reducible first | exact HB.out | apply below_alloc | apply pw_below_drewN | apply below_drew1) | exact HB.out))) : w.heap.size ≤ gb114)); clear HB; have HB := n0_; have BK114 := n1_; have GW114 := n2_; have GE114 := n3_; clear n0_ n1_ n2_ n3_; clear hb hbox hg) | ((with_reducible refine gate_callee (f := 36) rfl ?_); refine goesL_ (some 5) rfl rfl Try.func36 (by kernel_rfl) rfl #[.string a0, .string (⟨#[46]⟩ : ByteArray)] rfl (by (try simp only [List.map_toArray, List.map_cons, List.map_nil]); first | done | rfl | (simp only [List.length_drop, List.length_take]; rfl)) ?_; (with_reducible refine (schema_zzIndex.calls k a0 (⟨#[46]⟩ : ByteArray) t115 _ A2.out).mono ?_); rintro e w' ⟨rfl, ⟨nd, rfl⟩⟩; refine ⟨_, rfl, ?_⟩; (try (rw [drewN_self w13]; generalize hq_ : World.drewN w13 _ = w13; have n0_ : Aside0 (w13.heap[gb114]? = some (.cells #[.string (⟨#[]⟩ : ByteArray), .string (⟨#[]⟩ : ByteArray)] 53 (0, 0))) := ⟨by rw [← hq_]; exact (by (with_reducible repeat (first | refine blk_drewN ?_ _ | refine blk_drew ?_ | refine blk_alloc ?_ _)); exact BK114.out)⟩; have n1_ : Aside0 (Below w.heap.size w w13) := ⟨by rw [← hq_]; exact (by repeat (first | (with_reducible first | exact HB.out | apply below_alloc | apply pw_below_drewN | apply below_drew1 | refine below_set ?_ GE114.out) | exact HB.out))⟩; clear BK114 HB hq_; have BK114 := n0_; have HB := n1_; clear n0_ n1_)); have hcz14_0 : w13.cell? ⟨gb114, 0, none⟩ = some (.string (⟨#[]⟩ : ByteArray)) := (blk_cell BK114.out 0).trans rfl; have hcz14_1 : w13.cell? ⟨gb114, 1, none⟩ = some (.string (⟨#[]⟩ : ByteArray)) := (blk_cell BK114.out 1).trans rfl; have hfz14_0 := blk_frozen BK114.out 0; have hfz14_1 := blk_frozen BK114.out 1))
    refine bodyPost_ret (results_cell_row rfl _ _ gb114 53 #[.string (⟨#[]⟩ : ByteArray), .string a0] (0, 0) _ rfl (by (with_reducible repeat (first | refine blk_drewN ?_ _ | refine blk_drew ?_ | refine blk_alloc ?_ _)); refine blk_put (cs := #[.string (⟨#[]⟩ : ByteArray), .string (⟨#[]⟩ : ByteArray)]) ?_ 1 _ rfl; (with_reducible repeat (first | refine blk_drewN ?_ _ | refine blk_drew ?_ | refine blk_alloc ?_ _)); refine blk_put (cs := #[.string (⟨#[]⟩ : ByteArray), .string (⟨#[]⟩ : ByteArray)]) ?_ 0 _ rfl; (with_reducible repeat (first | refine blk_drewN ?_ _ | refine blk_drew ?_ | refine blk_alloc ?_ _)); exact BK114.out) Try.underlying53 rfl (by kernel_rfl)) rfl ?_
    exact ⟨by first | rfl | (simp [errW_none, errW_some] <;> rfl) | (simp [*, errW_none, errW_some] <;> rfl), by repeat (first | (with_reducible first | exact HB.out | apply below_alloc | apply pw_below_drewN | apply below_drew1 | refine below_set ?_ GE114.out) | exact HB.out)⟩

-- NOT PRINTED: function 25 (schema_ParseResourceArg)

/-! ### impl_ResourceArg: function 15 -/
theorem pra_short (k : Nat) (s g kd : ByteArray) (n : Int) (w : World) (hc : Aside0 (schema_zzCount.f k s (⟨#[46]⟩ : ByteArray) = some n)) (hn : decide (2 ≤ n) = false) (hp : Aside0 (schema_ParseGroupResource.f k s = some (g, kd))) :
    Calls Try.prog 25 #[.string s] w fun e w' => e = .returned (.tuple #[.pointer none, .agg #[.string g, .string kd]]) ∧ Below w.heap.size w w' := by
  go_enter Try.func25, Try.ntmps25
  go_wp2_with fail
  (with_reducible refine (schema_zzCount.calls k _ _ _ _ hc.out).mono ?_)
  rintro e w1 ⟨rfl, ⟨m, rfl⟩⟩
  go_wp2_with fail
  (with_reducible refine (schema_ParseGroupResource.calls k _ _ _ _ hp.out).mono ?_)
  rintro e w2 ⟨rfl, hb⟩
  have hz := hb.size
  simp at hz
  have hy : w.heap.size < w2.heap.size := by omega
  have R0 : w2.heap[w.heap.size]? = some (.cells #[.string ⟨#[]⟩, .string ⟨#[]⟩] 53 (0, 0)) := blk_below (blk_drewN (by simpa using heap_alloc_new w (.cells #[.string ⟨#[]⟩, .string ⟨#[]⟩] 53)) m) hb
  have HB : Below w.heap.size w w2 := (pw_below_drewN (below_alloc (Below.refl _ _) _) m).trans (hb.mono (by simp))
  have f0 : w2.cell? ⟨w.heap.size, 0, none⟩ = some (.string ⟨#[]⟩) := (blk_cell R0 0).trans rfl
  have f1 : w2.cell? ⟨w.heap.size, 1, none⟩ = some (.string ⟨#[]⟩) := (blk_cell R0 1).trans rfl
  have f3 := blk_frozen R0 0
  have f4 := blk_frozen R0 1
  have HR := Aside0.mk R0
  have HB1 := Aside0.mk HB
  clear hb hz R0 HB
  go_wp2_with fail
  refine bodyPost_ret (results_tc rfl _ _ w.heap.size 53 #[.string g, .string kd] (0, 0) _ rfl (blk_put (cs := #[.string g, .string ⟨#[]⟩]) (blk_put (cs := #[.string ⟨#[]⟩, .string ⟨#[]⟩]) HR.out 0 _ rfl) 1 _ rfl) Try.underlying53 rfl (by kernel_rfl)) rfl ?_
  exact ⟨rfl, below_set (below_set HB1.out (Nat.le_refl _)) (Nat.le_refl _)⟩
theorem pra_long (k : Nat) (s g kd l0 l1 l2 : ByteArray) (n : Int) (w : World) (hc : Aside0 (schema_zzCount.f k s (⟨#[46]⟩ : ByteArray) = some n)) (hn : decide (2 ≤ n) = true) (hs : Aside0 (schema_zzSplitThree.f k s = some [l0, l1, l2])) (hp : Aside0 (schema_ParseGroupResource.f k s = some (g, kd))) :
    Calls Try.prog 25 #[.string s] w fun e w' => ∃ b, e = .returned (.tuple #[.pointer (some ⟨b, 0, none⟩), .agg #[.string g, .string kd]]) ∧ w.heap.size ≤ b ∧ b < w'.heap.size ∧ w'.heap[b]? = some (.cells #[.string l2, .string l1, .string l0] 57 (0, 0)) ∧ Below w.heap.size w w' := by
  go_enter Try.func25, Try.ntmps25
  go_wp2_with fail
  (with_reducible refine (schema_zzCount.calls k _ _ _ _ hc.out).mono ?_)
  rintro e w1 ⟨rfl, ⟨m, rfl⟩⟩
  go_wp2_with fail
  (with_reducible refine (schema_zzSplitThree.calls k _ _ _ hs.out).mono ?_)
  rintro e w2 ⟨v0, rfl, hR, hb⟩
  have hz := hb.size
  simp at hz
  have hy : w.heap.size < w2.heap.size := by omega
  have R0 : w2.heap[w.heap.size]? = some (.cells #[.string ⟨#[]⟩, .string ⟨#[]⟩] 53 (0, 0)) := blk_below (blk_drewN (by simpa using heap_alloc_new w (.cells #[.string ⟨#[]⟩, .string ⟨#[]⟩] 53)) m) hb
  have HB : Below w.heap.size w w2 := (pw_below_drewN (below_alloc (Below.refl _ _) _) m).trans (hb.mono (by simp))
  have f0 : w2.cell? ⟨w.heap.size, 0, none⟩ = some (.string ⟨#[]⟩) := (blk_cell R0 0).trans rfl
  have f1 : w2.cell? ⟨w.heap.size, 1, none⟩ = some (.string ⟨#[]⟩) := (blk_cell R0 1).trans rfl
  have f3 := blk_frozen R0 0
  have f4 := blk_frozen R0 1
  have HR := Aside0.mk R0
  have HB1 := Aside0.mk HB
  obtain ⟨A, c, rfl⟩ := Kd.R_slice hR
  have hC := (Kd.R_reads' hR).2.2
  have g0 := Kd.at_string hC 0 (by simp) (by simp)
  obtain ⟨ad, rfl, g0⟩ := g0
  obtain ⟨ad1, e1, g1⟩ := Kd.at_string hC 1 (by simp) (by simp)
  obtain rfl : ad = ad1 := by simpa using e1
  obtain ⟨ad2, e2, g2⟩ := Kd.at_string hC 2 (by simp) (by simp)
  obtain rfl : ad = ad2 := by simpa using e2
  replace g0 : w2.cell? (ad.add 0) = some (.string l0) := g0
  replace g1 : w2.cell? (ad.add 1) = some (.string l1) := g1
  replace g2 : w2.cell? (ad.add 2) = some (.string l2) := g2
  have g0' : w2.cell? ad = some (.string l0) := by rw [← g0]; cases ad; rfl
  have g1' : w2.cell? { block := ad.block, off := ad.off + 1 } = some (.string l1) := g1
  have g2' : w2.cell? { block := ad.block, off := ad.off + 2 } = some (.string l2) := g2
  have hlen : [l0, l1, l2].length = 3 := rfl
  rw [hlen]
  clear hb hz R0 HB hR hC hlen e1 e2
  go_wp2_with fail
  go_region
  all_goals go_wp2_with fail
  clear f0 f1 f3 f4 g0 g1 g2 g0' g1' g2'
  (with_reducible refine (schema_ParseGroupResource.calls k _ _ _ _ hp.out).mono ?_)
  rintro e w3 ⟨rfl, hb⟩
  have hz := hb.size
  simp at hz
  have hy3 : w.heap.size < w3.heap.size := by omega
  have hy4 : w2.heap.size < w3.heap.size := by omega
  have hne : w.heap.size ≠ w2.heap.size := by omega
  have R0 : w3.heap[w.heap.size]? = some (.cells #[.string ⟨#[]⟩, .string ⟨#[]⟩] 53 (0, 0)) := blk_below (blk_drew (blk_alloc HR.out _)) hb
  have R1 : w3.heap[w2.heap.size]? = some (.cells #[.string l2, .string l1, .string l0] 57 (0, 0)) := blk_below (blk_drew (by simpa using heap_alloc_new w2 (.cells #[.string l2, .string l1, .string l0] 57))) hb
  have HB2 : Below w.heap.size w w3 := (below_drew1 (below_alloc HB1.out _)).trans (hb.mono (by simp; omega))
  have f0 : w3.cell? ⟨w.heap.size, 0, none⟩ = some (.string ⟨#[]⟩) := (blk_cell R0 0).trans rfl
  have f1 : w3.cell? ⟨w.heap.size, 1, none⟩ = some (.string ⟨#[]⟩) := (blk_cell R0 1).trans rfl
  have f3 := blk_frozen R0 0
  have f4 := blk_frozen R0 1
  have HR2 := Aside0.mk R0
  have HR3 := Aside0.mk R1
  have HB3 := Aside0.mk HB2
  clear hb hz R0 R1 HB2
  go_wp2_with fail
  refine bodyPost_ret (results_tc rfl _ _ w.heap.size 53 #[.string g, .string kd] (0, 0) _ rfl (blk_put (cs := #[.string g, .string ⟨#[]⟩]) (blk_put (cs := #[.string ⟨#[]⟩, .string ⟨#[]⟩]) HR2.out 0 _ rfl) 1 _ rfl) Try.underlying53 rfl (by kernel_rfl)) rfl ?_
  exact ⟨w2.heap.size, rfl, by omega, by simpa using hy4, blk_far (blk_far HR3.out hne.symm _) hne.symm _, below_set (below_set HB3.out (Nat.le_refl _)) (Nat.le_refl _)⟩
theorem pra_walk_short (k : Nat) (s g kd : ByteArray) (n : Int) (w : World) (hc : Aside0 (schema_zzCount.f k s (⟨#[46]⟩ : ByteArray) = some n)) (hn : decide (2 ≤ n) = false) (hp : Aside0 (schema_ParseGroupResource.f k s = some (g, kd))) :
    Calls Try.prog 15 #[.string s] w fun e w' => e = .returned (.tuple #[.agg #[.string ⟨#[]⟩, .string ⟨#[]⟩, .string ⟨#[]⟩], .bool false, .agg #[.string g, .string ⟨#[]⟩, .string kd]]) ∧ Below w.heap.size w w' := by
  go_enter Try.func15, Try.ntmps15
  go_wp2_with fail
  (with_reducible refine (pra_short k _ _ _ _ _ hc hn hp).mono ?_)
  rintro e w1 ⟨rfl, hb⟩
  have hz := hb.size
  simp at hz
  have hA : w.heap.size < w1.heap.size := by omega
  have hB : w.heap.size + 1 < w1.heap.size := by omega
  have hAB : w.heap.size ≠ w.heap.size + 1 := by omega
  have R0 : w1.heap[w.heap.size]? = some (.cells #[.string ⟨#[]⟩, .string ⟨#[]⟩, .string ⟨#[]⟩] 29 (0, 0)) := blk_below (blk_alloc (by simpa using heap_alloc_new w (.cells #[.string ⟨#[]⟩, .string ⟨#[]⟩, .string ⟨#[]⟩] 29)) _) hb
  have R1 : w1.heap[w.heap.size + 1]? = some (.cells #[.string ⟨#[]⟩, .string ⟨#[]⟩, .string ⟨#[]⟩] 29 (0, 0)) := blk_below (by simpa using heap_alloc_new (w.alloc (.cells #[.string ⟨#[]⟩, .string ⟨#[]⟩, .string ⟨#[]⟩] 29)) (.cells #[.string ⟨#[]⟩, .string ⟨#[]⟩, .string ⟨#[]⟩] 29)) hb
  have HB : Below w.heap.size w w1 := (below_alloc (below_alloc (Below.refl _ _) _) _).trans (hb.mono (by simp; omega))
  have f0 : w1.cell? ⟨w.heap.size, 0, none⟩ = some (.string ⟨#[]⟩) := (blk_cell R0 0).trans rfl
  have f1 : w1.cell? ⟨w.heap.size, 1, none⟩ = some (.string ⟨#[]⟩) := (blk_cell R0 1).trans rfl
  have f2 : w1.cell? ⟨w.heap.size, 2, none⟩ = some (.string ⟨#[]⟩) := (blk_cell R0 2).trans rfl
  have f3 := blk_frozen R0 0
  have f4 := blk_frozen R0 1
  have f5 := blk_frozen R0 2
  have f6 : w1.cell? ⟨w.heap.size + 1, 0, none⟩ = some (.string ⟨#[]⟩) := (blk_cell R1 0).trans rfl
  have f7 : w1.cell? ⟨w.heap.size + 1, 1, none⟩ = some (.string ⟨#[]⟩) := (blk_cell R1 1).trans rfl
  have f8 : w1.cell? ⟨w.heap.size + 1, 2, none⟩ = some (.string ⟨#[]⟩) := (blk_cell R1 2).trans rfl
  have f9 := blk_frozen R1 0
  have f10 := blk_frozen R1 1
  have f11 := blk_frozen R1 2
  have HR0 := Aside0.mk R0
  have HR1 := Aside0.mk R1
  have HB1 := Aside0.mk HB
  clear hb hz R0 R1 HB
  go_wp2_with fail
  go_region
  go_wp2_with fail
  refine bodyPost_ret (results_ctc rfl _ _ w.heap.size (w.heap.size + 1) 29 29 #[.string ⟨#[]⟩, .string ⟨#[]⟩, .string ⟨#[]⟩] #[.string g, .string ⟨#[]⟩, .string kd] (0, 0) (0, 0) _ _ rfl (blk_drew (blk_alloc (blk_far (blk_far (blk_far (blk_put (cs := #[.string ⟨#[]⟩, .string ⟨#[]⟩, .string ⟨#[]⟩]) (blk_put (cs := #[.string ⟨#[]⟩, .string ⟨#[]⟩, .string ⟨#[]⟩]) (blk_put (cs := #[.string ⟨#[]⟩, .string ⟨#[]⟩, .string ⟨#[]⟩]) (HR0.out) 0 _ rfl) 1 _ rfl) 2 _ rfl) hAB _) hAB _) hAB _) _)) Try.underlying29 rfl (by kernel_rfl) rfl (blk_drew (blk_alloc (blk_put (cs := #[.string g, .string ⟨#[]⟩, .string ⟨#[]⟩]) (blk_put (cs := #[.string g, .string ⟨#[]⟩, .string ⟨#[]⟩]) (blk_put (cs := #[.string ⟨#[]⟩, .string ⟨#[]⟩, .string ⟨#[]⟩]) ((blk_far (blk_far (blk_far HR1.out hAB.symm _) hAB.symm _) hAB.symm _)) 0 _ rfl) 1 _ rfl) 2 _ rfl) _)) Try.underlying29 rfl (by kernel_rfl)) rfl ?_
  exact ⟨rfl, (below_drew1 (below_alloc (below_set (below_set (below_set (below_set (below_set (below_set HB1.out (by simp)) (by simp)) (by simp)) (by simp)) (by simp)) (by simp)) _))⟩
theorem pra_walk_long (k : Nat) (s g kd l0 l1 l2 : ByteArray) (n : Int) (w : World) (hc : Aside0 (schema_zzCount.f k s (⟨#[46]⟩ : ByteArray) = some n)) (hn : decide (2 ≤ n) = true) (hs : Aside0 (schema_zzSplitThree.f k s = some [l0, l1, l2])) (hp : Aside0 (schema_ParseGroupResource.f k s = some (g, kd))) :
    Calls Try.prog 15 #[.string s] w fun e w' => e = .returned (.tuple #[.agg #[.string l2, .string l1, .string l0], .bool true, .agg #[.string g, .string ⟨#[]⟩, .string kd]]) ∧ Below w.heap.size w w' := by
  go_enter Try.func15, Try.ntmps15
  go_wp2_with fail
  (with_reducible refine (pra_long k _ _ _ _ _ _ _ _ hc hn hs hp).mono ?_)
  rintro e w1 ⟨b, rfl, hb0, hb1, hP, hb⟩
  have hz := hb.size
  simp at hz
  have hA : w.heap.size < w1.heap.size := by omega
  have hB : w.heap.size + 1 < w1.heap.size := by omega
  have hAB : w.heap.size ≠ w.heap.size + 1 := by omega
  have R0 : w1.heap[w.heap.size]? = some (.cells #[.string ⟨#[]⟩, .string ⟨#[]⟩, .string ⟨#[]⟩] 29 (0, 0)) := blk_below (blk_alloc (by simpa using heap_alloc_new w (.cells #[.string ⟨#[]⟩, .string ⟨#[]⟩, .string ⟨#[]⟩] 29)) _) hb
  have R1 : w1.heap[w.heap.size + 1]? = some (.cells #[.string ⟨#[]⟩, .string ⟨#[]⟩, .string ⟨#[]⟩] 29 (0, 0)) := blk_below (by simpa using heap_alloc_new (w.alloc (.cells #[.string ⟨#[]⟩, .string ⟨#[]⟩, .string ⟨#[]⟩] 29)) (.cells #[.string ⟨#[]⟩, .string ⟨#[]⟩, .string ⟨#[]⟩] 29)) hb
  have HB : Below w.heap.size w w1 := (below_alloc (below_alloc (Below.refl _ _) _) _).trans (hb.mono (by simp; omega))
  have f0 : w1.cell? ⟨w.heap.size, 0, none⟩ = some (.string ⟨#[]⟩) := (blk_cell R0 0).trans rfl
  have f1 : w1.cell? ⟨w.heap.size, 1, none⟩ = some (.string ⟨#[]⟩) := (blk_cell R0 1).trans rfl
  have f2 : w1.cell? ⟨w.heap.size, 2, none⟩ = some (.string ⟨#[]⟩) := (blk_cell R0 2).trans rfl
  have f3 := blk_frozen R0 0
  have f4 := blk_frozen R0 1
  have f5 := blk_frozen R0 2
  have f6 : w1.cell? ⟨w.heap.size + 1, 0, none⟩ = some (.string ⟨#[]⟩) := (blk_cell R1 0).trans rfl
  have f7 : w1.cell? ⟨w.heap.size + 1, 1, none⟩ = some (.string ⟨#[]⟩) := (blk_cell R1 1).trans rfl
  have f8 : w1.cell? ⟨w.heap.size + 1, 2, none⟩ = some (.string ⟨#[]⟩) := (blk_cell R1 2).trans rfl
  have f9 := blk_frozen R1 0
  have f10 := blk_frozen R1 1
  have f11 := blk_frozen R1 2
  have p0 : w1.cell? ⟨b, 0, none⟩ = some (.string l2) := (blk_cell hP 0).trans rfl
  have p1 : w1.cell? ⟨b, 1, none⟩ = some (.string l1) := (blk_cell hP 1).trans rfl
  have p2 : w1.cell? ⟨b, 2, none⟩ = some (.string l0) := (blk_cell hP 2).trans rfl
  have hbA : b ≠ w.heap.size := by simp at hb0; omega
  have hbB : b ≠ w.heap.size + 1 := by simp at hb0; omega
  have hbC : b < w1.heap.size := hb1
  have HR0 := Aside0.mk R0
  have HR1 := Aside0.mk R1
  have HB1 := Aside0.mk HB
  clear hb hz R0 R1 HB
  go_wp2_with fail
  go_region
  go_wp2_with fail
  go_region
  go_wp2_with fail
  refine bodyPost_ret (results_ctc rfl _ _ w.heap.size (w.heap.size + 1) 29 29 #[.string l2, .string l1, .string l0] #[.string g, .string ⟨#[]⟩, .string kd] (0, 0) (0, 0) _ _ rfl (blk_drew (blk_drew (blk_alloc (blk_far (blk_far (blk_far (blk_put (cs := #[.string l2, .string l1, .string l0]) (blk_put (cs := #[.string l2, .string l1, .string l0]) (blk_put (cs := #[.string l2, .string l1, .string l0]) ((blk_put (cs := #[.string l2, .string l1, .string ⟨#[]⟩]) (blk_put (cs := #[.string l2, .string ⟨#[]⟩, .string ⟨#[]⟩]) (blk_put (cs := #[.string ⟨#[]⟩, .string ⟨#[]⟩, .string ⟨#[]⟩]) (HR0.out) 0 _ rfl) 1 _ rfl) 2 _ rfl)) 0 _ rfl) 1 _ rfl) 2 _ rfl) hAB _) hAB _) hAB _) _))) Try.underlying29 rfl (by kernel_rfl) rfl (blk_drew (blk_drew (blk_alloc (blk_put (cs := #[.string g, .string ⟨#[]⟩, .string ⟨#[]⟩]) (blk_put (cs := #[.string g, .string ⟨#[]⟩, .string ⟨#[]⟩]) (blk_put (cs := #[.string ⟨#[]⟩, .string ⟨#[]⟩, .string ⟨#[]⟩]) ((blk_far (blk_far (blk_far (blk_far (blk_far (blk_far HR1.out hAB.symm _) hAB.symm _) hAB.symm _) hAB.symm _) hAB.symm _) hAB.symm _)) 0 _ rfl) 1 _ rfl) 2 _ rfl) _))) Try.underlying29 rfl (by kernel_rfl)) rfl ?_
  exact ⟨rfl, (below_drew1 (below_drew1 (below_alloc (below_set (below_set (below_set (below_set (below_set (below_set (below_set (below_set (below_set HB1.out (by simp)) (by simp)) (by simp)) (by simp)) (by simp)) (by simp)) (by simp)) (by simp)) (by simp)) _)))⟩
def impl_ResourceArg.f (k : Nat) (a0 : ByteArray) : Option (ByteArray × ByteArray × ByteArray × Bool × ByteArray × ByteArray × ByteArray) :=
  (schema_zzCount.f k a0 (⟨#[46]⟩ : ByteArray)).bind fun n => (schema_ParseGroupResource.f k a0).bind fun p => if 2 ≤ n then
    (schema_zzSplitThree.f k a0).bind fun l => (match l with | [x, y, z] => some (z, y, x, true, p.1, (⟨#[]⟩ : ByteArray), p.2) | _ => none)
  else some ((⟨#[]⟩ : ByteArray), (⟨#[]⟩ : ByteArray), (⟨#[]⟩ : ByteArray), false, p.1, (⟨#[]⟩ : ByteArray), p.2)
theorem impl_ResourceArg.mono : ∀ a0 k, LeO (impl_ResourceArg.f k a0) (impl_ResourceArg.f (k + 1) a0) := by
  intro a0 k
  unfold impl_ResourceArg.f
  exact LeO.bind (schema_zzCount.mono _ _ _) (fun _ => LeO.bind (schema_ParseGroupResource.mono _ _) (fun _ => LeO.ite (LeO.bind (schema_zzSplitThree.mono _ _) (fun _ => LeO.refl _)) (LeO.refl _)))
theorem impl_ResourceArg.calls (k : Nat) (a0 : ByteArray) (r1 r2 r3 : ByteArray) (r4 : Bool) (r5 r6 r7 : ByteArray) (w : World) (h : impl_ResourceArg.f k a0 = some (r1, r2, r3, r4, r5, r6, r7)) :
    Calls Try.prog 15 #[.string a0] w fun e w' => e = .returned (.tuple #[.agg #[.string r1, .string r2, .string r3], .bool r4, .agg #[.string r5, .string r6, .string r7]]) ∧ Below w.heap.size w w' := by
  unfold impl_ResourceArg.f at h
  obtain ⟨n, hn, h⟩ := Option.bind_eq_some_iff.1 h
  obtain ⟨⟨g, kd⟩, hp, h⟩ := Option.bind_eq_some_iff.1 h
  by_cases hc : 2 ≤ n
  · rw [if_pos hc] at h
    obtain ⟨l, hl, h⟩ := Option.bind_eq_some_iff.1 h
    match l, hl, h with
    | [x, y, z], hl, h =>
      simp only [Option.some.injEq, Prod.mk.injEq] at h
      obtain ⟨rfl, rfl, rfl, rfl, rfl, rfl, rfl⟩ := h
      exact pra_walk_long k a0 _ _ _ _ _ n w ⟨hn⟩ (decide_eq_true hc) ⟨hl⟩ ⟨hp⟩
  · rw [if_neg hc] at h
    simp only [Option.some.injEq, Prod.mk.injEq] at h
    obtain ⟨rfl, rfl, rfl, rfl, rfl, rfl, rfl⟩ := h
    exact pra_walk_short k a0 _ _ n w ⟨hn⟩ (decide_eq_false hc) ⟨hp⟩

end Go.Proofs.Ytehgokciafpnbab.XFnArgBoth
