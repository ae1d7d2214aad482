/- The reference's decimals: sums, products, order, rounding, as numbers. -/
import Derived.Test.YtpchihkegmihiaaLFnScaleSumsa
import Derived.DataShut
namespace Go.Proofs.Ytpchihkegmihiaa.LFnScaleSums
open Go.RowKit Go.Proofs.Ytpchihkegmihiaa.PFnScaleSums Go.Proofs.YtpchihkegmihiaaW.PrintWords Go.Proofs.YtpchihkegmihiaaW.PrintLast Go.Proofs.YtpchihkegmihiaaW.PrintMore Go.Proofs.Ytpchihkegmihiaa.EvL Go.Proofs.Ytpchihkegmihiaa.Dec

theorem sg_abs (m : Int) : sg (decide (m < 0)) (m.natAbs : Int) = m := by
  unfold sg
  by_cases h : m < 0
  · simp only [h, decide_true, if_true]; omega
  · simp only [h, decide_false, Bool.false_eq_true, if_false]; omega

theorem sg_mul (s : Bool) (a b : Int) : sg s (a * b) = sg s a * b := by
  unfold sg; cases s <;> simp <;> grind

theorem sg_xor (s t : Bool) (a b : Int) : sg (s != t) (a * b) = sg s a * sg t b := by
  unfold sg; cases s <;> cases t <;> simp <;> grind

/-- A sum; the numbers' last digits are not further apart than 2000 places. -/
theorem add_ev (m n e f c : Int) (he : c ≤ e) (hf : c ≤ f) (hc : -1048576 ≤ c) (he2 : e ≤ 1048576) (hf2 : f ≤ 1048576)
    (hl : (dec m e).2.1.length < 1048576) (hl2 : (dec n f).2.1.length < 1048576)
    (hx : m ≠ 0 → n ≠ 0 → (dec m e).2.2 - (dec n f).2.2 ≤ 2000 ∧ (dec n f).2.2 - (dec m e).2.2 ≤ 2000) (hb1 : (dec m e).2.2 ≤ 1073741824) (hb2 : (dec n f).2.2 ≤ 1073741824) (r : Bool × List Int × Int)
    (hr : r = dec (m * 10 ^ (e - c).toNat + n * 10 ^ (f - c).toNat) c) :
    Ev (fun k => spec_DecimalAdd.f k (dec m e).1 (dec m e).2.1 (dec m e).2.2 (dec n f).1 (dec n f).2.1 (dec n f).2.2) (r.1, r.2.1, r.2.2, true) := by
  subst hr
  by_cases hm : m = 0
  · subst hm
    rw [Int.zero_mul, Int.zero_add, dec_pow, show c + ((f - c).toNat : Int) = f from by omega]
    rw [dec_zero]
    unfold spec_DecimalAdd.f
    exact ifp (by simp) (Ev.now _)
  · obtain ⟨l1, k1, p1, d1, ne1, h1, g1, v1⟩ := dec_parts m e hm
    have lpos1 : 0 < l1.length := List.length_pos_iff.2 ne1
    by_cases hn : n = 0
    · subst hn
      rw [Int.zero_mul, Int.add_zero, dec_pow, show c + ((e - c).toNat : Int) = e from by omega]
      rw [dec_zero, p1]
      unfold spec_DecimalAdd.f
      exact ifn (by simp only; omega) (ifp (by simp) (Ev.now _))
    · obtain ⟨l2, k2, p2, d2, ne2, h2, g2, v2⟩ := dec_parts n f hn
      have lpos2 : 0 < l2.length := List.length_pos_iff.2 ne2
      have hlar := larger_ev (decide (m < 0)) (decide (n < 0)) m n e f c hm hn he hf (by omega) (by omega) (by omega) (by omega) (by omega) hb1 hb2
      obtain ⟨hx1, hx2⟩ := hx hm hn
      rw [p1] at hl hx1 hx2 hlar hb1 ⊢
      rw [p2] at hl2 hx1 hx2 hlar hb2 ⊢
      simp only at hl hl2 hx1 hx2 hlar hb1 hb2 ⊢
      obtain ⟨X, hX⟩ : ∃ X, e + (k1 : Int) = X := ⟨_, rfl⟩
      obtain ⟨Y, hY⟩ : ∃ Y, f + (k2 : Int) = Y := ⟨_, rfl⟩
      rw [hX] at hx1 hx2 hlar hb1 ⊢
      rw [hY] at hx1 hx2 hlar hb2 ⊢
      obtain ⟨z, hz⟩ : ∃ z, mn X Y = z := ⟨_, rfl⟩
      have hzX : z ≤ X := by rw [← hz]; unfold mn; split <;> omega
      have hzY : z ≤ Y := by rw [← hz]; unfold mn; split <;> omega
      have hzc : c ≤ z := by rw [← hz]; unfold mn; split <;> omega
      have hzb : X - z ≤ 2000 ∧ Y - z ≤ 2000 := by rw [← hz]; unfold mn; split <;> omega
      -- the digits of both down to the power z
      have dw1 : Digits (l1 ++ List.replicate (X - z).toNat 0) := d1.append (digits_replicate _)
      have dw2 : Digits (l2 ++ List.replicate (Y - z).toNat 0) := d2.append (digits_replicate _)
      have vw1 : val (l1 ++ List.replicate (X - z).toNat 0) * 10 ^ (z - c).toNat = m.natAbs * 10 ^ (e - c).toNat := by
        rw [val_append, val_replicate_zero, List.length_replicate, ← v1]
        have : (X - z).toNat + (z - c).toNat = k1 + (e - c).toNat := by omega
        have h := congrArg (fun j => (10 : Int) ^ j) this
        simp only [p10_add] at h
        grind
      have vw2 : val (l2 ++ List.replicate (Y - z).toNat 0) * 10 ^ (z - c).toNat = n.natAbs * 10 ^ (f - c).toNat := by
        rw [val_append, val_replicate_zero, List.length_replicate, ← v2]
        have : (Y - z).toNat + (z - c).toNat = k2 + (f - c).toNat := by omega
        have h := congrArg (fun j => (10 : Int) ^ j) this
        simp only [p10_add] at h
        grind
      have hw1 := wide_ev (decide (m < 0)) l1 X z ne1 hzX (by omega) (by omega) (by omega)
      have hw2 := wide_ev (decide (n < 0)) l2 Y z ne2 hzY (by omega) (by omega) (by omega)
      have b1 := val_bounds dw1
      have b2 := val_bounds dw2
      have hlen1 : (l1 ++ List.replicate (X - z).toNat (0 : Int)).length < 1073741824 := by simp; omega
      have hlen2 : (l2 ++ List.replicate (Y - z).toNat (0 : Int)).length < 1073741824 := by simp; omega
      generalize hW1 : l1 ++ List.replicate (X - z).toNat 0 = W1 at *
      generalize hW2 : l2 ++ List.replicate (Y - z).toNat 0 = W2 at *
      have hcm : cmp (m.natAbs * 10 ^ (e - c).toNat) (n.natAbs * 10 ^ (f - c).toNat) = cmp (val W1) (val W2) := by
        rw [← vw1, ← vw2, cmp_scale (p10_pos _)]
      rw [hcm] at hlar
      have hm2 : m * 10 ^ (e - c).toNat = sg (decide (m < 0)) (val W1) * 10 ^ (z - c).toNat := by
        rw [← sg_mul, vw1, sg_mul, sg_abs]
      have hn2 : n * 10 ^ (f - c).toNat = sg (decide (n < 0)) (val W2) * 10 ^ (z - c).toNat := by
        rw [← sg_mul, vw2, sg_mul, sg_abs]
      have hres : dec (m * 10 ^ (e - c).toNat + n * 10 ^ (f - c).toNat) c = dec (sg (decide (m < 0)) (val W1) + sg (decide (n < 0)) (val W2)) z := by
        rw [hm2, hn2, ← Int.add_mul, dec_pow, show c + ((z - c).toNat : Int) = z from by omega]
      rw [hres]
      generalize hs : decide (m < 0) = s at *
      generalize ht : decide (n < 0) = t at *
      unfold spec_DecimalAdd.f
      rw [hz, w64 (x := X - z) (by omega) (by omega), w64 (x := Y - z) (by omega) (by omega)]
      refine ifn (by omega) (ifn (by omega) (ifn (by omega) ?_))
      rw [decide_eq_false (show ¬ (Y - z > 2000) by omega)]
      refine Ev.step (fun k => spec_DecimalAdd.j0.eq_2 ..) (ifn (by simp) ?_)
      have plain : 0 ≤ val W1 + sg (s != t) (val W2) → Ev (fun k => spec_DecimalAdd.j1 k z false s l1 X t l2 Y) ((dec (sg s (val W1) + sg t (val W2)) z).1, (dec (sg s (val W1) + sg t (val W2)) z).2.1, (dec (sg s (val W1) + sg t (val W2)) z).2.2, true) := by
        intro hT
        refine Ev.step (fun k => spec_DecimalAdd.j1.eq_2 ..) (ifn (by simp) ?_)
        refine hw1.bind (hw2.bind ?_)
        have := sum_ev s (s != t) W1 W2 z dw1 dw2 hlen1 hlen2 (by omega) (by omega) hT
        have e1 : sg s (val W1 + sg (s != t) (val W2)) = sg s (val W1) + sg t (val W2) := by
          unfold sg; cases s <;> cases t <;> simp <;> omega
        rw [e1] at this
        exact this.bind (Ev.now _)
      by_cases hst : (s != t) = true
      · refine ifp hst (hlar.bind ?_)
        by_cases hlt : val W1 < val W2
        · have : cmp (val W1) (val W2) = -1 := by unfold cmp; rw [if_pos hlt]
          rw [this]
          refine Ev.step (fun k => spec_DecimalAdd.j1.eq_2 ..) (ifp (by simp) ?_)
          refine hw2.bind (hw1.bind ?_)
          have hts : (t != s) = true := by cases s <;> cases t <;> simp_all
          have := sum_ev t (t != s) W2 W1 z dw2 dw1 hlen2 hlen1 (by omega) (by omega) (by rw [hts]; unfold sg; simp; omega)
          have e1 : sg t (val W2 + sg (t != s) (val W1)) = sg s (val W1) + sg t (val W2) := by
            unfold sg; cases s <;> cases t <;> simp <;> omega
          rw [e1] at this
          exact this.bind (Ev.now _)
        · have : decide (cmp (val W1) (val W2) < 0) = false := by unfold cmp; rw [if_neg hlt]; split <;> simp
          rw [this]
          exact plain (by rw [hst]; unfold sg; simp; omega)
      · refine ifn hst (plain ?_)
        have hst2 : (s != t) = false := by simpa using hst
        rw [hst2]; unfold sg; simp; omega


theorem wf64 {n : Int} (h : (Lit.int .i64 n).wf = true) : -9223372036854775808 ≤ n ∧ n ≤ 9223372036854775807 := by
  have := (Go.Lit.wf_int_iff .i64 n).1 h
  simpa [IntKind.min, IntKind.max, IntKind.signed, IntKind.bits] using this

/-- A sum of two int64 numbers. -/
theorem addi_ev (a b : Int) (ha : -9223372036854775808 ≤ a ∧ a ≤ 9223372036854775807) (hb : -9223372036854775808 ≤ b ∧ b ≤ 9223372036854775807) :
    Ev (fun k => resource_int64Add.f k a b) (if fits (a + b) = true then (a + b, true) else (0, false)) := by
  have hc : ∃ c, wrap64 (a + b) = c ∧ ((fits (a + b) = true ∧ c = a + b) ∨ (9223372036854775807 < a + b ∧ fits (a + b) = false ∧ c = a + b - 18446744073709551616) ∨ (a + b < -9223372036854775808 ∧ fits (a + b) = false ∧ c = a + b + 18446744073709551616)) := by
    refine ⟨_, rfl, ?_⟩
    rw [fits_iff, fits_not]
    unfold wrap64
    omega
  obtain ⟨c, hw, hc⟩ := hc
  unfold resource_int64Add.f
  rw [hw]
  clear hw
  rcases hc with ⟨hf, hce⟩ | ⟨hlt, hf, hce⟩ | ⟨hlt, hf, hce⟩
  · rw [hf]
    subst hce
    rw [fits_iff] at hf
    simp only [if_true]
    have j1 : ∀ q, (q = true → a < 0 ∧ b < 0) → Ev (fun k => resource_int64Add.j1 k a b (a + b) q) (a + b, true) := by
      intro q hq
      refine Ev.step (fun k => resource_int64Add.j1.eq_2 ..) ?_
      by_cases h : q = true
      · have := hq h
        refine ifp h (ifn (by omega) ?_)
        by_cases h1 : a = -9223372036854775808
        · exact ifp h1 (ifn (by omega) (Ev.now _))
        · exact ifn h1 (Ev.now _)
      · exact ifn h (Ev.now _)
    have j0 : ∀ q, (q = true → a > 0 ∧ b > 0) → Ev (fun k => resource_int64Add.j0 k a b (a + b) q) (a + b, true) := by
      intro q hq
      refine Ev.step (fun k => resource_int64Add.j0.eq_2 ..) ?_
      by_cases h : q = true
      · have := hq h
        exact ifp h (ifn (by omega) (Ev.now _))
      · refine ifn h ?_
        by_cases h1 : a < 0
        · exact ifp h1 (j1 _ (by simp; omega))
        · exact ifn h1 (j1 _ (by simp))
    by_cases h1 : a > 0
    · exact ifp h1 (j0 _ (by simp; omega))
    · exact ifn h1 (j0 _ (by simp))
  · rw [hf]
    simp only [Bool.false_eq_true, if_false]
    refine ifp (by omega) ?_
    refine Ev.step (fun k => resource_int64Add.j0.eq_2 ..) (ifp (by simp; omega) (ifp (by omega) (Ev.now _)))
  · rw [hf]
    simp only [Bool.false_eq_true, if_false]
    refine ifn (by omega) ?_
    refine Ev.step (fun k => resource_int64Add.j0.eq_2 ..) (ifn (by simp) (ifp (by omega) ?_))
    refine Ev.step (fun k => resource_int64Add.j1.eq_2 ..) (ifp (by simp; omega) ?_)
    by_cases h1 : c > 0
    · exact ifp h1 (Ev.now _)
    · exact ifn h1 (ifp (by omega) (ifp (by omega) (Ev.now _)))










end Go.Proofs.Ytpchihkegmihiaa.LFnScaleSums
