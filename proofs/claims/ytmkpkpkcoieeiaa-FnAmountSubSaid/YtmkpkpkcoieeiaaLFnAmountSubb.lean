/- The reference's decimals: sums, products, order, rounding, as numbers. -/
import Derived.Test.YtmkpkpkcoieeiaaLFnAmountSuba
import Derived.DataShut
namespace Go.Proofs.Ytmkpkpkcoieeiaa.LFnAmountSub
open Go.RowKit Go.Proofs.Ytmkpkpkcoieeiaa.XFnAmountSub Go.Proofs.YtmkpkpkcoieeiaaW.PrintWords Go.Proofs.YtmkpkpkcoieeiaaW.PrintLast Go.Proofs.YtmkpkpkcoieeiaaW.PrintMore Go.Proofs.Ytmkpkpkcoieeiaa.EvL Go.Proofs.Ytmkpkpkcoieeiaa.Dec

theorem sg_abs (m : Int) : sg (decide (m < 0)) (m.natAbs : Int) = m := by
  unfold sg
  by_cases h : m < 0
  · simp only [h, decide_true, if_true]; omega
  · simp only [h, decide_false, Bool.false_eq_true, if_false]; omega

theorem sg_mul (s : Bool) (a b : Int) : sg s (a * b) = sg s a * b := by
  unfold sg; cases s <;> simp <;> grind

theorem sg_xor (s t : Bool) (a b : Int) : sg (s != t) (a * b) = sg s a * sg t b := by
  unfold sg; cases s <;> cases t <;> simp <;> grind

/-- A sum; the numbers' last digits are not further apart than 2000 places. -/
theorem add_ev (m n e f c : Int) (he : c ≤ e) (hf : c ≤ f) (hc : -1048576 ≤ c) (he2 : e ≤ 1048576) (hf2 : f ≤ 1048576)
    (hl : (dec m e).2.1.length < 1048576) (hl2 : (dec n f).2.1.length < 1048576)
    (hx : m ≠ 0 → n ≠ 0 → (dec m e).2.2 - (dec n f).2.2 ≤ 2000 ∧ (dec n f).2.2 - (dec m e).2.2 ≤ 2000) (hb1 : (dec m e).2.2 ≤ 1073741824) (hb2 : (dec n f).2.2 ≤ 1073741824) (hnz : n ≠ 0 ∨ m = 0) (r : Bool × List Int × Int)
    (hr : r = dec (m * 10 ^ (e - c).toNat + n * 10 ^ (f - c).toNat) c) :
    Ev (fun k => spec_DecimalAdd.f k (dec m e).1 (dec m e).2.1 (dec m e).2.2 (dec n f).1 (dec n f).2.1 (dec n f).2.2) (r.1, r.2.1, r.2.2, true) := by
  subst hr
  by_cases hm : m = 0
  · subst hm
    rw [Int.zero_mul, Int.zero_add, dec_pow, show c + ((f - c).toNat : Int) = f from by omega]
    rw [dec_zero]
    unfold spec_DecimalAdd.f
    exact ifp (by simp) (Ev.now _)
  · obtain ⟨l1, k1, p1, d1, ne1, h1, g1, v1⟩ := dec_parts m e hm
    have lpos1 : 0 < l1.length := List.length_pos_iff.2 ne1
    by_cases hn : n = 0
    · exact absurd hn (hnz.resolve_right hm)
    · obtain ⟨l2, k2, p2, d2, ne2, h2, g2, v2⟩ := dec_parts n f hn
      have lpos2 : 0 < l2.length := List.length_pos_iff.2 ne2
      have hlar := larger_ev (decide (m < 0)) (decide (n < 0)) m n e f c hm hn he hf (by omega) (by omega) (by omega) (by omega) (by omega) hb1 hb2
      obtain ⟨hx1, hx2⟩ := hx hm hn
      rw [p1] at hl hx1 hx2 hlar hb1 ⊢
      rw [p2] at hl2 hx1 hx2 hlar hb2 ⊢
      simp only at hl hl2 hx1 hx2 hlar hb1 hb2 ⊢
      obtain ⟨X, hX⟩ : ∃ X, e + (k1 : Int) = X := ⟨_, rfl⟩
      obtain ⟨Y, hY⟩ : ∃ Y, f + (k2 : Int) = Y := ⟨_, rfl⟩
      rw [hX] at hx1 hx2 hlar hb1 ⊢
      rw [hY] at hx1 hx2 hlar hb2 ⊢
      obtain ⟨z, hz⟩ : ∃ z, mn X Y = z := ⟨_, rfl⟩
      have hzX : z ≤ X := by rw [← hz]; unfold mn; split <;> omega
      have hzY : z ≤ Y := by rw [← hz]; unfold mn; split <;> omega
      have hzc : c ≤ z := by rw [← hz]; unfold mn; split <;> omega
      have hzb : X - z ≤ 2000 ∧ Y - z ≤ 2000 := by rw [← hz]; unfold mn; split <;> omega
      -- the digits of both down to the power z
      have dw1 : Digits (l1 ++ List.replicate (X - z).toNat 0) := d1.append (digits_replicate _)
      have dw2 : Digits (l2 ++ List.replicate (Y - z).toNat 0) := d2.append (digits_replicate _)
      have vw1 : val (l1 ++ List.replicate (X - z).toNat 0) * 10 ^ (z - c).toNat = m.natAbs * 10 ^ (e - c).toNat := by
        rw [val_append, val_replicate_zero, List.length_replicate, ← v1]
        have : (X - z).toNat + (z - c).toNat = k1 + (e - c).toNat := by omega
        have h := congrArg (fun j => (10 : Int) ^ j) this
        simp only [p10_add] at h
        grind
      have vw2 : val (l2 ++ List.replicate (Y - z).toNat 0) * 10 ^ (z - c).toNat = n.natAbs * 10 ^ (f - c).toNat := by
        rw [val_append, val_replicate_zero, List.length_replicate, ← v2]
        have : (Y - z).toNat + (z - c).toNat = k2 + (f - c).toNat := by omega
        have h := congrArg (fun j => (10 : Int) ^ j) this
        simp only [p10_add] at h
        grind
      have hw1 := wide_ev (decide (m < 0)) l1 X z ne1 hzX (by omega) (by omega) (by omega)
      have hw2 := wide_ev (decide (n < 0)) l2 Y z ne2 hzY (by omega) (by omega) (by omega)
      have b1 := val_bounds dw1
      have b2 := val_bounds dw2
      have hlen1 : (l1 ++ List.replicate (X - z).toNat (0 : Int)).length < 1073741824 := by simp; omega
      have hlen2 : (l2 ++ List.replicate (Y - z).toNat (0 : Int)).length < 1073741824 := by simp; omega
      generalize hW1 : l1 ++ List.replicate (X - z).toNat 0 = W1 at *
      generalize hW2 : l2 ++ List.replicate (Y - z).toNat 0 = W2 at *
      have hcm : cmp (m.natAbs * 10 ^ (e - c).toNat) (n.natAbs * 10 ^ (f - c).toNat) = cmp (val W1) (val W2) := by
        rw [← vw1, ← vw2, cmp_scale (p10_pos _)]
      rw [hcm] at hlar
      have hm2 : m * 10 ^ (e - c).toNat = sg (decide (m < 0)) (val W1) * 10 ^ (z - c).toNat := by
        rw [← sg_mul, vw1, sg_mul, sg_abs]
      have hn2 : n * 10 ^ (f - c).toNat = sg (decide (n < 0)) (val W2) * 10 ^ (z - c).toNat := by
        rw [← sg_mul, vw2, sg_mul, sg_abs]
      have hres : dec (m * 10 ^ (e - c).toNat + n * 10 ^ (f - c).toNat) c = dec (sg (decide (m < 0)) (val W1) + sg (decide (n < 0)) (val W2)) z := by
        rw [hm2, hn2, ← Int.add_mul, dec_pow, show c + ((z - c).toNat : Int) = z from by omega]
      rw [hres]
      generalize hs : decide (m < 0) = s at *
      generalize ht : decide (n < 0) = t at *
      unfold spec_DecimalAdd.f
      rw [hz, w64 (x := X - z) (by omega) (by omega), w64 (x := Y - z) (by omega) (by omega)]
      refine ifn (by omega) (ifn (by omega) (ifn (by omega) ?_))
      rw [decide_eq_false (show ¬ (Y - z > 2000) by omega)]
      refine Ev.step (fun k => spec_DecimalAdd.j0.eq_2 ..) (ifn (by simp) ?_)
      have plain : 0 ≤ val W1 + sg (s != t) (val W2) → Ev (fun k => spec_DecimalAdd.j1 k z false s l1 X t l2 Y) ((dec (sg s (val W1) + sg t (val W2)) z).1, (dec (sg s (val W1) + sg t (val W2)) z).2.1, (dec (sg s (val W1) + sg t (val W2)) z).2.2, true) := by
        intro hT
        refine Ev.step (fun k => spec_DecimalAdd.j1.eq_2 ..) (ifn (by simp) ?_)
        refine hw1.bind (hw2.bind ?_)
        have := sum_ev s (s != t) W1 W2 z dw1 dw2 hlen1 hlen2 (by omega) (by omega) hT
        have e1 : sg s (val W1 + sg (s != t) (val W2)) = sg s (val W1) + sg t (val W2) := by
          unfold sg; cases s <;> cases t <;> simp <;> omega
        rw [e1] at this
        exact this.bind (Ev.now _)
      by_cases hst : (s != t) = true
      · refine ifp hst (hlar.bind ?_)
        by_cases hlt : val W1 < val W2
        · have : cmp (val W1) (val W2) = -1 := by unfold cmp; rw [if_pos hlt]
          rw [this]
          refine Ev.step (fun k => spec_DecimalAdd.j1.eq_2 ..) (ifp (by simp) ?_)
          refine hw2.bind (hw1.bind ?_)
          have hts : (t != s) = true := by cases s <;> cases t <;> simp_all
          have := sum_ev t (t != s) W2 W1 z dw2 dw1 hlen2 hlen1 (by omega) (by omega) (by rw [hts]; unfold sg; simp; omega)
          have e1 : sg t (val W2 + sg (t != s) (val W1)) = sg s (val W1) + sg t (val W2) := by
            unfold sg; cases s <;> cases t <;> simp <;> omega
          rw [e1] at this
          exact this.bind (Ev.now _)
        · have : decide (cmp (val W1) (val W2) < 0) = false := by unfold cmp; rw [if_neg hlt]; split <;> simp
          rw [this]
          exact plain (by rw [hst]; unfold sg; simp; omega)
      · refine ifn hst (plain ?_)
        have hst2 : (s != t) = false := by simpa using hst
        rw [hst2]; unfold sg; simp; omega


theorem wf64 {n : Int} (h : (Lit.int .i64 n).wf = true) : -9223372036854775808 ≤ n ∧ n ≤ 9223372036854775807 := by
  have := (Go.Lit.wf_int_iff .i64 n).1 h
  simpa [IntKind.min, IntKind.max, IntKind.signed, IntKind.bits] using this

/-- A sum of two int64 numbers. -/
theorem addi_ev (a b : Int) (ha : -9223372036854775808 ≤ a ∧ a ≤ 9223372036854775807) (hb : -9223372036854775808 ≤ b ∧ b ≤ 9223372036854775807) :
    Ev (fun k => resource_int64Add.f k a b) (if fits (a + b) = true then (a + b, true) else (0, false)) := by
  have hc : ∃ c, wrap64 (a + b) = c ∧ ((fits (a + b) = true ∧ c = a + b) ∨ (9223372036854775807 < a + b ∧ fits (a + b) = false ∧ c = a + b - 18446744073709551616) ∨ (a + b < -9223372036854775808 ∧ fits (a + b) = false ∧ c = a + b + 18446744073709551616)) := by
    refine ⟨_, rfl, ?_⟩
    rw [fits_iff, fits_not]
    unfold wrap64
    omega
  obtain ⟨c, hw, hc⟩ := hc
  unfold resource_int64Add.f
  rw [hw]
  clear hw
  rcases hc with ⟨hf, hce⟩ | ⟨hlt, hf, hce⟩ | ⟨hlt, hf, hce⟩
  · rw [hf]
    subst hce
    rw [fits_iff] at hf
    simp only [if_true]
    have j1 : ∀ q, (q = true → a < 0 ∧ b < 0) → Ev (fun k => resource_int64Add.j1 k a b (a + b) q) (a + b, true) := by
      intro q hq
      refine Ev.step (fun k => resource_int64Add.j1.eq_2 ..) ?_
      by_cases h : q = true
      · have := hq h
        refine ifp h (ifn (by omega) ?_)
        by_cases h1 : a = -9223372036854775808
        · exact ifp h1 (ifn (by omega) (Ev.now _))
        · exact ifn h1 (Ev.now _)
      · exact ifn h (Ev.now _)
    have j0 : ∀ q, (q = true → a > 0 ∧ b > 0) → Ev (fun k => resource_int64Add.j0 k a b (a + b) q) (a + b, true) := by
      intro q hq
      refine Ev.step (fun k => resource_int64Add.j0.eq_2 ..) ?_
      by_cases h : q = true
      · have := hq h
        exact ifp h (ifn (by omega) (Ev.now _))
      · refine ifn h ?_
        by_cases h1 : a < 0
        · exact ifp h1 (j1 _ (by simp; omega))
        · exact ifn h1 (j1 _ (by simp))
    by_cases h1 : a > 0
    · exact ifp h1 (j0 _ (by simp; omega))
    · exact ifn h1 (j0 _ (by simp))
  · rw [hf]
    simp only [Bool.false_eq_true, if_false]
    refine ifp (by omega) ?_
    refine Ev.step (fun k => resource_int64Add.j0.eq_2 ..) (ifp (by simp; omega) (ifp (by omega) (Ev.now _)))
  · rw [hf]
    simp only [Bool.false_eq_true, if_false]
    refine ifn (by omega) ?_
    refine Ev.step (fun k => resource_int64Add.j0.eq_2 ..) (ifn (by simp) (ifp (by omega) ?_))
    refine Ev.step (fun k => resource_int64Add.j1.eq_2 ..) (ifp (by simp; omega) ?_)
    by_cases h1 : c > 0
    · exact ifp h1 (Ev.now _)
    · exact ifn h1 (ifp (by omega) (ifp (by omega) (Ev.now _)))

theorem tdiv_range (a b : Int) (hb : 0 < b) : (0 ≤ a → 0 ≤ Int.tdiv a b ∧ Int.tdiv a b ≤ a) ∧ (a ≤ 0 → a ≤ Int.tdiv a b ∧ Int.tdiv a b ≤ 0) := by
  have key : ∀ x : Int, 0 ≤ x → 0 ≤ Int.tdiv x b ∧ Int.tdiv x b ≤ x := by
    intro x hx
    rw [Int.tdiv_eq_ediv_of_nonneg hx]
    exact ⟨Int.ediv_nonneg hx (by omega), Int.ediv_le_self b hx⟩
  refine ⟨key a, fun ha => ?_⟩
  have := key (-a) (by omega)
  rw [Int.neg_tdiv] at this
  omega

theorem mulcheck (a b : Int) (ha : -9223372036854775808 ≤ a ∧ a ≤ 9223372036854775807) (hb : 1 ≤ b ∧ b ≤ 9223372036854775807) : (wrap64 (Int.tdiv (wrap64 (a * b)) b) == a) = fits (a * b) := by
  obtain ⟨P, hP⟩ : ∃ P, a * b = P := ⟨_, rfl⟩
  rw [hP]
  have hc : ∃ c q, wrap64 P = c ∧ c = P + 18446744073709551616 * q ∧ -9223372036854775808 ≤ c ∧ c ≤ 9223372036854775807 := by
    refine ⟨wrap64 P, -((P + 9223372036854775808) / 18446744073709551616), rfl, ?_⟩
    unfold wrap64; omega
  obtain ⟨c, q, hw, hcq, hc0, hc1⟩ := hc
  rw [hw]
  clear hw
  have hdm := Int.mul_tdiv_add_tmod c b
  have hr1 : Int.tmod c b < b := Int.tmod_lt_of_pos c (by omega)
  have hr2 : -b < Int.tmod c b := by
    have := Int.lt_tmod_of_pos c (show 0 < b by omega)
    omega
  have ht := tdiv_range c b (by omega)
  generalize hT : Int.tdiv c b = t at *
  generalize Int.tmod c b = r at *
  have ht2 : wrap64 t = t := w64 (by omega) (by omega)
  rw [ht2]
  clear ht2
  by_cases hf : fits P = true
  · rw [hf, beq_iff_eq]
    rw [fits_iff] at hf
    have hcP : c = a * b := by omega
    rw [← hT, hcP]
    exact Int.mul_tdiv_cancel a (by omega)
  · have hf2 : fits P = false := by simpa using hf
    rw [hf2, beq_eq_false_iff_ne]
    rw [fits_not] at hf2
    intro e
    subst e
    rw [Int.mul_comm b t, hP] at hdm
    omega

theorem mul10_ev (a : Int) (ha : -9223372036854775808 ≤ a ∧ a ≤ 9223372036854775807) :
    ∃ v, Ev (fun k => resource_int64MultiplyScale10.f k a) (v, fits (a * 10)) ∧ (fits (a * 10) = true → v = a * 10) := by
  have fin : fits (a * 10) = true → wrap64 (a * 10) = a * 10 := by rw [fits_iff]; intro h; exact w64 h.1 h.2
  unfold resource_int64MultiplyScale10.f
  by_cases h0 : a = 0
  · subst h0
    refine ⟨wrap64 (0 * 10), ifp rfl (Ev.step (fun k => resource_int64MultiplyScale10.j0.eq_2 ..) (ifp rfl (now ?_))), fin⟩
    rfl
  · by_cases h1 : a = 1
    · subst h1
      refine ⟨wrap64 (1 * 10), ifn (by omega) (Ev.step (fun k => resource_int64MultiplyScale10.j0.eq_2 ..) (ifp rfl (now ?_))), fin⟩
      rfl
    · by_cases h2 : a = -9223372036854775808
      · subst h2
        refine ⟨0, ifn (by omega) (Ev.step (fun k => resource_int64MultiplyScale10.j0.eq_2 ..) (ifn (by simp) (ifp rfl (now rfl)))), ?_⟩
        rw [fits_iff]; omega
      · refine ⟨wrap64 (a * 10), ifn h0 (Ev.step (fun k => resource_int64MultiplyScale10.j0.eq_2 ..) (ifn (by simpa using h1) (ifn h2 (now ?_)))), fin⟩
        rw [mulcheck a 10 ha (by omega)]

theorem mul100_ev (a : Int) (ha : -9223372036854775808 ≤ a ∧ a ≤ 9223372036854775807) :
    ∃ v, Ev (fun k => resource_int64MultiplyScale100.f k a) (v, fits (a * 100)) ∧ (fits (a * 100) = true → v = a * 100) := by
  have fin : fits (a * 100) = true → wrap64 (a * 100) = a * 100 := by rw [fits_iff]; intro h; exact w64 h.1 h.2
  unfold resource_int64MultiplyScale100.f
  by_cases h0 : a = 0
  · subst h0
    refine ⟨wrap64 (0 * 100), ifp rfl (Ev.step (fun k => resource_int64MultiplyScale100.j0.eq_2 ..) (ifp rfl (now ?_))), fin⟩
    rfl
  · by_cases h1 : a = 1
    · subst h1
      refine ⟨wrap64 (1 * 100), ifn (by omega) (Ev.step (fun k => resource_int64MultiplyScale100.j0.eq_2 ..) (ifp rfl (now ?_))), fin⟩
      rfl
    · by_cases h2 : a = -9223372036854775808
      · subst h2
        refine ⟨0, ifn (by omega) (Ev.step (fun k => resource_int64MultiplyScale100.j0.eq_2 ..) (ifn (by simp) (ifp rfl (now rfl)))), ?_⟩
        rw [fits_iff]; omega
      · refine ⟨wrap64 (a * 100), ifn h0 (Ev.step (fun k => resource_int64MultiplyScale100.j0.eq_2 ..) (ifn (by simpa using h1) (ifn h2 (now ?_)))), fin⟩
        rw [mulcheck a 100 ha (by omega)]

theorem mul1000_ev (a : Int) (ha : -9223372036854775808 ≤ a ∧ a ≤ 9223372036854775807) :
    ∃ v, Ev (fun k => resource_int64MultiplyScale1000.f k a) (v, fits (a * 1000)) ∧ (fits (a * 1000) = true → v = a * 1000) := by
  have fin : fits (a * 1000) = true → wrap64 (a * 1000) = a * 1000 := by rw [fits_iff]; intro h; exact w64 h.1 h.2
  unfold resource_int64MultiplyScale1000.f
  by_cases h0 : a = 0
  · subst h0
    refine ⟨wrap64 (0 * 1000), ifp rfl (Ev.step (fun k => resource_int64MultiplyScale1000.j0.eq_2 ..) (ifp rfl (now ?_))), fin⟩
    rfl
  · by_cases h1 : a = 1
    · subst h1
      refine ⟨wrap64 (1 * 1000), ifn (by omega) (Ev.step (fun k => resource_int64MultiplyScale1000.j0.eq_2 ..) (ifp rfl (now ?_))), fin⟩
      rfl
    · by_cases h2 : a = -9223372036854775808
      · subst h2
        refine ⟨0, ifn (by omega) (Ev.step (fun k => resource_int64MultiplyScale1000.j0.eq_2 ..) (ifn (by simp) (ifp rfl (now rfl)))), ?_⟩
        rw [fits_iff]; omega
      · refine ⟨wrap64 (a * 1000), ifn h0 (Ev.step (fun k => resource_int64MultiplyScale1000.j0.eq_2 ..) (ifn (by simpa using h1) (ifn h2 (now ?_)))), fin⟩
        rw [mulcheck a 1000 ha (by omega)]

theorem mulscale_ev (a b : Int) (ha : -9223372036854775808 ≤ a ∧ a ≤ 9223372036854775807) (hb : 2 ≤ b ∧ b ≤ 9223372036854775807) :
    ∃ v, Ev (fun k => resource_int64MultiplyScale.f k a b) (v, fits (a * b)) ∧ (fits (a * b) = true → v = a * b) := by
  have fin : fits (a * b) = true → wrap64 (a * b) = a * b := by rw [fits_iff]; intro h; exact w64 h.1 h.2
  unfold resource_int64MultiplyScale.f
  by_cases h0 : a = 0
  · subst h0
    refine ⟨wrap64 (0 * b), ifp rfl (Ev.step (fun k => resource_int64MultiplyScale.j0.eq_2 ..) (ifp rfl (now ?_))), fin⟩
    rw [show fits (0 * b) = true from by rw [fits_iff]; omega]
  · by_cases h1 : a = 1
    · subst h1
      refine ⟨wrap64 (1 * b), ifn (by omega) (Ev.step (fun k => resource_int64MultiplyScale.j0.eq_2 ..) (ifp rfl (now ?_))), fin⟩
      rw [show fits (1 * b) = true from by rw [fits_iff]; omega]
    · by_cases h2 : a = -9223372036854775808
      · subst h2
        have hf : fits (-9223372036854775808 * b) = false := by rw [fits_not]; omega
        refine ⟨0, ifn (by omega) (Ev.step (fun k => resource_int64MultiplyScale.j0.eq_2 ..) (ifn (by simp) (ifp rfl (ifn (by omega) (now ?_))))), ?_⟩
        · rw [hf]
        · rw [hf]; intro h; cases h
      · refine ⟨wrap64 (a * b), ifn h0 (Ev.step (fun k => resource_int64MultiplyScale.j0.eq_2 ..) (ifn (by simpa using h1) (ifn h2 (ifn (by omega) (now ?_))))), fin⟩
        rw [mulcheck a b ha (by omega)]

theorem fits_low (x : Int) (n : Nat) (h : fits (x * 10 ^ n) = true) : fits x = true := by
  rw [fits_iff] at h ⊢
  have hp := p10_mono (show 0 ≤ n by omega)
  simp only [Int.pow_zero] at hp
  by_cases hx : 0 ≤ x
  · have : x * 1 ≤ x * 10 ^ n := Int.mul_le_mul_of_nonneg_left hp hx
    omega
  · have : (-x) * 1 ≤ (-x) * 10 ^ n := Int.mul_le_mul_of_nonneg_left hp (by omega)
    simp only [Int.neg_mul] at this
    omega

theorem positive_l0 (s : Int) (hs : s ≤ 1073741824) (n : Nat) : ∀ (x i : Int), -9223372036854775808 ≤ x ∧ x ≤ 9223372036854775807 → 0 ≤ i → s - i = n →
    ∃ v, Ev (fun k => resource_positiveScaleInt64.l0 k s x i) (v, fits (x * 10 ^ n)) ∧ (fits (x * 10 ^ n) = true → v = x * 10 ^ n) := by
  induction n with
  | zero =>
    intro x i hx hi hn
    refine ⟨x, Ev.step (fun k => resource_positiveScaleInt64.l0.eq_2 ..) (ifn (by omega) (now ?_)), fun _ => by simp⟩
    rw [Int.pow_zero, Int.mul_one, (fits_iff x).2 hx]
  | succ n ih =>
    intro x i hx hi hn
    obtain ⟨v, hv, hvf⟩ := mulscale_ev x 10 hx (by omega)
    rw [show x * (10 : Int) ^ (n + 1) = x * 10 * 10 ^ n from by rw [p10_succ]; grind]
    by_cases hf : fits (x * 10) = true
    · have hv2 := hvf hf
      subst hv2
      rw [hf] at hv
      obtain ⟨v, hv3, hvf3⟩ := ih (x * 10) (i + 1) ((fits_iff _).1 hf) (by omega) (by omega)
      refine ⟨v, ?_, hvf3⟩
      refine Ev.step (fun k => resource_positiveScaleInt64.l0.eq_2 ..) (ifp (by omega) (hv.bind (ifp rfl ?_)))
      rw [w32 (x := i + 1) (by omega) (by omega)]
      exact hv3
    · have hf2 : fits (x * 10) = false := by simpa using hf
      have hf3 : fits (x * 10 * 10 ^ n) = false := by
        cases h : fits (x * 10 * 10 ^ n) with
        | false => rfl
        | true => exact absurd (fits_low _ _ h) hf
      rw [hf2] at hv
      refine ⟨0, ?_, fun h => by rw [hf3] at h; cases h⟩
      refine Ev.step (fun k => resource_positiveScaleInt64.l0.eq_2 ..) (ifp (by omega) (hv.bind (ifn (by simp) (now ?_))))
      rw [hf3]

/-- A number times ten to the power of s. -/
theorem positive_ev (a s : Int) (ha : -9223372036854775808 ≤ a ∧ a ≤ 9223372036854775807) (h0 : 0 ≤ s) (hs : s ≤ 1073741824) :
    ∃ v, Ev (fun k => resource_positiveScaleInt64.f k a s) (v, fits (a * 10 ^ s.toNat)) ∧ (fits (a * 10 ^ s.toNat) = true → v = a * 10 ^ s.toNat) := by
  unfold resource_positiveScaleInt64.f
  by_cases e0 : s = 0
  · subst e0
    refine ⟨a, ifp rfl (now ?_), fun _ => by simp⟩
    rw [show a * 10 ^ (0 : Int).toNat = a from by simp, (fits_iff a).2 ha]
  · by_cases e1 : s = 1
    · subst e1
      obtain ⟨v, hv, hf⟩ := mul10_ev a ha
      exact ⟨v, ifn (by omega) (ifp rfl (hv.bind (Ev.now _))), hf⟩
    · by_cases e2 : s = 2
      · subst e2
        obtain ⟨v, hv, hf⟩ := mul100_ev a ha
        exact ⟨v, ifn (by omega) (ifn (by omega) (ifp rfl (hv.bind (Ev.now _)))), hf⟩
      · by_cases e3 : s = 3
        · subst e3
          obtain ⟨v, hv, hf⟩ := mul1000_ev a ha
          exact ⟨v, ifn (by omega) (ifn (by omega) (ifn (by omega) (ifp rfl (hv.bind (Ev.now _))))), hf⟩
        · by_cases e6 : s = 6
          · subst e6
            obtain ⟨v, hv, hf⟩ := mulscale_ev a 1000000 ha (by omega)
            refine ⟨v, ?_, hf⟩
            refine ifn (by omega) (ifn (by omega) (ifn (by omega) ?_))
            exact ifn (by omega) (ifp rfl (hv.bind (Ev.now _)))
          · by_cases e9 : s = 9
            · subst e9
              obtain ⟨v, hv, hf⟩ := mulscale_ev a 1000000000 ha (by omega)
              refine ⟨v, ?_, hf⟩
              refine ifn (by omega) (ifn (by omega) (ifn (by omega) ?_))
              exact ifn (by omega) (ifn (by omega) (ifp rfl (hv.bind (Ev.now _))))
            · obtain ⟨v, hv, hf⟩ := positive_l0 s hs s.toNat a 0 ha (by omega) (by omega)
              refine ⟨v, ?_, hf⟩
              refine ifn e0 (ifn e1 (ifn e2 ?_))
              exact ifn e3 (ifn e6 (ifn e9 hv))



end Go.Proofs.Ytmkpkpkcoieeiaa.LFnAmountSub
