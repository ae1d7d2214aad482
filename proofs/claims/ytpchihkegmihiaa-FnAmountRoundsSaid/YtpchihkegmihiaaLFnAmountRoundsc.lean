/- Amounts and the reference's decimals: order, rounding, the amount as a number. -/
import Derived.Test.YtpchihkegmihiaaLFnAmountRoundsb
namespace Go.Proofs.Ytpchihkegmihiaa.LFnAmountRounds
open Go.RowKit Go.Proofs.Ytpchihkegmihiaa.XFnAmountRounds Go.Proofs.YtpchihkegmihiaaW.PrintWords Go.Proofs.YtpchihkegmihiaaW.PrintLast Go.Proofs.YtpchihkegmihiaaW.PrintMore Go.Proofs.Ytpchihkegmihiaa.EvL Go.Proofs.Ytpchihkegmihiaa.Dec

/-! whatever the power of ten: an answer comes -/
theorem decimal_l1_any (neg : Bool) (n : Nat) : ∀ (l : List Int) (e : Int), l.length = n → l.length < 1099511627776 → ∃ r, Ev (fun k => spec_decimal.l1 k neg l e) r := by
  induction n with
  | zero =>
    intro l e hn hl
    exact ⟨_, Ev.step (fun k => spec_decimal.l1.eq_2 ..) (ifn (by omega) (ifp (by omega) (Ev.now _)))⟩
  | succ n ih =>
    intro l e hn hl
    have w : wrap64 ((l.length : Int) - 1) = (n : Int) := by rw [w64 (by omega) (by omega)]; omega
    by_cases h0 : rd l (n : Int) = 0
    · obtain ⟨r, hr⟩ := ih (l.take n) (wrap64 (e + 1)) (by simp; omega) (by simp; omega)
      refine ⟨r, Ev.step (fun k => spec_decimal.l1.eq_2 ..) ?_⟩
      rw [w]
      clear w
      refine ifp (by omega) (ifp (by omega) (ifp (by omega) (ifp h0 (ifp (by omega) ?_))))
      simpa using hr
    · refine ⟨(neg, [] ++ l, e), Ev.step (fun k => spec_decimal.l1.eq_2 ..) ?_⟩
      · rw [w]
        clear w
        exact ifp (by omega) (ifp (by omega) (ifp (by omega) (ifn h0 (ifn (by omega) (sb (ifp (by simp; omega) (Ev.now _)))))))

theorem decimal_l0_any (neg : Bool) : ∀ (l : List Int) (e : Int), l.length < 1099511627776 → ∃ r, Ev (fun k => spec_decimal.l0 k neg l e) r := by
  intro l
  induction l with
  | nil =>
    intro e _
    obtain ⟨r, hr⟩ := decimal_l1_any neg 0 [] e rfl (by simp)
    exact ⟨r, Ev.step (fun k => spec_decimal.l0.eq_2 ..) (ifn (by simp) (Ev.step (fun k => spec_decimal.j1.eq_2 ..) hr))⟩
  | cons d l ih =>
    intro e hl
    have hll : (d :: l).length = l.length + 1 := rfl
    by_cases h0 : rd (d :: l) 0 = 0
    · obtain ⟨r, hr⟩ := ih e (by omega)
      refine ⟨r, Ev.step (fun k => spec_decimal.l0.eq_2 ..) (ifp (by omega) (ifp (by omega) (ifp h0 (ifp (by omega) ?_))))⟩
      simpa using hr
    · obtain ⟨r, hr⟩ := decimal_l1_any neg _ (d :: l) e rfl hl
      exact ⟨r, Ev.step (fun k => spec_decimal.l0.eq_2 ..) (ifp (by omega) (ifp (by omega) (ifn h0 (Ev.step (fun k => spec_decimal.j1.eq_2 ..) hr))))⟩

theorem of_l0_any (a0 a1 : Int) (n : Nat) : ∀ (u : Nat) (out : List Int), u < 10 ^ n → u < 18446744073709551616 → out.length + n ≤ 1000 → ∃ r, Ev (fun k => spec_DecimalOf.l0 k a0 a1 u out) r := by
  have stop : ∀ out : List Int, out.length ≤ 1000 → ∃ r, Ev (fun k => spec_DecimalOf.l0 k a0 a1 ((0 : Nat) : Int) out) r := by
    intro out ho
    obtain ⟨r, hr⟩ := decimal_l0_any (decide (a0 < 0)) out a1 (by omega)
    exact ⟨_, Ev.step (fun k => spec_DecimalOf.l0.eq_2 ..) (ifn (by simp) ((show Ev (fun k => spec_decimal.f k (decide (a0 < 0)) out a1) r from hr).bind (Ev.now _)))⟩
  induction n with
  | zero =>
    intro u out hu _ hl
    have hu0 : u = 0 := by simp at hu; exact hu
    subst hu0
    exact stop out (by omega)
  | succ n ih =>
    intro u out hu hub hl
    by_cases hz : u = 0
    · subst hz; exact stop out (by omega)
    · obtain ⟨r, hr⟩ := ih (u / 10) (((u % 10 : Nat) : Int) :: out) (by rw [Nat.pow_succ] at hu; omega) (by omega) (by simp; omega)
      have e1 : wrap64 (Int.tmod (u : Int) 10) = ((u % 10 : Nat) : Int) := by
        rw [Int.tmod_eq_emod_of_nonneg (by omega), w64 (by omega) (by omega)]; omega
      have e2 : IntKind.u64.wrap (Int.tdiv (u : Int) 10) = ((u / 10 : Nat) : Int) := by
        rw [Int.tdiv_eq_ediv_of_nonneg (by omega), IntKind.wrap_u64]; omega
      refine ⟨r, Ev.step (fun k => spec_DecimalOf.l0.eq_2 ..) ?_⟩
      refine ifp (by omega) ?_
      rw [e1, e2]
      exact sb (ifp (by simp; omega) hr)

theorem of_any (a e : Int) (h0 : -9223372036854775808 ≤ a) (h1 : a ≤ 9223372036854775807) : ∃ r, Ev (fun k => spec_DecimalOf.f k a e) r := by
  obtain ⟨r, hr⟩ := of_l0_any a e 20 a.natAbs [] (by omega) (by omega) (by simp)
  refine ⟨r, ?_⟩
  unfold spec_DecimalOf.f
  by_cases h : a < 0
  · refine ifp h ?_
    have : IntKind.u64.wrap (-(IntKind.u64.wrap a)) = (a.natAbs : Int) := by rw [IntKind.wrap_u64, IntKind.wrap_u64]; omega
    rw [this]
    exact Ev.step (fun k => spec_DecimalOf.j0.eq_2 ..) hr
  · refine ifn h ?_
    have : IntKind.u64.wrap a = (a.natAbs : Int) := by rw [IntKind.wrap_u64]; omega
    rw [this]
    exact Ev.step (fun k => spec_DecimalOf.j0.eq_2 ..) hr

/-- An amount as a number: of a scale from -500 to 500. -/
theorem amountOf_in (v s : Int) (hv : -9223372036854775808 ≤ v ∧ v ≤ 9223372036854775807) (h0 : -500 ≤ s) (h1 : s ≤ 500) :
    Ev (fun k => laws_amountOf.f k v s) ((dec v s).1, (dec v s).2.1, (dec v s).2.2, true) := by
  unfold laws_amountOf.f
  refine (of_ev v s hv.1 hv.2 (by omega) (by omega)).bind (ifp (by omega) (now ?_))
  simp; omega

theorem amountOf_out (v s : Int) (hv : -9223372036854775808 ≤ v ∧ v ≤ 9223372036854775807) (h : s < -500 ∨ 500 < s) :
    ∃ r, Ev (fun k => laws_amountOf.f k v s) r ∧ r.2.2.2 = false := by
  obtain ⟨r, hr⟩ := of_any v s hv.1 hv.2
  unfold laws_amountOf.f
  by_cases h1 : s ≥ -500
  · exact ⟨_, hr.bind (ifp h1 (Ev.now _)), by simp; omega⟩
  · exact ⟨_, hr.bind (ifn h1 (Ev.now _)), rfl⟩

theorem amount_size (v s : Int) (hv : -9223372036854775808 ≤ v ∧ v ≤ 9223372036854775807) (h0 : -500 ≤ s) (h1 : s ≤ 500) :
    (dec v s).2.1.length ≤ 19 ∧ -500 ≤ (dec v s).2.2 ∧ (dec v s).2.2 ≤ 519 := by
  have p19 : (10 : Int) ^ 19 = 10000000000000000000 := by decide
  obtain ⟨a, b, c⟩ := dec_size v s 19 (by rw [p19]; omega)
  by_cases h : v = 0
  · have := c h; omega
  · have := b h; omega

def sgn (m : Int) : Int := if m = 0 then 0 else if m < 0 then -1 else 1

theorem sign_eq (m e : Int) : spec_DecimalSign.f (dec m e).1 (dec m e).2.1 (dec m e).2.2 = some (sgn m) := by
  unfold spec_DecimalSign.f sgn
  by_cases hm : m = 0
  · subst hm; simp [dec_zero]
  · obtain ⟨l, k, hp, hd, hne, _⟩ := dec_parts m e hm
    rw [hp]
    have : 0 < l.length := List.length_pos_iff.2 hne
    simp only
    rw [if_neg (by omega), if_neg hm]
    by_cases h : m < 0 <;> simp [h]

/-- How two numbers stand. -/
theorem cmp_ev (m n e f c : Int) (he : c ≤ e) (hf : c ≤ f) (hc : -1073741824 ≤ c) (he2 : e ≤ 1073741824) (hf2 : f ≤ 1073741824)
    (hl : (dec m e).2.1.length < 1073741824) (hl2 : (dec n f).2.1.length < 1073741824) (hx : (dec m e).2.2 ≤ 1073741824) (hx2 : (dec n f).2.2 ≤ 1073741824) :
    Ev (fun k => spec_DecimalCmp.f k (dec m e).1 (dec m e).2.1 (dec m e).2.2 (dec n f).1 (dec n f).2.1 (dec n f).2.2) (cmp (m * 10 ^ (e - c).toNat) (n * 10 ^ (f - c).toNat)) := by
  have pe := p10_pos (e - c).toNat
  have pf := p10_pos (f - c).toNat
  have me : ∀ x : Int, (0 < x → 0 < x * 10 ^ (e - c).toNat) ∧ (x < 0 → x * 10 ^ (e - c).toNat < 0) ∧ (x = 0 → x * 10 ^ (e - c).toNat = 0) := fun x =>
    ⟨fun h => Int.mul_pos h pe, fun h => Int.mul_neg_of_neg_of_pos h pe, fun h => by rw [h, Int.zero_mul]⟩
  have mf : ∀ x : Int, (0 < x → 0 < x * 10 ^ (f - c).toNat) ∧ (x < 0 → x * 10 ^ (f - c).toNat < 0) ∧ (x = 0 → x * 10 ^ (f - c).toNat = 0) := fun x =>
    ⟨fun h => Int.mul_pos h pf, fun h => Int.mul_neg_of_neg_of_pos h pf, fun h => by rw [h, Int.zero_mul]⟩
  have hm1 := me m
  have hn1 := mf n
  unfold spec_DecimalCmp.f
  refine cb (sign_eq m e) (cb (sign_eq n f) ?_)
  by_cases hs : sgn m = sgn n
  · refine ifp hs (Ev.step (fun k => spec_DecimalCmp.j0.eq_2 ..) (ifn (by simp) (ifp hs ?_)))
    by_cases hm : m = 0
    · have hn : n = 0 := by
        unfold sgn at hs
        rw [if_pos hm] at hs
        apply Classical.byContradiction
        intro h
        rw [if_neg h] at hs
        split at hs <;> omega
      have h0 : sgn m = 0 := by unfold sgn; rw [if_pos hm]
      rw [h0]
      refine ifn (by omega) (ifn (by omega) (now ?_))
      unfold cmp
      rw [hm1.2.2 hm, hn1.2.2 hn]
      rfl
    · have hn : n ≠ 0 := by
        intro h
        unfold sgn at hs
        rw [if_neg hm, if_pos h] at hs
        split at hs <;> omega
      have hlar := larger_ev (dec m e).1 (dec n f).1 m n e f c hm hn he hf hc he2 hf2 hl hl2 hx hx2
      by_cases hneg : m < 0
      · have hn2 : n < 0 := by
          unfold sgn at hs
          rw [if_neg hm, if_pos hneg, if_neg hn] at hs
          apply Classical.byContradiction
          intro h
          rw [if_neg h] at hs
          omega
        have h0 : sgn m = -1 := by unfold sgn; rw [if_neg hm, if_pos hneg]
        rw [h0]
        refine ifp (by omega) (hlar.bind (now ?_))
        have e1 : (m.natAbs : Int) * 10 ^ (e - c).toNat = -(m * 10 ^ (e - c).toNat) := by rw [← Int.neg_mul]; congr 1; omega
        have e2 : (n.natAbs : Int) * 10 ^ (f - c).toNat = -(n * 10 ^ (f - c).toNat) := by rw [← Int.neg_mul]; congr 1; omega
        rw [e1, e2]
        generalize m * 10 ^ (e - c).toNat = x
        generalize n * 10 ^ (f - c).toNat = y
        unfold cmp
        by_cases h1 : x < y
        · rw [if_pos h1, if_neg (by omega), if_neg (by omega)]; unfold wrap64; omega
        · by_cases h2 : x = y
          · rw [if_neg h1, if_pos h2, if_neg (by omega), if_pos (by omega)]; unfold wrap64; omega
          · rw [if_neg h1, if_neg h2, if_pos (by omega)]; unfold wrap64; omega
      · have hn2 : ¬ n < 0 := by
          intro h
          unfold sgn at hs
          rw [if_neg hm, if_neg hneg, if_neg hn, if_pos h] at hs
          omega
        have h0 : sgn m = 1 := by unfold sgn; rw [if_neg hm, if_neg hneg]
        rw [h0]
        refine ifn (by omega) (ifp (by omega) (hlar.bind (now ?_)))
        have e1 : (m.natAbs : Int) = m := by omega
        have e2 : (n.natAbs : Int) = n := by omega
        rw [e1, e2]
  · refine ifn hs (Ev.step (fun k => spec_DecimalCmp.j0.eq_2 ..) ?_)
    generalize m * 10 ^ (e - c).toNat = x at *
    generalize n * 10 ^ (f - c).toNat = y at *
    by_cases hlt : sgn m < sgn n
    · refine ifp (by simpa using hlt) (now ?_)
      have : x < y := by
        unfold sgn at hlt
        by_cases a : m = 0 <;> by_cases b : n = 0 <;> by_cases a2 : m < 0 <;> by_cases b2 : n < 0 <;> simp [a, b, a2, b2] at hlt <;> omega
      unfold cmp; rw [if_pos this]
    · refine ifn (by simpa using hlt) (ifn hs (now ?_))
      have : y < x := by
        unfold sgn at hlt hs
        by_cases a : m = 0 <;> by_cases b : n = 0 <;> by_cases a2 : m < 0 <;> by_cases b2 : n < 0 <;> simp [a, b, a2, b2] at hlt hs <;> omega
      unfold cmp; rw [if_neg (by omega), if_neg (by omega)]

theorem cmp_zero (x y : Int) : (cmp x y == 0) = decide (x = y) := by
  unfold cmp
  by_cases h : x < y
  · rw [if_pos h]; simp; omega
  · by_cases h2 : x = y
    · rw [if_neg h, if_pos h2]; simp [h2]
    · rw [if_neg h, if_neg h2]; simp [h2]

/-- Whether an amount is a number. -/
theorem amountIs_ev (v s n f c : Int) (hv : -9223372036854775808 ≤ v ∧ v ≤ 9223372036854775807) (h0 : -500 ≤ s) (h1 : s ≤ 500) (hs : c ≤ s) (hf : c ≤ f) (hc : -1000 ≤ c) (hf2 : f ≤ 1073741824)
    (hl2 : (dec n f).2.1.length < 1073741824) (hx2 : (dec n f).2.2 ≤ 1073741824) :
    Ev (fun k => laws_amountIs.f k v s (dec n f).1 (dec n f).2.1 (dec n f).2.2) (decide (v * 10 ^ (s - c).toNat = n * 10 ^ (f - c).toNat)) := by
  have hz := amount_size v s hv h0 h1
  unfold laws_amountIs.f
  refine (amountOf_in v s hv h0 h1).bind (ifp rfl ?_)
  refine (cmp_ev v n s f c hs hf (by omega) (by omega) hf2 (by omega) hl2 (by omega) hx2).bind (now ?_)
  exact cmp_zero _ _

theorem awake : Ev (fun k => laws_amountAwake.f k) true := Ev.of (k := 60) laws_amountAwake.mono (by kernel_rfl)


def away (v : Int) (D : Nat) : Int := sg (decide (v < 0)) (((v.natAbs / 10 ^ D : Nat) : Int) + 1)

theorem neg_l0 (v s : Int) (hv : -9223372036854775808 < v ∧ v ≤ 9223372036854775807) (hv0 : v ≠ 0) (hs : s ≤ 1073741824) (n : Nat) : ∀ i : Nat, (i : Int) + n = s → (0 < n ∨ 0 < i) →
    Ev (fun k => resource_negativeScaleInt64.l0 k v s (sg (decide (v < 0)) ((v.natAbs / 10 ^ i : Nat) : Int)) (decide (v.natAbs % 10 ^ i ≠ 0)) i)
      (if v.natAbs % 10 ^ s.toNat = 0 then sg (decide (v < 0)) ((v.natAbs / 10 ^ s.toNat : Nat) : Int) else away v s.toNat, decide (v.natAbs % 10 ^ s.toNat = 0)) := by
  induction n with
  | zero =>
    intro i hi hpos
    have his : s.toNat = i := by omega
    rw [his]
    have hd10 : v.natAbs / 10 ^ i ≤ v.natAbs / 10 := by
      have : 10 ^ i = 10 * 10 ^ (i - 1) := by rw [← Nat.pow_succ']; congr 1; omega
      rw [this, ← Nat.div_div_eq_div_mul]
      exact Nat.div_le_self _ _
    refine Ev.step (fun k => resource_negativeScaleInt64.l0.eq_2 ..) (ifn (by omega) ?_)
    by_cases hm : v.natAbs % 10 ^ i = 0
    · refine ifn (by simp [hm]) (now ?_)
      simp [hm]
    · refine ifp (by simp [hm]) ?_
      rw [if_neg hm]
      unfold away
      generalize v.natAbs / 10 ^ i = Q at *
      by_cases h0 : v > 0
      · refine ifp h0 (now ?_)
        have hb : decide (v < 0) = false := by simp; omega
        rw [hb]
        unfold sg
        simp only [Bool.false_eq_true, if_false]
        rw [w64 (by omega) (by omega)]
        simp [hm]
      · refine ifn h0 (now ?_)
        have hb : decide (v < 0) = true := by simp; omega
        rw [hb]
        unfold sg
        simp only [if_true]
        rw [w64 (by omega) (by omega)]
        simp [hm]
        omega
  | succ n ih =>
    intro i hi _
    have step := ih (i + 1) (by omega) (.inr (by omega))
    obtain ⟨q, hq⟩ : ∃ q, v.natAbs / 10 ^ i = q := ⟨_, rfl⟩
    obtain ⟨r, hr⟩ : ∃ r, v.natAbs % 10 ^ i = r := ⟨_, rfl⟩
    have hq1 : v.natAbs / 10 ^ (i + 1) = q / 10 := by rw [Nat.pow_succ, ← Nat.div_div_eq_div_mul, hq]
    have hr1 : v.natAbs % 10 ^ (i + 1) = r + 10 ^ i * (q % 10) := by rw [Nat.pow_succ, Nat.mod_mul, hr, hq]
    have hp : 0 < 10 ^ i := Nat.pow_pos (by omega)
    have hz : (r + 10 ^ i * (q % 10) = 0) ↔ (r = 0 ∧ q % 10 = 0) := by
      constructor
      · intro h
        have h1 : r = 0 := by omega
        have h2 : 10 ^ i * (q % 10) = 0 := by omega
        rcases Nat.mul_eq_zero.1 h2 with h3 | h3
        · omega
        · exact ⟨h1, h3⟩
      · rintro ⟨h1, h2⟩; rw [h1, h2]; simp
    have hqle : q ≤ v.natAbs := by rw [← hq]; exact Nat.div_le_self _ _
    rw [hq, hr]
    rw [hq1, hr1] at step
    have htd : wrap64 (Int.tdiv (sg (decide (v < 0)) (q : Int)) 10) = sg (decide (v < 0)) ((q / 10 : Nat) : Int) := by
      unfold sg
      by_cases h : v < 0
      · simp only [h, decide_true, if_true]
        rw [Int.neg_tdiv, Int.tdiv_eq_ediv_of_nonneg (by omega), w64 (by omega) (by omega)]; omega
      · simp only [h, decide_false, Bool.false_eq_true, if_false]
        rw [Int.tdiv_eq_ediv_of_nonneg (by omega), w64 (by omega) (by omega)]; omega
    have htm : (Int.tmod (sg (decide (v < 0)) (q : Int)) 10 != 0) = decide (q % 10 ≠ 0) := by
      unfold sg
      by_cases h : v < 0
      · simp only [h, decide_true, if_true]
        rw [Int.neg_tmod, Int.tmod_eq_emod_of_nonneg (by omega)]
        rw [Bool.eq_iff_iff, bne_iff_ne, decide_eq_true_iff]; omega
      · simp only [h, decide_false, Bool.false_eq_true, if_false]
        rw [Int.tmod_eq_emod_of_nonneg (by omega)]
        rw [Bool.eq_iff_iff, bne_iff_ne, decide_eq_true_iff]; omega
    -- one division more
    have j2 : Ev (fun k => resource_negativeScaleInt64.j2 k v s (sg (decide (v < 0)) (q : Int)) (decide (r + 10 ^ i * (q % 10) ≠ 0)) i)
        (if v.natAbs % 10 ^ s.toNat = 0 then sg (decide (v < 0)) ((v.natAbs / 10 ^ s.toNat : Nat) : Int) else away v s.toNat, decide (v.natAbs % 10 ^ s.toNat = 0)) := by
      refine Ev.step (fun k => resource_negativeScaleInt64.j2.eq_2 ..) ?_
      rw [htd]
      by_cases hq0 : q / 10 = 0
      · -- nothing is left
        have hsmall : v.natAbs < 10 ^ (i + 1) := by
          rw [← hq1] at hq0
          have := (Nat.div_eq_zero_iff).1 hq0
          rcases this with h | h
          · have : 0 < 10 ^ (i + 1) := Nat.pow_pos (by omega)
            omega
          · exact h
        have hle : 10 ^ (i + 1) ≤ 10 ^ s.toNat := Nat.pow_le_pow_right (by omega) (by omega)
        have hms : v.natAbs % 10 ^ s.toNat = v.natAbs := Nat.mod_eq_of_lt (by omega)
        have hds : v.natAbs / 10 ^ s.toNat = 0 := Nat.div_eq_of_lt (by omega)
        have hmi : r + 10 ^ i * (q % 10) = v.natAbs := by rw [← hr1]; exact Nat.mod_eq_of_lt hsmall
        have hne : ¬ v.natAbs = 0 := by omega
        rw [hms, hmi, if_neg hne]
        unfold away
        rw [hds]
        refine ifp (by rw [hq0]; unfold sg; split <;> rfl) (ifp (by simp; omega) ?_)
        have hd : decide (v.natAbs = 0) = false := by simp; omega
        rw [hd]
        by_cases h0 : v > 0
        · refine ifp h0 (now ?_)
          have hb : decide (v < 0) = false := by simp; omega
          rw [hb]; rfl
        · refine ifn h0 (now ?_)
          have hb : decide (v < 0) = true := by simp; omega
          rw [hb]; rfl
      · refine ifn ?_ ?_
        · unfold sg; split <;> omega
        · rw [w32 (x := (i : Int) + 1) (by omega) (by omega)]
          exact step
    have hfr : ∀ b : Bool, b = decide (q % 10 ≠ 0) → r = 0 → Ev (fun k => resource_negativeScaleInt64.j1 k v s (sg (decide (v < 0)) (q : Int)) false i b)
        (if v.natAbs % 10 ^ s.toNat = 0 then sg (decide (v < 0)) ((v.natAbs / 10 ^ s.toNat : Nat) : Int) else away v s.toNat, decide (v.natAbs % 10 ^ s.toNat = 0)) := by
      intro b hb h0
      refine Ev.step (fun k => resource_negativeScaleInt64.j1.eq_2 ..) ?_
      by_cases h1 : q % 10 = 0
      · have : decide (r + 10 ^ i * (q % 10) ≠ 0) = false := by rw [decide_eq_false_iff_not, Classical.not_not]; exact hz.2 ⟨h0, h1⟩
        rw [this] at j2
        exact ifn (by rw [hb]; simp [h1]) j2
      · have : decide (r + 10 ^ i * (q % 10) ≠ 0) = true := by rw [decide_eq_true_iff]; intro h; exact h1 (hz.1 h).2
        rw [this] at j2
        exact ifp (by rw [hb]; simp [h1]) j2
    refine Ev.step (fun k => resource_negativeScaleInt64.l0.eq_2 ..) (ifp (by omega) ?_)
    by_cases h0 : r = 0
    · rw [show decide (r ≠ 0) = false from by simp [h0]]
      rw [htm]
      exact ifn (by simp) (hfr _ rfl h0)
    · rw [show decide (r ≠ 0) = true from by simp [h0]]
      refine ifp rfl (Ev.step (fun k => resource_negativeScaleInt64.j1.eq_2 ..) (ifn (by simp) ?_))
      have : decide (r + 10 ^ i * (q % 10) ≠ 0) = true := by rw [decide_eq_true_iff]; intro h; exact h0 (hz.1 h).1
      rw [this] at j2
      exact j2

/-- A number divided by ten to the power of s, away from 0. -/
theorem negscale_ev (v s : Int) (hv : -9223372036854775808 < v ∧ v ≤ 9223372036854775807) (h0 : 0 ≤ s) (hs : s ≤ 1073741824) :
    Ev (fun k => resource_negativeScaleInt64.f k v s) (if v.natAbs % 10 ^ s.toNat = 0 then sg (decide (v < 0)) ((v.natAbs / 10 ^ s.toNat : Nat) : Int) else away v s.toNat, decide (v.natAbs % 10 ^ s.toNat = 0)) := by
  unfold resource_negativeScaleInt64.f
  by_cases e : s = 0
  · subst e
    refine ifp rfl (now ?_)
    simp [Nat.mod_one]
    unfold sg
    by_cases h : v < 0
    · simp only [h, decide_true, if_true]; omega
    · simp only [h, decide_false, Bool.false_eq_true, if_false]; omega
  · refine ifn e ?_
    by_cases hv0 : v = 0
    · subst hv0
      have hpow : (0 : Int).natAbs % 10 ^ s.toNat = 0 := by simp
      rw [if_pos hpow, hpow]
      refine Ev.step (fun k => resource_negativeScaleInt64.l0.eq_2 ..) (ifp (by omega) (ifn (by simp) ?_))
      refine Ev.step (fun k => resource_negativeScaleInt64.j1.eq_2 ..) (ifn (by decide) ?_)
      refine Ev.step (fun k => resource_negativeScaleInt64.j2.eq_2 ..) (ifp (by rw [show Int.tdiv 0 10 = 0 from rfl]; exact w64 (by omega) (by omega)) (ifn (by simp) (now ?_)))
      simp [sg]
    · have := neg_l0 v s hv hv0 hs s.toNat 0 (by omega) (by omega)
      simp only [Nat.pow_zero, Nat.div_one, Nat.mod_one] at this
      rw [show sg (decide (v < 0)) (v.natAbs : Int) = v from sg_abs v] at this
      exact this

theorem val_take_div (l : List Int) (h : Digits l) (j : Nat) : val (l.take j) = val l / 10 ^ (l.length - j) := by
  have e := congrArg val (List.take_append_drop j l)
  rw [val_append, List.length_drop] at e
  have hb := val_bounds (h.drop j)
  rw [List.length_drop] at hb
  have hp := p10_pos (l.length - j)
  rw [← e, Int.add_comm, Int.add_mul_ediv_right _ _ (by omega), Int.ediv_eq_zero_of_lt hb.1 hb.2]
  omega

theorem up_l0 (neg : Bool) (x : Int) (a0 : Bool) (a1 : List Int) (a2 : Int) (hx0 : -1073741824 ≤ x) (hx1 : x ≤ 1073741824) (i : Nat) : ∀ L : List Int, Digits L → i < L.length → L.length < 1073741824 → L.getD 0 0 = 0 → a0 = neg →
    Ev (fun k => spec_DecimalUp.l0 k x L i a0 a1 a2) ((dec (sg neg (val L + 10 ^ (L.length - 1 - i))) x).1, (dec (sg neg (val L + 10 ^ (L.length - 1 - i))) x).2.1, (dec (sg neg (val L + 10 ^ (L.length - 1 - i))) x).2.2, false) := by
  induction i with
  | zero =>
    intro L hd hi hl h0 ha
    subst ha
    have hw : wrap64 (rd L ((0 : Nat) : Int) + 1) = 1 := by rw [rd_eq, h0]; exact (w64 (by omega) (by omega)).trans (by omega)
    refine Ev.step (fun k => spec_DecimalUp.l0.eq_2 ..) (ifp (by omega) (ifp (by omega) (sb ?_)))
    rw [hw]
    clear hw
    have hg : rd (L.set (((0 : Nat) : Int)).toNat 1) ((0 : Nat) : Int) = 1 := by
      rw [rd_eq, List.getD_eq_getElem?_getD]; simp [hi]
    refine ifp (by rw [hg]; omega) ?_
    have hdig : Digits (L.set (((0 : Nat) : Int)).toNat 1) := by
      intro d hm
      rcases List.mem_or_eq_of_mem_set hm with hm | rfl
      · exact hd d hm
      · omega
    have := decimal_ev a0 (L.set (((0 : Nat) : Int)).toNat 1) x hdig (by simp; omega) (by omega) (by simp; omega)
    have hv : val (L.set (((0 : Nat) : Int)).toNat 1) = val L + 10 ^ (L.length - 1 - 0) := by
      have := val_set L 0 1 hi
      rw [h0] at this
      simpa using this
    rw [hv] at this
    exact this.bind (Ev.now _)
  | succ i ih =>
    intro L hd hi hl h0 ha
    have hD := hd.getD (i + 1)
    obtain ⟨d, hdd⟩ : ∃ d, L.getD (i + 1) 0 = d := ⟨_, rfl⟩
    rw [hdd] at hD
    refine Ev.step (fun k => spec_DecimalUp.l0.eq_2 ..) (ifp (by omega) (ifp (by omega) (sb ?_)))
    rw [rd_eq L, hdd, w64 (x := d + 1) (by omega) (by omega)]
    have htn : (((i + 1 : Nat) : Int)).toNat = i + 1 := by omega
    rw [htn]
    have hg : rd (L.set (i + 1) (d + 1)) ((i + 1 : Nat) : Int) = d + 1 := by
      rw [rd_eq, List.getD_eq_getElem?_getD]; simp [hi]
    rw [hg]
    by_cases h9 : d + 1 < 10
    · refine ifp h9 ?_
      have hdig : Digits (L.set (i + 1) (d + 1)) := by
        intro z hm
        rcases List.mem_or_eq_of_mem_set hm with hm | rfl
        · exact hd z hm
        · omega
      have := decimal_ev a0 (L.set (i + 1) (d + 1)) x hdig (by simp; omega) (by omega) (by simp; omega)
      have hv : val (L.set (i + 1) (d + 1)) = val L + 10 ^ (L.length - 1 - (i + 1)) := by
        rw [val_set L (i + 1) (d + 1) hi, hdd, show d + 1 - d = 1 from by omega, Int.one_mul]
      rw [hv, ha] at this
      rw [ha]
      exact this.bind (Ev.now _)
    · refine ifn h9 ?_
      have hd9 : d = 9 := by omega
      rw [show wrap64 (((i + 1 : Nat) : Int) - 1) = (i : Int) from by rw [w64 (by omega) (by omega)]; omega]
      rw [List.set_set]
      have hdig : Digits (L.set (i + 1) 0) := by
        intro z hm
        rcases List.mem_or_eq_of_mem_set hm with hm | rfl
        · exact hd z hm
        · omega
      have step := ih (L.set (i + 1) 0) hdig (by simp; omega) (by simp; omega) (by rw [List.getD_eq_getElem?_getD, List.getElem?_set_ne (by omega), ← List.getD_eq_getElem?_getD]; exact h0) ha
      have hv : val (L.set (i + 1) 0) + 10 ^ ((L.set (i + 1) 0).length - 1 - i) = val L + 10 ^ (L.length - 1 - (i + 1)) := by
        rw [val_set L (i + 1) 0 hi, hdd, hd9, List.length_set]
        have : L.length - 1 - i = (L.length - 1 - (i + 1)) + 1 := by omega
        rw [this, p10_succ]
        omega
      rw [hv] at step
      exact step

/-- A number that is a multiple of the unit stays. -/
theorem up_exact (m e x : Int) (h : m = 0 ∨ x ≤ (dec m e).2.2) : Ev (fun k => spec_DecimalUp.f k (dec m e).1 (dec m e).2.1 (dec m e).2.2 x) ((dec m e).1, (dec m e).2.1, (dec m e).2.2, true) := by
  unfold spec_DecimalUp.f
  by_cases hm : m = 0
  · subst hm
    rw [dec_zero]
    exact ifp (by simp) (Ev.step (fun k => spec_DecimalUp.j0.eq_2 ..) (ifp rfl (Ev.now _)))
  · have hx : x ≤ (dec m e).2.2 := by rcases h with h | h; exact absurd h hm; exact h
    obtain ⟨l, k, hp, hd, hne, _⟩ := dec_parts m e hm
    have : 0 < l.length := List.length_pos_iff.2 hne
    refine ifn (by rw [hp]; simp only; omega) (Ev.step (fun k => spec_DecimalUp.j0.eq_2 ..) (ifp (by simpa using hx) (Ev.now _)))

/-- Any other one goes away from 0. -/
theorem up_away (m e x : Int) (hm : m ≠ 0) (h : (dec m e).2.2 < x) (he : e ≤ x) (h0 : -1048576 ≤ e) (h1 : x ≤ 1048576) (hl : (dec m e).2.1.length < 1048576) (r : Bool × List Int × Int) (hr : r = dec (away m (x - e).toNat) x) :
    Ev (fun k => spec_DecimalUp.f k (dec m e).1 (dec m e).2.1 (dec m e).2.2 x) (r.1, r.2.1, r.2.2, false) := by
  subst hr
  unfold spec_DecimalUp.f
  obtain ⟨l, k, hp, hd, hne, hh, hg, hv⟩ := dec_parts m e hm
  have hpos : 0 < l.length := List.length_pos_iff.2 hne
  rw [hp] at h hl ⊢
  simp only at h hl ⊢
  refine ifn (by omega) (Ev.step (fun k => spec_DecimalUp.j0.eq_2 ..) (ifn (by simp; omega) (sb ?_)))
  obtain ⟨j, hj⟩ : ∃ j : Nat, mx 0 (wrap64 (wrap64 ((l.length : Int) + (e + k)) - x)) = (j : Int) ∧ j = (l.length + (e + k) - x).toNat := by
    refine ⟨_, ?_, rfl⟩
    rw [w64 (x := (l.length : Int) + (e + k)) (by omega) (by omega), w64 (by omega) (by omega)]
    unfold mx; split <;> omega
  obtain ⟨hj1, hj2⟩ := hj
  rw [hj1]
  clear hj1
  have hjl : j ≤ l.length := by omega
  refine ifp (by omega) (ifp (by omega) (sb ?_))
  rw [show ((j : Int)).toNat = j from by omega]
  have htl : (l.take j).length = j := by simp; omega
  refine ifp (by simp; omega) (sb ?_)
  have hlen : ([0] ++ l.take j).length = j + 1 := by simp; omega
  rw [hlen, show wrap64 (((j + 1 : Nat) : Int) - 1) = (j : Int) from by rw [w64 (by omega) (by omega)]; omega]
  have hdig : Digits ([0] ++ l.take j) := (Digits.mk_cons (by omega) (by omega) Digits.nil).append (hd.take j)
  have := up_l0 (decide (m < 0)) x (decide (m < 0)) l (e + k) (by omega) (by omega) j ([0] ++ l.take j) hdig (by omega) (by omega) (by simp) rfl
  have hval : val ([0] ++ l.take j) + 10 ^ (([0] ++ l.take j).length - 1 - j) = ((m.natAbs / 10 ^ (x - e).toNat : Nat) : Int) + 1 := by
    rw [hlen, show j + 1 - 1 - j = 0 from by omega, Int.pow_zero, val_append]
    simp only [val, Int.zero_mul, Int.zero_add]
    congr 1
    have hb := val_bounds hd
    have hcast : ((m.natAbs / 10 ^ (x - e).toNat : Nat) : Int) = (m.natAbs : Int) / 10 ^ (x - e).toNat := by
      rw [Int.natCast_ediv, Int.natCast_pow]; rfl
    rw [hcast, ← hv]
    have hsplit : (x - e).toNat = k + (x - (e + k)).toNat := by omega
    rw [hsplit, p10_add, Int.mul_comm (val l), Int.mul_ediv_mul_of_pos _ _ (p10_pos k)]
    by_cases hcase : 0 ≤ (l.length : Int) + (e + k) - x
    · rw [val_take_div l hd j]
      congr 2
      omega
    · have hj0 : j = 0 := by omega
      subst hj0
      have hpw := p10_mono (show l.length ≤ (x - (e + k)).toNat by omega)
      rw [Int.ediv_eq_zero_of_lt hb.1 (by omega)]
      rfl
  rw [hval] at this
  exact this

end Go.Proofs.Ytpchihkegmihiaa.LFnAmountRounds
