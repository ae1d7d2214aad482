/- Amounts and the reference's decimals: order, rounding, the amount as a number. -/
import Derived.Test.YtmkpkpkcoieeiaaLFnAmountSubb
namespace Go.Proofs.Ytmkpkpkcoieeiaa.LFnAmountSub
open Go.RowKit Go.Proofs.Ytmkpkpkcoieeiaa.XFnAmountSub Go.Proofs.YtmkpkpkcoieeiaaW.PrintWords Go.Proofs.YtmkpkpkcoieeiaaW.PrintLast Go.Proofs.YtmkpkpkcoieeiaaW.PrintMore Go.Proofs.Ytmkpkpkcoieeiaa.EvL Go.Proofs.Ytmkpkpkcoieeiaa.Dec

/-! whatever the power of ten: an answer comes -/
theorem decimal_l1_any (neg : Bool) (n : Nat) : ∀ (l : List Int) (e : Int), l.length = n → l.length < 1099511627776 → ∃ r, Ev (fun k => spec_decimal.l1 k neg l e) r := by
  induction n with
  | zero =>
    intro l e hn hl
    exact ⟨_, Ev.step (fun k => spec_decimal.l1.eq_2 ..) (ifn (by omega) (ifp (by omega) (Ev.now _)))⟩
  | succ n ih =>
    intro l e hn hl
    have w : wrap64 ((l.length : Int) - 1) = (n : Int) := by rw [w64 (by omega) (by omega)]; omega
    by_cases h0 : rd l (n : Int) = 0
    · obtain ⟨r, hr⟩ := ih (l.take n) (wrap64 (e + 1)) (by simp; omega) (by simp; omega)
      refine ⟨r, Ev.step (fun k => spec_decimal.l1.eq_2 ..) ?_⟩
      rw [w]
      clear w
      refine ifp (by omega) (ifp (by omega) (ifp (by omega) (ifp h0 (ifp (by omega) ?_))))
      simpa using hr
    · refine ⟨(neg, [] ++ l, e), Ev.step (fun k => spec_decimal.l1.eq_2 ..) ?_⟩
      · rw [w]
        clear w
        exact ifp (by omega) (ifp (by omega) (ifp (by omega) (ifn h0 (ifn (by omega) (sb (ifp (by simp; omega) (Ev.now _)))))))

theorem decimal_l0_any (neg : Bool) : ∀ (l : List Int) (e : Int), l.length < 1099511627776 → ∃ r, Ev (fun k => spec_decimal.l0 k neg l e) r := by
  intro l
  induction l with
  | nil =>
    intro e _
    obtain ⟨r, hr⟩ := decimal_l1_any neg 0 [] e rfl (by simp)
    exact ⟨r, Ev.step (fun k => spec_decimal.l0.eq_2 ..) (ifn (by simp) (Ev.step (fun k => spec_decimal.j1.eq_2 ..) hr))⟩
  | cons d l ih =>
    intro e hl
    have hll : (d :: l).length = l.length + 1 := rfl
    by_cases h0 : rd (d :: l) 0 = 0
    · obtain ⟨r, hr⟩ := ih e (by omega)
      refine ⟨r, Ev.step (fun k => spec_decimal.l0.eq_2 ..) (ifp (by omega) (ifp (by omega) (ifp h0 (ifp (by omega) ?_))))⟩
      simpa using hr
    · obtain ⟨r, hr⟩ := decimal_l1_any neg _ (d :: l) e rfl hl
      exact ⟨r, Ev.step (fun k => spec_decimal.l0.eq_2 ..) (ifp (by omega) (ifp (by omega) (ifn h0 (Ev.step (fun k => spec_decimal.j1.eq_2 ..) hr))))⟩

theorem of_l0_any (a0 a1 : Int) (n : Nat) : ∀ (u : Nat) (out : List Int), u < 10 ^ n → u < 18446744073709551616 → out.length + n ≤ 1000 → ∃ r, Ev (fun k => spec_DecimalOf.l0 k a0 a1 u out) r := by
  have stop : ∀ out : List Int, out.length ≤ 1000 → ∃ r, Ev (fun k => spec_DecimalOf.l0 k a0 a1 ((0 : Nat) : Int) out) r := by
    intro out ho
    obtain ⟨r, hr⟩ := decimal_l0_any (decide (a0 < 0)) out a1 (by omega)
    exact ⟨_, Ev.step (fun k => spec_DecimalOf.l0.eq_2 ..) (ifn (by simp) ((show Ev (fun k => spec_decimal.f k (decide (a0 < 0)) out a1) r from hr).bind (Ev.now _)))⟩
  induction n with
  | zero =>
    intro u out hu _ hl
    have hu0 : u = 0 := by simp at hu; exact hu
    subst hu0
    exact stop out (by omega)
  | succ n ih =>
    intro u out hu hub hl
    by_cases hz : u = 0
    · subst hz; exact stop out (by omega)
    · obtain ⟨r, hr⟩ := ih (u / 10) (((u % 10 : Nat) : Int) :: out) (by rw [Nat.pow_succ] at hu; omega) (by omega) (by simp; omega)
      have e1 : wrap64 (Int.tmod (u : Int) 10) = ((u % 10 : Nat) : Int) := by
        rw [Int.tmod_eq_emod_of_nonneg (by omega), w64 (by omega) (by omega)]; omega
      have e2 : IntKind.u64.wrap (Int.tdiv (u : Int) 10) = ((u / 10 : Nat) : Int) := by
        rw [Int.tdiv_eq_ediv_of_nonneg (by omega), IntKind.wrap_u64]; omega
      refine ⟨r, Ev.step (fun k => spec_DecimalOf.l0.eq_2 ..) ?_⟩
      refine ifp (by omega) ?_
      rw [e1, e2]
      exact sb (ifp (by simp; omega) hr)

theorem of_any (a e : Int) (h0 : -9223372036854775808 ≤ a) (h1 : a ≤ 9223372036854775807) : ∃ r, Ev (fun k => spec_DecimalOf.f k a e) r := by
  obtain ⟨r, hr⟩ := of_l0_any a e 20 a.natAbs [] (by omega) (by omega) (by simp)
  refine ⟨r, ?_⟩
  unfold spec_DecimalOf.f
  by_cases h : a < 0
  · refine ifp h ?_
    have : IntKind.u64.wrap (-(IntKind.u64.wrap a)) = (a.natAbs : Int) := by rw [IntKind.wrap_u64, IntKind.wrap_u64]; omega
    rw [this]
    exact Ev.step (fun k => spec_DecimalOf.j0.eq_2 ..) hr
  · refine ifn h ?_
    have : IntKind.u64.wrap a = (a.natAbs : Int) := by rw [IntKind.wrap_u64]; omega
    rw [this]
    exact Ev.step (fun k => spec_DecimalOf.j0.eq_2 ..) hr

/-- An amount as a number: of a scale from -500 to 500. -/
theorem amountOf_in (v s : Int) (hv : -9223372036854775808 ≤ v ∧ v ≤ 9223372036854775807) (h0 : -500 ≤ s) (h1 : s ≤ 500) :
    Ev (fun k => laws_amountOf.f k v s) ((dec v s).1, (dec v s).2.1, (dec v s).2.2, true) := by
  unfold laws_amountOf.f
  refine (of_ev v s hv.1 hv.2 (by omega) (by omega)).bind (ifp (by omega) (now ?_))
  simp; omega

theorem amountOf_out (v s : Int) (hv : -9223372036854775808 ≤ v ∧ v ≤ 9223372036854775807) (h : s < -500 ∨ 500 < s) :
    ∃ r, Ev (fun k => laws_amountOf.f k v s) r ∧ r.2.2.2 = false := by
  obtain ⟨r, hr⟩ := of_any v s hv.1 hv.2
  unfold laws_amountOf.f
  by_cases h1 : s ≥ -500
  · exact ⟨_, hr.bind (ifp h1 (Ev.now _)), by simp; omega⟩
  · exact ⟨_, hr.bind (ifn h1 (Ev.now _)), rfl⟩

theorem amount_size (v s : Int) (hv : -9223372036854775808 ≤ v ∧ v ≤ 9223372036854775807) (h0 : -500 ≤ s) (h1 : s ≤ 500) :
    (dec v s).2.1.length ≤ 19 ∧ -500 ≤ (dec v s).2.2 ∧ (dec v s).2.2 ≤ 519 := by
  have p19 : (10 : Int) ^ 19 = 10000000000000000000 := by decide
  obtain ⟨a, b, c⟩ := dec_size v s 19 (by rw [p19]; omega)
  by_cases h : v = 0
  · have := c h; omega
  · have := b h; omega

def sgn (m : Int) : Int := if m = 0 then 0 else if m < 0 then -1 else 1

theorem sign_eq (m e : Int) : spec_DecimalSign.f (dec m e).1 (dec m e).2.1 (dec m e).2.2 = some (sgn m) := by
  unfold spec_DecimalSign.f sgn
  by_cases hm : m = 0
  · subst hm; simp [dec_zero]
  · obtain ⟨l, k, hp, hd, hne, _⟩ := dec_parts m e hm
    rw [hp]
    have : 0 < l.length := List.length_pos_iff.2 hne
    simp only
    rw [if_neg (by omega), if_neg hm]
    by_cases h : m < 0 <;> simp [h]

/-- How two numbers stand. -/
theorem cmp_ev (m n e f c : Int) (he : c ≤ e) (hf : c ≤ f) (hc : -1073741824 ≤ c) (he2 : e ≤ 1073741824) (hf2 : f ≤ 1073741824)
    (hl : (dec m e).2.1.length < 1073741824) (hl2 : (dec n f).2.1.length < 1073741824) (hx : (dec m e).2.2 ≤ 1073741824) (hx2 : (dec n f).2.2 ≤ 1073741824) :
    Ev (fun k => spec_DecimalCmp.f k (dec m e).1 (dec m e).2.1 (dec m e).2.2 (dec n f).1 (dec n f).2.1 (dec n f).2.2) (cmp (m * 10 ^ (e - c).toNat) (n * 10 ^ (f - c).toNat)) := by
  have pe := p10_pos (e - c).toNat
  have pf := p10_pos (f - c).toNat
  have me : ∀ x : Int, (0 < x → 0 < x * 10 ^ (e - c).toNat) ∧ (x < 0 → x * 10 ^ (e - c).toNat < 0) ∧ (x = 0 → x * 10 ^ (e - c).toNat = 0) := fun x =>
    ⟨fun h => Int.mul_pos h pe, fun h => Int.mul_neg_of_neg_of_pos h pe, fun h => by rw [h, Int.zero_mul]⟩
  have mf : ∀ x : Int, (0 < x → 0 < x * 10 ^ (f - c).toNat) ∧ (x < 0 → x * 10 ^ (f - c).toNat < 0) ∧ (x = 0 → x * 10 ^ (f - c).toNat = 0) := fun x =>
    ⟨fun h => Int.mul_pos h pf, fun h => Int.mul_neg_of_neg_of_pos h pf, fun h => by rw [h, Int.zero_mul]⟩
  have hm1 := me m
  have hn1 := mf n
  unfold spec_DecimalCmp.f
  refine cb (sign_eq m e) (cb (sign_eq n f) ?_)
  by_cases hs : sgn m = sgn n
  · refine ifp hs (Ev.step (fun k => spec_DecimalCmp.j0.eq_2 ..) (ifn (by simp) (ifp hs ?_)))
    by_cases hm : m = 0
    · have hn : n = 0 := by
        unfold sgn at hs
        rw [if_pos hm] at hs
        apply Classical.byContradiction
        intro h
        rw [if_neg h] at hs
        split at hs <;> omega
      have h0 : sgn m = 0 := by unfold sgn; rw [if_pos hm]
      rw [h0]
      refine ifn (by omega) (ifn (by omega) (now ?_))
      unfold cmp
      rw [hm1.2.2 hm, hn1.2.2 hn]
      rfl
    · have hn : n ≠ 0 := by
        intro h
        unfold sgn at hs
        rw [if_neg hm, if_pos h] at hs
        split at hs <;> omega
      have hlar := larger_ev (dec m e).1 (dec n f).1 m n e f c hm hn he hf hc he2 hf2 hl hl2 hx hx2
      by_cases hneg : m < 0
      · have hn2 : n < 0 := by
          unfold sgn at hs
          rw [if_neg hm, if_pos hneg, if_neg hn] at hs
          apply Classical.byContradiction
          intro h
          rw [if_neg h] at hs
          omega
        have h0 : sgn m = -1 := by unfold sgn; rw [if_neg hm, if_pos hneg]
        rw [h0]
        refine ifp (by omega) (hlar.bind (now ?_))
        have e1 : (m.natAbs : Int) * 10 ^ (e - c).toNat = -(m * 10 ^ (e - c).toNat) := by rw [← Int.neg_mul]; congr 1; omega
        have e2 : (n.natAbs : Int) * 10 ^ (f - c).toNat = -(n * 10 ^ (f - c).toNat) := by rw [← Int.neg_mul]; congr 1; omega
        rw [e1, e2]
        generalize m * 10 ^ (e - c).toNat = x
        generalize n * 10 ^ (f - c).toNat = y
        unfold cmp
        by_cases h1 : x < y
        · rw [if_pos h1, if_neg (by omega), if_neg (by omega)]; unfold wrap64; omega
        · by_cases h2 : x = y
          · rw [if_neg h1, if_pos h2, if_neg (by omega), if_pos (by omega)]; unfold wrap64; omega
          · rw [if_neg h1, if_neg h2, if_pos (by omega)]; unfold wrap64; omega
      · have hn2 : ¬ n < 0 := by
          intro h
          unfold sgn at hs
          rw [if_neg hm, if_neg hneg, if_neg hn, if_pos h] at hs
          omega
        have h0 : sgn m = 1 := by unfold sgn; rw [if_neg hm, if_neg hneg]
        rw [h0]
        refine ifn (by omega) (ifp (by omega) (hlar.bind (now ?_)))
        have e1 : (m.natAbs : Int) = m := by omega
        have e2 : (n.natAbs : Int) = n := by omega
        rw [e1, e2]
  · refine ifn hs (Ev.step (fun k => spec_DecimalCmp.j0.eq_2 ..) ?_)
    generalize m * 10 ^ (e - c).toNat = x at *
    generalize n * 10 ^ (f - c).toNat = y at *
    by_cases hlt : sgn m < sgn n
    · refine ifp (by simpa using hlt) (now ?_)
      have : x < y := by
        unfold sgn at hlt
        by_cases a : m = 0 <;> by_cases b : n = 0 <;> by_cases a2 : m < 0 <;> by_cases b2 : n < 0 <;> simp [a, b, a2, b2] at hlt <;> omega
      unfold cmp; rw [if_pos this]
    · refine ifn (by simpa using hlt) (ifn hs (now ?_))
      have : y < x := by
        unfold sgn at hlt hs
        by_cases a : m = 0 <;> by_cases b : n = 0 <;> by_cases a2 : m < 0 <;> by_cases b2 : n < 0 <;> simp [a, b, a2, b2] at hlt hs <;> omega
      unfold cmp; rw [if_neg (by omega), if_neg (by omega)]

theorem cmp_zero (x y : Int) : (cmp x y == 0) = decide (x = y) := by
  unfold cmp
  by_cases h : x < y
  · rw [if_pos h]; simp; omega
  · by_cases h2 : x = y
    · rw [if_neg h, if_pos h2]; simp [h2]
    · rw [if_neg h, if_neg h2]; simp [h2]

/-- Whether an amount is a number. -/
theorem amountIs_ev (v s n f c : Int) (hv : -9223372036854775808 ≤ v ∧ v ≤ 9223372036854775807) (h0 : -500 ≤ s) (h1 : s ≤ 500) (hs : c ≤ s) (hf : c ≤ f) (hc : -1000 ≤ c) (hf2 : f ≤ 1073741824)
    (hl2 : (dec n f).2.1.length < 1073741824) (hx2 : (dec n f).2.2 ≤ 1073741824) :
    Ev (fun k => laws_amountIs.f k v s (dec n f).1 (dec n f).2.1 (dec n f).2.2) (decide (v * 10 ^ (s - c).toNat = n * 10 ^ (f - c).toNat)) := by
  have hz := amount_size v s hv h0 h1
  unfold laws_amountIs.f
  refine (amountOf_in v s hv h0 h1).bind (ifp rfl ?_)
  refine (cmp_ev v n s f c hs hf (by omega) (by omega) hf2 (by omega) hl2 (by omega) hx2).bind (now ?_)
  exact cmp_zero _ _

theorem awake : Ev (fun k => laws_amountAwake.f k) true := Ev.of (k := 60) laws_amountAwake.mono (by kernel_rfl)




end Go.Proofs.Ytmkpkpkcoieeiaa.LFnAmountSub
