/- For every amount whose scale is from -500 to 500 and whose value is not the least int64, and every scale from -500 to 500: the amount rounded to the scale is its number away from 0 to a multiple of that power of ten; it is exact just if it is that already. -/
import Derived.Test.YtpchihkegmihiaaLFnAmountRoundsc
import Derived.Test.YtpchihkegmihiaaQFnAmountRounds
namespace Go.Proofs.Ytpchihkegmihiaa.Pure
open Go.RowKit Go.Proofs.Ytpchihkegmihiaa.XFnAmountRounds Go.Proofs.YtpchihkegmihiaaW.PrintWords Go.Proofs.YtpchihkegmihiaaW.PrintLast Go.Proofs.Ytpchihkegmihiaa.EvL Go.Proofs.Ytpchihkegmihiaa.Dec Go.Proofs.Ytpchihkegmihiaa.LFnAmountRounds

/-- Where the power of the last digit reaches the unit, the number is a multiple of it. -/
theorem exact_iff (v s x : Int) (hv : v ≠ 0) (hx : s ≤ x) : x ≤ (dec v s).2.2 ↔ v.natAbs % 10 ^ (x - s).toNat = 0 := by
  constructor
  · intro h
    obtain ⟨l, k, hp, hd, _, _, _, hval⟩ := dec_parts v s hv
    rw [hp] at h
    simp only at h
    have hk : k = (x - s).toNat + (k - (x - s).toNat) := by omega
    have e : (v.natAbs : Int) = 10 ^ (x - s).toNat * (10 ^ (k - (x - s).toNat) * val l) := by
      rw [← hval]
      conv => lhs; rw [hk, p10_add]
      grind
    have hdvd : ((10 ^ (x - s).toNat : Nat) : Int) ∣ (v.natAbs : Int) := ⟨10 ^ (k - (x - s).toNat) * val l, by rw [e]; simp⟩
    exact Nat.mod_eq_zero_of_dvd (Int.natCast_dvd_natCast.1 hdvd)
  · intro h
    have hq : v.natAbs = v.natAbs / 10 ^ (x - s).toNat * 10 ^ (x - s).toNat := by
      have := Nat.div_add_mod v.natAbs (10 ^ (x - s).toNat)
      rw [h, Nat.add_zero, Nat.mul_comm] at this
      exact this.symm
    obtain ⟨q, hqe⟩ : ∃ q : Int, v = q * 10 ^ (x - s).toNat := by
      refine ⟨sg (decide (v < 0)) ((v.natAbs / 10 ^ (x - s).toNat : Nat) : Int), ?_⟩
      rw [← sg_mul]
      have : (((v.natAbs / 10 ^ (x - s).toNat : Nat) : Int)) * 10 ^ (x - s).toNat = (v.natAbs : Int) := by
        conv => rhs; rw [hq]
        simp
      rw [this, sg_abs]
    have hq0 : q ≠ 0 := by intro h0; rw [h0, Int.zero_mul] at hqe; exact hv hqe
    have hd : dec v s = dec q x := by
      rw [hqe, dec_pow]; congr 1; omega
    rw [hd]
    obtain ⟨l, k, hp, _⟩ := dec_parts q x hq0
    rw [hp]
    simp only
    omega

theorem rounds_j0 (v s x : Int) (hv : -9223372036854775808 < v ∧ v ≤ 9223372036854775807) (h0 : -500 ≤ s) (h1 : s ≤ 500) (hx0 : -500 ≤ x) (hx1 : x ≤ 500) :
    Ev (fun k => laws_FnAmountRounds.j0 k x false v s (dec v s).1 (dec v s).2.1 (dec v s).2.2) true := by
  have hz := amount_size v s ⟨by omega, hv.2⟩ h0 h1
  have hscale : ∀ u (b : Bool) t, Ev (fun k => resource_int64Amount_AsScale.f k v s x) (u, t, b) → -500 ≤ t → t ≤ 500 → Ev (fun k => impl_AmountAsScale.f k v s x) (u, t, b) := by
    intro u b t h ha hb
    unfold impl_AmountAsScale.f
    rw [w32 (x := x) (by omega) (by omega), w32 (x := s) (by omega) (by omega)]
    refine cb (g := resource_ZzAmount.f v s) (a := (v, s)) rfl (h.bind ?_)
    refine cb (g := resource_int64Amount_ZzParts.f u t) (a := (u, t)) rfl (now ?_)
    simp only
    rw [w64 (x := t) (by omega) (by omega)]
  refine Ev.step (fun k => laws_FnAmountRounds.j0.eq_2 ..) (ifn (by simp) ?_)
  by_cases hsx : s ≥ x
  · refine (hscale v true s (by unfold resource_int64Amount_AsScale.f; exact ifp hsx (Ev.now _)) h0 h1).bind ?_
    have hx : v = 0 ∨ x ≤ (dec v s).2.2 := by
      by_cases hv0 : v = 0
      · exact .inl hv0
      · right
        obtain ⟨l, k, hp, _⟩ := dec_parts v s hv0
        rw [hp]; simp only; omega
    refine (up_exact v s x hx).bind ?_
    refine (amountIs_ev v s v s s ⟨by omega, hv.2⟩ h0 h1 (by omega) (by omega) (by omega) (by omega) (by omega) (by omega)).bind ?_
    exact ifp (by simp) (ifp (by simp) (awake.bind (Ev.now _)))
  · have hD : (0 : Int) ≤ x - s := by omega
    have hns := negscale_ev v (x - s) hv (by omega) (by omega)
    have hasc : ∀ u b, Ev (fun k => resource_negativeScaleInt64.f k v (x - s)) (u, b) → Ev (fun k => impl_AmountAsScale.f k v s x) (u, x, b) := by
      intro u b h
      refine hscale u b x ?_ hx0 hx1
      unfold resource_int64Amount_AsScale.f
      rw [w32 (x := x - s) (by omega) (by omega)]
      exact ifn hsx (h.bind (Ev.now _))
    by_cases hm : v.natAbs % 10 ^ (x - s).toNat = 0
    · rw [if_pos hm, decide_eq_true hm] at hns
      refine (hasc _ _ hns).bind ?_
      have hq : v = sg (decide (v < 0)) ((v.natAbs / 10 ^ (x - s).toNat : Nat) : Int) * 10 ^ (x - s).toNat := by
        rw [← sg_mul]
        have := Nat.div_add_mod v.natAbs (10 ^ (x - s).toNat)
        rw [hm, Nat.add_zero] at this
        have e : ((v.natAbs / 10 ^ (x - s).toNat : Nat) : Int) * 10 ^ (x - s).toNat = (v.natAbs : Int) := by
          conv => rhs; rw [← this]
          rw [Int.mul_comm]; simp
        rw [e, sg_abs]
      have hqle : v.natAbs / 10 ^ (x - s).toNat ≤ v.natAbs := Nat.div_le_self _ _
      obtain ⟨q, hqe⟩ : ∃ q, sg (decide (v < 0)) ((v.natAbs / 10 ^ (x - s).toNat : Nat) : Int) = q := ⟨_, rfl⟩
      have hqb : -9223372036854775808 ≤ q ∧ q ≤ 9223372036854775807 := by
        rw [← hqe]; unfold sg
        generalize v.natAbs / 10 ^ (x - s).toNat = Q at *
        split <;> omega
      rw [hqe] at hq ⊢
      have hx : v = 0 ∨ x ≤ (dec v s).2.2 := by
        by_cases hv0 : v = 0
        · exact .inl hv0
        · exact .inr ((exact_iff v s x hv0 (by omega)).2 hm)
      refine (up_exact v s x hx).bind ?_
      refine (amountIs_ev q x v s s hqb hx0 hx1 (by omega) (by omega) (by omega) (by omega) (by omega) (by omega)).bind ?_
      refine ifp ?_ (ifp (by simp) (awake.bind (Ev.now _)))
      rw [decide_eq_true_iff, show (s - s).toNat = 0 from by omega, Int.pow_zero, Int.mul_one]
      exact hq.symm
    · rw [if_neg hm, decide_eq_false hm] at hns
      have hv0 : v ≠ 0 := by intro h; apply hm; rw [h]; simp
      refine (hasc _ _ hns).bind ?_
      have hlt : (dec v s).2.2 < x := by
        apply Classical.byContradiction
        intro h
        exact hm ((exact_iff v s x hv0 (by omega)).1 (by omega))
      refine (up_away v s x hv0 hlt (by omega) (by omega) (by omega) (by omega) _ rfl).bind ?_
      have hdle : v.natAbs / 10 ^ (x - s).toNat ≤ v.natAbs / 10 := by
        have : 10 ^ (x - s).toNat = 10 * 10 ^ ((x - s).toNat - 1) := by rw [← Nat.pow_succ']; congr 1; omega
        rw [this, ← Nat.div_div_eq_div_mul]
        exact Nat.div_le_self _ _
      obtain ⟨q, hqe⟩ : ∃ q, away v (x - s).toNat = q := ⟨_, rfl⟩
      have hqb : -9223372036854775808 ≤ q ∧ q ≤ 9223372036854775807 := by
        rw [← hqe]; unfold away sg
        generalize v.natAbs / 10 ^ (x - s).toNat = Q at *
        split <;> omega
      rw [hqe]
      have hz2 := amount_size q x hqb hx0 hx1
      refine (amountIs_ev q x q x x hqb hx0 hx1 (by omega) (by omega) (by omega) (by omega) (by omega) (by omega)).bind ?_
      exact ifp (by simp) (ifp (by simp) (awake.bind (Ev.now _)))

theorem FnAmountRounds : QFnAmountRounds.Pure := by
  rintro ⟨v, s⟩ x ⟨hv, _⟩ _
  replace hv := wf64 hv
  simp only at hv ⊢
  refine Ev.rounds ?_
  unfold laws_FnAmountRounds.f
  have stop : ∀ a b c d e, Ev (fun k => laws_FnAmountRounds.j0 k x true a b c d e) true := fun a b c d e => Ev.step (fun k => laws_FnAmountRounds.j0.eq_2 ..) (ifp rfl (Ev.now _))
  by_cases hin : -500 ≤ s ∧ s ≤ 500
  · refine (amountOf_in v s hv hin.1 hin.2).bind (ifp rfl ?_)
    by_cases h1 : x < -500
    · exact ifp h1 (stop _ _ _ _ _)
    · refine ifn h1 ?_
      by_cases h2 : x > 500
      · exact ifp h2 (stop _ _ _ _ _)
      · refine ifn h2 ?_
        by_cases h3 : v = -9223372036854775808
        · rw [show (v == -9223372036854775808) = true from by simpa using h3]
          exact stop _ _ _ _ _
        · rw [show (v == -9223372036854775808) = false from by simpa using h3]
          exact rounds_j0 v s x ⟨by omega, hv.2⟩ hin.1 hin.2 (by omega) (by omega)
  · obtain ⟨r, hr, hf⟩ := amountOf_out v s hv (by omega)
    exact hr.bind (ifn (by rw [hf]; simp) (stop _ _ _ _ _))

end Go.Proofs.Ytpchihkegmihiaa.Pure
