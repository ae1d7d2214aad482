/- For every int64 number a and every scale (from 0 to 500): a times 10, 100, 1000, and times ten to the power of the scale, is told just if it is an int64; a power of ten from 0 to 18 is what it is. No condition. -/
import Derived.Test.YtpchihkegmihiaaLFnScaleTensb
namespace Go.Proofs.Ytpchihkegmihiaa.Pure
open Go.RowKit Go.Proofs.Ytpchihkegmihiaa.PFnScaleTens Go.Proofs.YtpchihkegmihiaaW.PrintWords Go.Proofs.YtpchihkegmihiaaW.PrintLast Go.Proofs.Ytpchihkegmihiaa.EvL Go.Proofs.Ytpchihkegmihiaa.Dec Go.Proofs.Ytpchihkegmihiaa.LFnScaleTens

theorem times_fits (x : Int) (h0 : 0 ≤ x) (h1 : x < 3) (a : Int) (ha : -9223372036854775808 ≤ a ∧ a ≤ 9223372036854775807) :
    ∃ v, Ev (fun k => impl_Int64Times.f k x a) (v, fits (a * 10 ^ (x + 1).toNat)) ∧ (fits (a * 10 ^ (x + 1).toNat) = true → v = a * 10 ^ (x + 1).toNat) := by
  unfold impl_Int64Times.f resource_ZzMultiplyScale10.f resource_ZzMultiplyScale100.f resource_ZzMultiplyScale1000.f
  have : x = 0 ∨ x = 1 ∨ x = 2 := by omega
  rcases this with rfl | rfl | rfl
  · obtain ⟨v, hv, hf⟩ := mul10_ev a ha
    exact ⟨v, ifp rfl ((hv.bind (Ev.now _)).bind (Ev.now _)), hf⟩
  · obtain ⟨v, hv, hf⟩ := mul100_ev a ha
    exact ⟨v, ifn (by omega) (ifp rfl ((hv.bind (Ev.now _)).bind (Ev.now _))), hf⟩
  · obtain ⟨v, hv, hf⟩ := mul1000_ev a ha
    exact ⟨v, ifn (by omega) (ifn (by omega) ((hv.bind (Ev.now _)).bind (Ev.now _))), hf⟩

theorem tens_j2 (s : Int) (h0 : 0 ≤ s) (h1 : s ≤ 500) : Ev (fun k => laws_FnScaleTens.j2 k s false) true := by
  refine Ev.step (fun k => laws_FnScaleTens.j2.eq_2 ..) (ifn (by simp) ?_)
  have p10 : (10 : Int) ^ 1 = 10 := by decide
  have s1 := dec_size_le 1 s 1 (by rw [p10]; decide) (by omega)
  clear p10
  refine (of_ev 1 s (by omega) (by omega) (by omega) (by omega)).bind ?_
  obtain ⟨v, hv, hvf⟩ := fits_ev 1 s (by omega) (by omega) (by omega)
  refine hv.bind ?_
  have pw : ∀ x : Int, 0 ≤ x → x ≤ 18 → impl_Power10.f x = some (10 ^ x.toNat) := by
    intro x a b
    unfold impl_Power10.f resource_ZzPow10.f
    rw [pow10_eq x a b]; rfl
  by_cases h : s > 18
  · refine ifp h (cb (pw 3 (by omega) (by omega)) (now ?_))
    decide
  · refine ifn h (cb (pw s (by omega) (by omega)) ?_)
    have hm := p10_mono (show s.toNat ≤ 18 by omega)
    have hp := p10_pos s.toNat
    rw [show (10 : Int) ^ 18 = 1000000000000000000 from by decide] at hm
    have hf : fits (1 * 10 ^ s.toNat) = true := by rw [fits_iff]; omega
    have hv1 := hvf hf
    rw [Int.one_mul] at hv1
    subst hv1
    refine ifp rfl (cb (pw 3 (by omega) (by omega)) (now ?_))
    decide

theorem tens_l0 (a s : Int) (ha : -9223372036854775808 ≤ a ∧ a ≤ 9223372036854775807) (h0 : 0 ≤ s) (h1 : s ≤ 500) (n : Nat) : ∀ x : Int, 0 ≤ x → x + n = 3 → Ev (fun k => laws_FnScaleTens.l0 k a s x) true := by
  have p19 : (10 : Int) ^ 19 = 10000000000000000000 := by decide
  have p1 : (10 : Int) ^ 1 = 10 := by decide
  induction n with
  | zero =>
    intro x hx hn
    have : x = 3 := by omega
    subst this
    refine Ev.step (fun k => laws_FnScaleTens.l0.eq_2 ..) (ifn (by omega) ?_)
    have sa := dec_size_le a s 19 (by rw [p19]; omega) h0
    clear p19 p1
    refine (of_ev a s ha.1 ha.2 (by omega) (by omega)).bind ?_
    obtain ⟨v, hv, hvf⟩ := fits_ev a s h0 (by omega) (by omega)
    refine hv.bind ?_
    obtain ⟨u, hu, huf⟩ := positive_ev a s ha h0 (by omega)
    have up : Ev (fun k => impl_ScaleUp.f k a s) (u, fits (a * 10 ^ s.toNat)) := by
      unfold impl_ScaleUp.f resource_ZzPositiveScale.f
      rw [w32 (x := s) (by omega) (by omega)]
      exact (hu.bind (Ev.now _)).bind (Ev.now _)
    refine up.bind (ifn (by simp) ?_)
    by_cases hf : fits (a * 10 ^ s.toNat) = true
    · refine ifp hf ?_
      simp only [huf hf, hvf hf, bne_self_eq_false]
      exact tens_j2 s h0 h1
    · exact ifn hf (tens_j2 s h0 h1)
  | succ n ih =>
    intro x hx hn
    have next := ih (x + 1) (by omega) (by omega)
    refine Ev.step (fun k => laws_FnScaleTens.l0.eq_2 ..) (ifp (by omega) ?_)
    rw [w64 (x := x + 1) (by omega) (by omega)]
    have sa := dec_size_le a 0 19 (by rw [p19]; omega) (by omega)
    have s1 := dec_size_le 1 (x + 1) 1 (by rw [p1]; decide) (by omega)
    have p20 : (10 : Int) ^ 20 = 100000000000000000000 := by decide
    have sp := dec_size_le (a * 1) (0 + (x + 1)) 20 (by rw [p20]; omega) (by omega)
    clear p20 p19 p1
    refine (of_ev a 0 ha.1 ha.2 (by omega) (by omega)).bind ?_
    refine (of_ev 1 (x + 1) (by omega) (by omega) (by omega) (by omega)).bind ?_
    refine (times_ev a 1 0 (x + 1) (by omega) (by omega) (by omega) (by omega) (by omega) (by omega)).bind ?_
    obtain ⟨v, hv, hvf⟩ := fits_ev (a * 1) (0 + (x + 1)) (by omega) (by omega) (by omega)
    rw [Int.mul_one, Int.zero_add] at hv hvf
    rw [Int.mul_one, Int.zero_add]
    refine hv.bind ?_
    obtain ⟨u, hu, huf⟩ := times_fits x hx (by omega) a ha
    refine hu.bind (ifn (by simp) ?_)
    by_cases hf : fits (a * 10 ^ (x + 1).toNat) = true
    · exact ifp hf (ifp (by rw [huf hf, hvf hf]) next)
    · exact ifn hf next

theorem FnScaleTens : laws_FnScaleTens.Pure := by
  intro a s ha hs
  have ha := wf64 ha
  refine Ev.rounds ?_
  unfold laws_FnScaleTens.f
  by_cases h0 : s < 0
  · exact ifp h0 (Ev.step (fun k => laws_FnScaleTens.j0.eq_2 ..) (ifp rfl (Ev.now _)))
  · refine ifn h0 (Ev.step (fun k => laws_FnScaleTens.j0.eq_2 ..) ?_)
    by_cases h1 : s > 500
    · exact ifp (by simpa using h1) (Ev.now _)
    · exact ifn (by simpa using h1) (tens_l0 a s ha (by omega) (by omega) 3 0 (by omega) (by omega))

end Go.Proofs.Ytpchihkegmihiaa.Pure
