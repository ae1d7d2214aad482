/- For every int64 number a and every scale (from 0 to 500): a divided by ten to the power of the scale, where that is done, is the quotient and the rest; by one of at most seventeen it is done. No condition. -/
import Derived.Test.YtpchihkegmihiaaLFnScaleDividesb
namespace Go.Proofs.Ytpchihkegmihiaa.Pure
open Go.RowKit Go.Proofs.Ytpchihkegmihiaa.PFnScaleDivides Go.Proofs.YtpchihkegmihiaaW.PrintWords Go.Proofs.YtpchihkegmihiaaW.PrintLast Go.Proofs.Ytpchihkegmihiaa.EvL Go.Proofs.Ytpchihkegmihiaa.Dec Go.Proofs.Ytpchihkegmihiaa.LFnScaleDivides

theorem FnScaleDivides : laws_FnScaleDivides.Pure := by
  intro a s ha hs
  have ha := wf64 ha
  refine Ev.rounds ?_
  unfold laws_FnScaleDivides.f
  by_cases h0 : s < 0
  · exact ifp h0 (Ev.step (fun k => laws_FnScaleDivides.j0.eq_2 ..) (ifp rfl (Ev.now _)))
  · refine ifn h0 (Ev.step (fun k => laws_FnScaleDivides.j0.eq_2 ..) ?_)
    by_cases h1 : s > 500
    · exact ifp (by simpa using h1) (Ev.now _)
    · refine ifn (by simpa using h1) ?_
      by_cases h2 : s ≤ 17
      · refine cb (divide_low a s ha (by omega) h2) (ifp rfl ?_)
        have p10 : (10 : Int) ^ 1 = 10 := by decide
        have s1 := dec_size_le 1 s 1 (by rw [p10]; decide) (by omega)
        refine (of_ev 1 s (by omega) (by omega) (by omega) (by omega)).bind ?_
        obtain ⟨v, hv, hvf⟩ := fits_ev 1 s (by omega) (by omega) (by omega)
        refine hv.bind (cb (divide_low 25 1 (by omega) (by omega) (by omega)) ?_)
        have hp := p10_pos s.toNat
        have hm := p10_mono (show s.toNat ≤ 17 by omega)
        rw [show (10 : Int) ^ 17 = 100000000000000000 from by decide] at hm
        have hf : fits (1 * 10 ^ s.toNat) = true := by rw [fits_iff]; omega
        have hv1 := hvf hf
        rw [Int.one_mul] at hv1
        subst hv1
        have hq := tdiv_range a (10 ^ s.toNat) hp
        refine ifp hf ?_
        simp only
        refine ifn (by omega) (ifp ?_ ?_)
        · rw [w64 (by omega) (by omega)]
        · refine ifp trivial (ifp trivial (ifp ?_ (now ?_)))
          · decide
          · decide
      · refine cb (divide_high a s (by omega) (by omega)) (ifn (by simp) (now ?_))
        simp; omega

end Go.Proofs.Ytpchihkegmihiaa.Pure
