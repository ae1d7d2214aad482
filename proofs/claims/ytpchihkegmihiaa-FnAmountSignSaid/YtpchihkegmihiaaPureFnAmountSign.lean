/- For every amount whose scale is from -500 to 500 (of others the law says nothing): its sign is that of its number; as an int64, where one is told, it is the number. -/
import Derived.Test.YtpchihkegmihiaaLFnAmountSignc
import Derived.Test.YtpchihkegmihiaaQFnAmountSign
namespace Go.Proofs.Ytpchihkegmihiaa.Pure
open Go.RowKit Go.Proofs.Ytpchihkegmihiaa.XFnAmountSign Go.Proofs.YtpchihkegmihiaaW.PrintWords Go.Proofs.YtpchihkegmihiaaW.PrintLast Go.Proofs.Ytpchihkegmihiaa.EvL Go.Proofs.Ytpchihkegmihiaa.Dec Go.Proofs.Ytpchihkegmihiaa.LFnAmountSign

theorem FnAmountSign : QFnAmountSign.Pure := by
  rintro ⟨v, s⟩ ⟨hv, _⟩
  replace hv := wf64 hv
  simp only at hv ⊢
  refine Ev.rounds ?_
  unfold laws_FnAmountSign.f
  by_cases hin : -500 ≤ s ∧ s ≤ 500
  · have hz := amount_size v s hv hin.1 hin.2
    refine (amountOf_in v s hv hin.1 hin.2).bind (ifp rfl ?_)
    have j0 : Ev (fun k => laws_FnAmountSign.j0 k false v s (dec v s).1 (dec v s).2.1 (dec v s).2.2) true := by
      refine Ev.step (fun k => laws_FnAmountSign.j0.eq_2 ..) (ifn (by simp) ?_)
      have hs : impl_AmountSign.f v s = some (sgn v) := by
        unfold impl_AmountSign.f resource_ZzAmount.f resource_int64Amount_Sign.f sgn
        simp only [Option.bind_some]
        by_cases h0 : v = 0
        · simp [h0]
        · by_cases h1 : v > 0
          · rw [if_neg h0, if_pos h1, if_neg h0, if_neg (by omega)]; rfl
          · rw [if_neg h0, if_neg h1, if_neg h0, if_pos (by omega)]; rfl
      exact cb hs (cb (sign_eq v s) (ifp rfl (awake.bind (Ev.now _))))
    have hint : ∀ (u : Int) (b : Bool), Ev (fun k => resource_int64Amount_AsInt64.f k v s) (u, b) → Ev (fun k => impl_AmountInt.f k v s) (u, b) := by
      intro u b h
      unfold impl_AmountInt.f
      refine cb (g := resource_ZzAmount.f v (wrap32 s)) (a := (v, s)) ?_ (h.bind (Ev.now _))
      unfold resource_ZzAmount.f
      rw [w32 (by omega) (by omega)]
    by_cases h0 : s = 0
    · subst h0
      obtain ⟨u, hu, huf⟩ := int_ev v 0 (by omega) (by omega) (by omega)
      rw [show v * 10 ^ (0 : Int).toNat = v from by simp] at hu huf
      have hf : fits v = true := (fits_iff v).2 hv
      refine (hint v true (by unfold resource_int64Amount_AsInt64.f; exact ifp rfl (Ev.now _))).bind (hu.bind ?_)
      rw [huf hf]
      exact ifp rfl (ifp hf (ifp rfl j0))
    · by_cases h1 : s < 0
      · obtain ⟨r, hr⟩ := int_any v s (by omega) (by omega)
        refine (hint 0 false (by unfold resource_int64Amount_AsInt64.f; exact ifn h0 (ifp h1 (Ev.now _)))).bind (hr.bind (ifn (by simp) ?_))
        rw [show (s == 0) = false from by simpa using h0]
        exact j0
      · obtain ⟨u, hu, huf⟩ := int_ev v s (by omega) (by omega) (by omega)
        obtain ⟨t, ht, htf⟩ := positive_ev v s hv (by omega) (by omega)
        refine (hint t (fits (v * 10 ^ s.toNat)) (by unfold resource_int64Amount_AsInt64.f; exact ifn h0 (ifn h1 (ht.bind (Ev.now _))))).bind (hu.bind ?_)
        by_cases hf : fits (v * 10 ^ s.toNat) = true
        · refine ifp hf (ifp hf (ifp ?_ j0))
          simp only
          rw [huf hf, htf hf]
        · refine ifn hf ?_
          rw [show (s == 0) = false from by simpa using h0]
          exact j0
  · obtain ⟨r, hr, hf⟩ := amountOf_out v s hv (by omega)
    exact hr.bind (ifn (by rw [hf]; simp) (Ev.now _))

end Go.Proofs.Ytpchihkegmihiaa.Pure
