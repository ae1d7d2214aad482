/- For all int64 numbers a and b: their sum as the package tells it is told just if it is an int64, and then it is the sum. No condition. -/
import Derived.Test.YtpchihkegmihiaaLFnScaleSumsb
namespace Go.Proofs.Ytpchihkegmihiaa.Pure
open Go.RowKit Go.Proofs.Ytpchihkegmihiaa.PFnScaleSums Go.Proofs.YtpchihkegmihiaaW.PrintWords Go.Proofs.YtpchihkegmihiaaW.PrintLast Go.Proofs.Ytpchihkegmihiaa.EvL Go.Proofs.Ytpchihkegmihiaa.Dec Go.Proofs.Ytpchihkegmihiaa.LFnScaleSums

theorem FnScaleSums : laws_FnScaleSums.Pure := by
  intro a b ha hb
  have ha := wf64 ha
  have hb := wf64 hb
  refine Ev.rounds ?_
  have p19 : (10 : Int) ^ 19 = 10000000000000000000 := by decide
  have p20 : (10 : Int) ^ 20 = 100000000000000000000 := by decide
  have sa := dec_size_le a 0 19 (by omega) (by omega)
  have sb' := dec_size_le b 0 19 (by omega) (by omega)
  have ss := dec_size_le (a + b) 0 20 (by omega) (by omega)
  clear p19 p20
  unfold laws_FnScaleSums.f
  refine (of_ev a 0 ha.1 ha.2 (by omega) (by omega)).bind ?_
  refine (of_ev b 0 hb.1 hb.2 (by omega) (by omega)).bind ?_
  refine (add_ev a b 0 0 0 (by omega) (by omega) (by omega) (by omega) (by omega) (by omega) (by omega) (fun _ _ => by omega) (by omega) (by omega) (dec (a + b) 0) (by simp)).bind ?_
  obtain ⟨v, hv, hvf⟩ := fits_ev (a + b) 0 (by omega) (by omega) (by omega)
  rw [show (a + b) * 10 ^ (0 : Int).toNat = a + b from by simp] at hv hvf
  refine hv.bind ?_
  have add : ∀ x y : Int, (-9223372036854775808 ≤ x ∧ x ≤ 9223372036854775807) → (-9223372036854775808 ≤ y ∧ y ≤ 9223372036854775807) → Ev (fun k => impl_Int64Add.f k x y) (if fits (x + y) = true then (x + y, true) else (0, false)) := by
    intro x y hx hy
    unfold impl_Int64Add.f resource_ZzAdd.f
    exact ((addi_ev x y hx hy).bind (Ev.now _)).bind (Ev.now _)
  refine (add a b ha hb).bind ?_
  refine (add 1 2 (by omega) (by omega)).bind ?_
  have h3 : fits 3 = true := by decide
  by_cases hf : fits (a + b) = true
  · have hv2 := hvf hf
    simp [hf, hv2, h3, Ev.now]
  · have hf2 : fits (a + b) = false := by simpa using hf
    simp [hf2, h3, Ev.now]

end Go.Proofs.Ytpchihkegmihiaa.Pure
