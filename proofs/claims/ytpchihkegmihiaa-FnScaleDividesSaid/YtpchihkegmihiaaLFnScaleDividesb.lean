/- The reference's decimals: sums, products, order, rounding, as numbers. -/
import Derived.Test.YtpchihkegmihiaaLFnScaleDividesa
import Derived.DataShut
namespace Go.Proofs.Ytpchihkegmihiaa.LFnScaleDivides
open Go.RowKit Go.Proofs.Ytpchihkegmihiaa.PFnScaleDivides Go.Proofs.YtpchihkegmihiaaW.PrintWords Go.Proofs.YtpchihkegmihiaaW.PrintLast Go.Proofs.YtpchihkegmihiaaW.PrintMore Go.Proofs.Ytpchihkegmihiaa.EvL Go.Proofs.Ytpchihkegmihiaa.Dec

theorem sg_abs (m : Int) : sg (decide (m < 0)) (m.natAbs : Int) = m := by
  unfold sg
  by_cases h : m < 0
  · simp only [h, decide_true, if_true]; omega
  · simp only [h, decide_false, Bool.false_eq_true, if_false]; omega

theorem sg_mul (s : Bool) (a b : Int) : sg s (a * b) = sg s a * b := by
  unfold sg; cases s <;> simp <;> grind

theorem sg_xor (s t : Bool) (a b : Int) : sg (s != t) (a * b) = sg s a * sg t b := by
  unfold sg; cases s <;> cases t <;> simp <;> grind



theorem wf64 {n : Int} (h : (Lit.int .i64 n).wf = true) : -9223372036854775808 ≤ n ∧ n ≤ 9223372036854775807 := by
  have := (Go.Lit.wf_int_iff .i64 n).1 h
  simpa [IntKind.min, IntKind.max, IntKind.signed, IntKind.bits] using this


theorem tdiv_range (a b : Int) (hb : 0 < b) : (0 ≤ a → 0 ≤ Int.tdiv a b ∧ Int.tdiv a b ≤ a) ∧ (a ≤ 0 → a ≤ Int.tdiv a b ∧ Int.tdiv a b ≤ 0) := by
  have key : ∀ x : Int, 0 ≤ x → 0 ≤ Int.tdiv x b ∧ Int.tdiv x b ≤ x := by
    intro x hx
    rw [Int.tdiv_eq_ediv_of_nonneg hx]
    exact ⟨Int.ediv_nonneg hx (by omega), Int.ediv_le_self b hx⟩
  refine ⟨key a, fun ha => ?_⟩
  have := key (-a) (by omega)
  rw [Int.neg_tdiv] at this
  omega







theorem pow10_eq (s : Int) (h0 : 0 ≤ s) (h1 : s ≤ 18) : resource_pow10Int64.f s = some (10 ^ s.toNat) := by
  have : s = 0 ∨ s = 1 ∨ s = 2 ∨ s = 3 ∨ s = 4 ∨ s = 5 ∨ s = 6 ∨ s = 7 ∨ s = 8 ∨ s = 9 ∨ s = 10 ∨ s = 11 ∨ s = 12 ∨ s = 13 ∨ s = 14 ∨ s = 15 ∨ s = 16 ∨ s = 17 ∨ s = 18 := by omega
  rcases this with rfl | rfl | rfl | rfl | rfl | rfl | rfl | rfl | rfl | rfl | rfl | rfl | rfl | rfl | rfl | rfl | rfl | rfl | rfl <;> decide

theorem divide_low (a s : Int) (ha : -9223372036854775808 ≤ a ∧ a ≤ 9223372036854775807) (h0 : 0 ≤ s) (h1 : s ≤ 17) : impl_ScaleDivide.f a s = some (Int.tdiv a (10 ^ s.toNat), Int.tmod a (10 ^ s.toNat), true) := by
  unfold impl_ScaleDivide.f resource_ZzDivideByScale.f resource_divideByScaleInt64.f
  rw [w32 (x := s) (by omega) (by omega)]
  by_cases e : s = 0
  · subst e
    simp
  · have hp := p10_pos s.toNat
    have hq := tdiv_range a (10 ^ s.toNat) hp
    rw [if_neg e, if_neg (by omega), w64 (x := s) (by omega) (by omega), pow10_eq s h0 (by omega)]
    simp only [Option.bind_some]
    rw [if_neg (by omega), w64 (by omega) (by omega)]
    rfl

theorem divide_high (a s : Int) (h0 : 18 ≤ s) (h1 : s ≤ 500) : impl_ScaleDivide.f a s = some (0, a, false) := by
  unfold impl_ScaleDivide.f resource_ZzDivideByScale.f resource_divideByScaleInt64.f
  rw [w32 (x := s) (by omega) (by omega), if_neg (by omega), if_pos (by omega)]
  rfl

end Go.Proofs.Ytpchihkegmihiaa.LFnScaleDivides
