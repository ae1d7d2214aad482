/- FnLabelEnds: the law's function walked. -/
import Derived.Test.YtkhodhebhjbfpaaLabF
set_option linter.unusedSimpArgs false
set_option linter.unusedVariables false
namespace Go.Proofs.Ytkhodhebhjbfpaa.LabG
open Go.RowKit Go.Maps Go.Proofs.YtkhodhebhjbfpaaW.PrintWords Go.Proofs.YtkhodhebhjbfpaaW.PrintLast Go.Proofs.Ytkhodhebhjbfpaa.EvL Go.Proofs.Ytkhodhebhjbfpaa.SetGen Go.Proofs.Ytkhodhebhjbfpaa.MapGen Go.Proofs.Ytkhodhebhjbfpaa.XFnLabelEnds Go.Proofs.Ytkhodhebhjbfpaa.LabS Go.Proofs.Ytkhodhebhjbfpaa.LabE Go.Proofs.Ytkhodhebhjbfpaa.LabF

def Ok (l : List S28) : Prop := ∀ p ∈ l, p.f0.size ≤ maxLen ∧ p.f1.size ≤ maxLen
instance okDec (l : List S28) : Decidable (Ok l) := by unfold Ok; infer_instance
set_option maxHeartbeats 4000000 in
set_option maxRecDepth 100000 in
theorem law_true (a0 : Int) (A1 : Option Addr) (c1 : Nat) (l1 : List S28) (w : World) (hr1 : k28.C w A1 l1.length l1) (hc1 : l1.length ≤ c1) (h0 : 0 ≤ a0) (h1 : a0 ≤ 255) (ho : Ok l1) :
    Calls Try.prog 3 #[.int .u8 a0, .slice A1 l1.length c1] w fun e w' => e = .returned (.bool true) ∧ Below w.heap.size w w' := by
  obtain ⟨k1, b1, f1, g1⟩ := fits2_ev l1
  have f1 := Aside0.mk f1
  have g1 := Aside0.mk g1
  have hr1 := Aside0.mk hr1
  have hc1 := Aside0.mk hc1
  have ho := Aside0.mk (show ∀ p ∈ l1, p.f0.size ≤ maxLen ∧ p.f1.size ≤ maxLen from ho)
  have hm : a0 % 3 = 0 ∨ a0 % 3 = 1 ∨ a0 % 3 = 2 := by omega
  have p0 : 0 ≤ a0 % 3 := by omega
  rcases b1 with _ | _
  · go_enter Try.func3, Try.ntmps3
    go_wp2_with fail
    refine (laws_zzFits2.calls k1 _ _ l1 false _ hr1.out hc1.out f1.out).mono ?_
    rintro e w1 ⟨rfl, hBn⟩
    have hB := Aside0.mk hBn
    clear hBn
    go_wp2_with fail
    go_ret
    exact ⟨rfl, hB.out⟩
  have hn := Aside0.mk (show l1.length ≤ 2147483647 by have := g1.out; simpa using this)
  have ht : Int.tmod a0 3 = a0 % 3 := Int.tmod_eq_emod_of_nonneg h0
  have hw : IntKind.i64.wrap (a0 % 3) = a0 % 3 := by rw [IntKind.wrap_i64]; omega
  have hv : IntKind.u8.wrap (a0 % 3) = a0 % 3 := by rw [IntKind.wrap_u8]; omega
  rcases hm with hm | hm | hm
  all_goals
    rw [hm] at ht hw hv
    replace hm := Aside0.mk hm
    go_enter Try.func3, Try.ntmps3
    go_wp2_with fail
    refine (laws_zzFits2.calls k1 _ _ l1 true _ hr1.out hc1.out f1.out).mono ?_
    rintro e w1 ⟨rfl, hBn⟩
    have hB := Aside0.mk hBn
    clear hBn
    go_wp2_with fail
    (first
      | (with_reducible refine (ends_0 _ _ _ _ (Kd.C_below hr1.out hB.out) (by have := hn.out; omega) ho.out).mono ?_)
      | (with_reducible refine (ends_1 _ _ _ _ (Kd.C_below hr1.out hB.out) (by have := hn.out; omega) ho.out).mono ?_)
      | (with_reducible refine (ends_2 _ _ _ _ (Kd.C_below hr1.out hB.out) (by have := hn.out; omega) ho.out).mono ?_))
    rintro e w2 ⟨rfl, hBn⟩
    have hB := Aside0.mk (below_then hB.out hB.out.size hBn)
    clear hBn
    go_wp2_with fail
    go_ret
    exact ⟨rfl, hB.out⟩
def laws_FnLabelEnds.f (a0 : Int) (l1 : List S28) : Option Bool := if 0 ≤ a0 ∧ a0 ≤ 255 ∧ Ok l1 then some true else none
theorem laws_FnLabelEnds.calls (a0 : Int) (A1 : Option Addr) (c1 : Nat) (l1 : List S28) (r : Bool) (w : World) (hr1 : Kd.C k28 w A1 l1.length l1) (hc1 : l1.length ≤ c1) (h : laws_FnLabelEnds.f a0 l1 = some r) :
    Calls Try.prog 3 #[.int .u8 a0, .slice A1 l1.length c1] w fun e w' => e = .returned (.bool r) ∧ Below w.heap.size w w' := by
  unfold laws_FnLabelEnds.f at h
  split at h
  · rename_i hq
    obtain rfl : true = r := by simpa using h
    exact (law_true a0 A1 c1 l1 w hr1 hc1 hq.1 hq.2.1 hq.2.2).mono (fun _ _ h => h)
  · cases h
end Go.Proofs.Ytkhodhebhjbfpaa.LabG
