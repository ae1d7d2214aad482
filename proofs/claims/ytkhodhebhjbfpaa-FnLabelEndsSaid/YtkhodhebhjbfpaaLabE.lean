/- FnLabelEnds walked: selectors of no requirement. -/
import Derived.Test.YtkhodhebhjbfpaaLabS
import Derived.WalkSpells
import Derived.Deep.RegionWith
import Derived.Deep.RegionHeld3
import Derived.Outline
set_option linter.unusedSimpArgs false
set_option linter.unusedVariables false
namespace Go.Proofs.Ytkhodhebhjbfpaa.LabE
open Go.RowKit Go.Maps Go.Proofs.YtkhodhebhjbfpaaW.PrintWords Go.Proofs.YtkhodhebhjbfpaaW.PrintLast Go.Proofs.Ytkhodhebhjbfpaa.EvL Go.Proofs.Ytkhodhebhjbfpaa.SetGen Go.Proofs.Ytkhodhebhjbfpaa.MapGen Go.Proofs.Ytkhodhebhjbfpaa.XFnLabelEnds Go.Proofs.Ytkhodhebhjbfpaa.LabS
abbrev SN : Value := .iface 40 (.slice none 0 0)
abbrev SV (b : Nat) : Value := .iface 40 (.slice (some ⟨b, 0, none⟩) 0 0)
abbrev S0 : Value := .iface 42 (.agg #[])
theorem new_calls (w : World) : Calls Try.prog 7 #[] w fun e w' => e = .returned SN ∧ w = w' := by
  go_enter Try.func7, Try.ntmps7
  go_wp2_with fail
  go_ret
  exact ⟨rfl, rfl⟩
theorem every_calls (w : World) : Calls Try.prog 8 #[] w fun e w' => e = .returned (SV w.heap.size) ∧ Below w.heap.size w w' := by
  go_enter Try.func8, Try.ntmps8
  go_wp2_with fail
  go_ret
  exact ⟨rfl, below_alloc (Below.refl _ _) _⟩
theorem nothing_calls (w : World) : Calls Try.prog 9 #[] w fun e w' => e = .returned S0 ∧ Below w.heap.size w w' := by
  go_enter Try.func9, Try.ntmps9
  go_wp2_with fail
  go_ret
  exact ⟨rfl, Below.refl _ _⟩
theorem eq_N (w : World) : (binOp .eql 31 SN S0).run Try.prog w = .ok (.bool false) w := by kernel_rfl
theorem eq_V (b : Nat) (w : World) : (binOp .eql 31 (SV b) S0).run Try.prog w = .ok (.bool false) w := by kernel_rfl
theorem eq_0 (w : World) : (binOp .eql 31 S0 S0).run Try.prog w = .ok (.bool true) w := by kernel_rfl
theorem mn_N (w : World) : Calls Try.prog 11 #[SN] w fun e w' => e = .returned (.bool false) ∧ Below w.heap.size w w' := by
  have he := eq_N
  go_enter Try.func11, Try.ntmps11
  go_wp2_with fail
  go_ret
  exact ⟨rfl, Below.refl _ _⟩
theorem mn_V (b : Nat) (w : World) : Calls Try.prog 11 #[SV b] w fun e w' => e = .returned (.bool false) ∧ Below w.heap.size w w' := by
  have he := eq_V b
  go_enter Try.func11, Try.ntmps11
  go_wp2_with fail
  go_ret
  exact ⟨rfl, Below.refl _ _⟩
theorem mn_0 (w : World) : Calls Try.prog 11 #[S0] w fun e w' => e = .returned (.bool true) ∧ Below w.heap.size w w' := by
  have he := eq_0
  go_enter Try.func11, Try.ntmps11
  go_wp2_with fail
  go_ret
  exact ⟨rfl, Below.refl _ _⟩
theorem empty_N (w : World) : Calls Try.prog 30 #[.slice none 0 0] w fun e w' => e = .returned (.bool true) ∧ Below w.heap.size w w' := by
  have hn := @Lib.run_eql_slice_nil Try.prog
  go_enter Try.func30, Try.ntmps30
  go_wp2_with fail
  go_ret
  exact ⟨rfl, Below.refl _ _⟩
theorem empty_V (b : Nat) (w : World) : Calls Try.prog 30 #[.slice (some ⟨b, 0, none⟩) 0 0] w fun e w' => e = .returned (.bool true) ∧ Below w.heap.size w w' := by
  have hn := @Lib.run_eql_slice_nil Try.prog
  go_enter Try.func30, Try.ntmps30
  go_wp2_with fail
  go_ret
  exact ⟨rfl, Below.refl _ _⟩
theorem empty_0 (w : World) : Calls Try.prog 65 #[.agg #[]] w fun e w' => e = .returned (.bool false) ∧ Below w.heap.size w w' := by
  go_enter Try.func65, Try.ntmps65
  go_wp2_with fail
  go_ret
  exact ⟨rfl, below_alloc (Below.refl _ _) _⟩
theorem matches_0 (v : Value) (w : World) : Calls Try.prog 66 #[.agg #[], v] w fun e w' => e = .returned (.bool false) ∧ Below w.heap.size w w' := by
  go_enter Try.func66, Try.ntmps66
  go_wp2_with fail
  go_ret
  exact ⟨rfl, below_alloc (Below.refl _ _) _⟩
theorem matches_N (A : Option Addr) (v : Value) (w : World) : Calls Try.prog 31 #[.slice A 0 0, v] w fun e w' => e = .returned (.bool true) ∧ Below w.heap.size w w' := by
  go_enter Try.func31, Try.ntmps31
  go_wp2_with fail
  go_loop [9] (fun i => i = .int .i64 0) (fun _ => 0)
  case atStart => rfl
  case round =>
    subst hrel
    go_wp2_with fail
    go_ret
    exact ⟨rfl, Below.refl _ _⟩
theorem na_Matches_N (A : Option Addr) (w : World) : Sem.run Try.prog (nilAhead 212 40 (.slice A 0 0) "Matches") w = .ok (some false) w := by kernel_rfl
theorem me_Matches_N (A : Option Addr) (w : World) : Sem.run Try.prog (method 212 40 (.slice A 0 0) "Matches") w = .ok (31, .slice A 0 0) w := by kernel_rfl
theorem na_Empty_N (A : Option Addr) (w : World) : Sem.run Try.prog (nilAhead 212 40 (.slice A 0 0) "Empty") w = .ok (some false) w := by kernel_rfl
theorem me_Empty_N (A : Option Addr) (w : World) : Sem.run Try.prog (method 212 40 (.slice A 0 0) "Empty") w = .ok (30, .slice A 0 0) w := by kernel_rfl
theorem na_Matches_0 (w : World) : Sem.run Try.prog (nilAhead 212 42 (.agg #[]) "Matches") w = .ok (some false) w := by kernel_rfl
theorem me_Matches_0 (w : World) : Sem.run Try.prog (method 212 42 (.agg #[]) "Matches") w = .ok (66, .agg #[]) w := by kernel_rfl
theorem na_Empty_0 (w : World) : Sem.run Try.prog (nilAhead 212 42 (.agg #[]) "Empty") w = .ok (some false) w := by kernel_rfl
theorem me_Empty_0 (w : World) : Sem.run Try.prog (method 212 42 (.agg #[]) "Empty") w = .ok (65, .agg #[]) w := by kernel_rfl
end Go.Proofs.Ytkhodhebhjbfpaa.LabE
