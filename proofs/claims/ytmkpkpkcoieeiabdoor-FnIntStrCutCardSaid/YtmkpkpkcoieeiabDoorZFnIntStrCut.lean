/- The law of a value's bytes that are cut: it answers true, whatever the value and the cut. -/
import Derived.Test.YtmkpkpkcoieeiabDoorIsC
set_option linter.unusedVariables false
namespace Go.Proofs.YtmkpkpkcoieeiabDoor.ZFnIntStrCut
open Go.RowKit Go.Proofs.YtmkpkpkcoieeiabDoorW.PrintWords Go.Proofs.YtmkpkpkcoieeiabDoorW.PrintLast Go.Proofs.YtmkpkpkcoieeiabDoor.IsF Go.Proofs.YtmkpkpkcoieeiabDoor.XIs
/-- The numbers are of their kinds. -/
def Bd (t i c : Int) : Prop := -9223372036854775808 ≤ t ∧ t ≤ 9223372036854775807 ∧ -2147483648 ≤ i ∧ i ≤ 2147483647 ∧ 0 ≤ c ∧ c ≤ 255
instance (t i c : Int) : Decidable (Bd t i c) := by unfold Bd; infer_instance
def laws_FnIntStrCut.f (a0_0 : Int) (a0_1 : Int) (a0_2 : ByteArray) (a1 : Int) : Option Bool := if Bd a0_0 a0_1 a1 then some true else none
theorem big (t i c : Int) (S : ByteArray) (w : World) (h : 2147483647 < S.size) :
    Calls Tryd.prog 7 #[.agg #[.int .i64 t, .int .i32 i, .string S], .int .u8 c] w fun e w' => e = .returned (.bool true) ∧ Below w.heap.size w w' := by
  have hz := Aside0.mk (fun W => laws_zzFits5.calls t i S false W (by unfold laws_zzFits5.f; rw [if_pos (by omega)]))
  clear h
  go_enter Tryd.func7, Tryd.ntmps7
  go_wp2_with fail
  refine (hz.out _).mono ?_
  rintro e w1 ⟨rfl, hB1⟩
  have hB1 := Aside0.mk (below_then (below_alloc (Below.refl w.heap.size w) (.cells #[.int .i64 t, .int .i32 i, .string S] 34)) (by rw [World.size_alloc]; omega) hB1)
  go_wp2_with fail
  go_ret
  exact ⟨rfl, hB1.out⟩
theorem laws_FnIntStrCut.calls (a0_0 : Int) (a0_1 : Int) (a0_2 : ByteArray) (a1 : Int) (r : Bool) (w : World) (h : laws_FnIntStrCut.f a0_0 a0_1 a0_2 a1 = some r) (hV : Vars.Vars w) :
    Calls Tryd.prog 7 #[.agg #[.int .i64 a0_0, .int .i32 a0_1, .string a0_2], .int .u8 a1] w fun e w' => e = .returned (.bool r) ∧ Below w.heap.size w w' := by
  unfold laws_FnIntStrCut.f at h
  split at h
  · rename_i hb
    obtain ⟨b1, b2, b3, b4, b5, b6⟩ := hb
    obtain rfl := Option.some.inj h
    by_cases hs : 2147483647 < a0_2.size
    · exact big a0_0 a0_1 a1 a0_2 w hs
    · have := IsC.cut_in a0_0 a0_1 a0_2 a1.toNat w ⟨b1, b2, b3, b4, by omega⟩ (by omega) hV
      rwa [show ((a1.toNat : Nat) : Int) = a1 by omega] at this
  · cases h
end Go.Proofs.YtmkpkpkcoieeiabDoor.ZFnIntStrCut
