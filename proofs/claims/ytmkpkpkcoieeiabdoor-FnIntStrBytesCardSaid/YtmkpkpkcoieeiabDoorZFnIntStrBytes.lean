/- The law of a value's bytes: it answers true, whatever the value. -/
import Derived.Test.YtmkpkpkcoieeiabDoorIsL
set_option linter.unusedVariables false
namespace Go.Proofs.YtmkpkpkcoieeiabDoor.ZFnIntStrBytes
open Go.RowKit Go.Proofs.YtmkpkpkcoieeiabDoorW.PrintWords Go.Proofs.YtmkpkpkcoieeiabDoorW.PrintLast Go.Proofs.YtmkpkpkcoieeiabDoor.IsF Go.Proofs.YtmkpkpkcoieeiabDoor.XIs
/-- The numbers are of their kinds. -/
def Bd (t i : Int) : Prop := -9223372036854775808 ≤ t ∧ t ≤ 9223372036854775807 ∧ -2147483648 ≤ i ∧ i ≤ 2147483647
instance (t i : Int) : Decidable (Bd t i) := by unfold Bd; infer_instance
def laws_FnIntStrBytes.f (a0_0 : Int) (a0_1 : Int) (a0_2 : ByteArray) : Option Bool := if Bd a0_0 a0_1 then some true else none
theorem big (t i : Int) (S : ByteArray) (w : World) (h : 2147483647 < S.size) :
    Calls Tryd.prog 6 #[.agg #[.int .i64 t, .int .i32 i, .string S]] w fun e w' => e = .returned (.bool true) ∧ Below w.heap.size w w' := by
  have hz := Aside0.mk (fun W => laws_zzFits5.calls t i S false W (by unfold laws_zzFits5.f; rw [if_pos (by omega)]))
  clear h
  go_enter Tryd.func6, Tryd.ntmps6
  go_wp2_with fail
  refine (hz.out _).mono ?_
  rintro e w1 ⟨rfl, hB1⟩
  have hB1 := Aside0.mk (below_then (below_alloc (Below.refl w.heap.size w) (.cells #[.int .i64 t, .int .i32 i, .string S] 34)) (by rw [World.size_alloc]; omega) hB1)
  go_wp2_with fail
  go_ret
  exact ⟨rfl, hB1.out⟩
theorem laws_FnIntStrBytes.calls (a0_0 : Int) (a0_1 : Int) (a0_2 : ByteArray) (r : Bool) (w : World) (h : laws_FnIntStrBytes.f a0_0 a0_1 a0_2 = some r) (hV : Vars.Vars w) :
    Calls Tryd.prog 6 #[.agg #[.int .i64 a0_0, .int .i32 a0_1, .string a0_2]] w fun e w' => e = .returned (.bool r) ∧ Below w.heap.size w w' := by
  unfold laws_FnIntStrBytes.f at h
  split at h
  · rename_i hb
    obtain rfl := Option.some.inj h
    by_cases hs : 2147483647 < a0_2.size
    · exact big a0_0 a0_1 a0_2 w hs
    · exact IsL.bytes_in a0_0 a0_1 a0_2 w ⟨hb.1, hb.2.1, hb.2.2.1, hb.2.2.2, by omega⟩ hV
  · cases h
end Go.Proofs.YtmkpkpkcoieeiabDoor.ZFnIntStrBytes
