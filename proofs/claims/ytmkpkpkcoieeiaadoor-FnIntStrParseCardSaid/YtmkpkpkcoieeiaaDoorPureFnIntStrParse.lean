/- For every text (of at most 2^31 - 1 bytes): what is parsed of it is the number, if the text is a whole number within 32 bits, and else the text itself. -/
import Derived.Test.YtmkpkpkcoieeiaaDoorLFnIntStrParse
import Derived.Test.YtmkpkpkcoieeiaaDoorQFnIntStrParse
namespace Go.Proofs.YtmkpkpkcoieeiaaDoor.Pure
open Go.RowKit Go.Proofs.YtmkpkpkcoieeiaaDoor.XFnIntStrParse Go.Proofs.YtmkpkpkcoieeiaaDoorW.PrintWords Go.Proofs.YtmkpkpkcoieeiaaDoorW.PrintLast Go.Proofs.YtmkpkpkcoieeiaaDoor.EvL Go.Proofs.YtmkpkpkcoieeiaaDoor.Str Go.Proofs.YtmkpkpkcoieeiaaDoor.LFnIntStrParse Go.Proofs.YtmkpkpkcoieeiaaDoor.Num

theorem FnIntStrParse : QFnIntStrParse.Pure := by
  intro s _
  refine Ev.rounds ?_
  unfold laws_FnIntStrParse.f
  by_cases z : (s.size : Int) > 2147483647
  · exact ifp z (Ev.now _)
  · have hs : s.size ≤ 140737488351232 := by omega
    refine ifn z ?_
    have hN := NumWhole_ev s (-2147483648) 2147483647 (by omega) (by omega) (by omega) (by omega) hs
    have hP : ∀ k, impl_IntStrParse.f k s = some (match whole (-2147483648) 2147483647 (L s) with | some v => (0, v, (⟨#[]⟩ : ByteArray)) | none => (1, 0, s)) := by
      intro k
      unfold impl_IntStrParse.f intstr_Parse.f
      rw [if_pos hs]
      rfl
    refine (Ev.congr hP (Ev.now _)).bind (hN.bind ?_)
    cases hw : whole (-2147483648) 2147483647 (L s) with
    | some v =>
      obtain ⟨h0, h1⟩ := whole_bounds hw
      refine ifp rfl (now ?_)
      have e : (wh (some v)).1 = v := rfl
      rw [e, w32 h0 h1]
      simp [toList_L, L_nil]
    | none =>
      refine ifn (by simp [wh]) (now ?_)
      simp

end Go.Proofs.YtmkpkpkcoieeiaaDoor.Pure
