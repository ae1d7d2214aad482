/- For every kind (none of its texts longer than 2^31 - 1 bytes) whose group and version have no slash: what it is told as is its group, a slash and its version (the version alone, where the group is empty), and its name; and it is read as that kind. -/
import Derived.Test.YtehgokciafpnbabLFnKindTo
import Derived.Test.YtehgokciafpnbabQFnKindTo
namespace Go.Proofs.Ytehgokciafpnbab.Pure
open Go.RowKit Go.Proofs.Ytehgokciafpnbab.XFnKindTo Go.Proofs.YtehgokciafpnbabW.PrintWords Go.Proofs.YtehgokciafpnbabW.PrintLast Go.Proofs.Ytehgokciafpnbab.EvL Go.Proofs.Ytehgokciafpnbab.Str Go.Proofs.Ytehgokciafpnbab.LFnKindTo

theorem specText_eq (g v : ByteArray) (hg : g.size < 4611686018427387904) (hv : v.size < 4611686018427387904) : spec_GroupVersionText.f g v = some (gvtext g v) := by
  unfold spec_GroupVersionText.f gvtext
  have hz := size_L g
  have e1 : (⟨#[47]⟩ : ByteArray).size = 1 := rfl
  by_cases h : L g = []
  · rw [if_pos (by rw [toList_L]; exact h), if_pos h]
  · rw [if_neg (by rw [toList_L]; exact h), if_neg h, if_pos (by omega), if_pos (by rw [ByteArray.size_append]; omega)]

theorem kindTo_eq (g v n : ByteArray) (hg : g.size < 4611686018427387904) (hv : v.size < 4611686018427387904) : impl_KindTo.f g v n = some (gvtext g v, n) := by
  unfold impl_KindTo.f impl_kindOf.f schema_GroupVersionKind_ToAPIVersionAndKind.f schema_GroupVersionKind_GroupVersion.f schema_GroupVersionKind_Empty.f
  simp only [Option.bind_some]
  have hz := size_L g
  have hzv := size_L v
  have hzn := size_L n
  have full : (if (false : Bool) = true then some ((⟨#[]⟩ : ByteArray), (⟨#[]⟩ : ByteArray)) else (schema_GroupVersion_String.f g v).bind fun t => some (t, n)) = some (gvtext g v, n) := by
    rw [if_neg (by simp), gvString_eq g v hg hv]; rfl
  by_cases h0 : (g.size : Int) = 0
  · rw [if_pos h0]
    by_cases h1 : (v.size : Int) = 0
    · rw [if_pos h1]
      by_cases h2 : (n.size : Int) = 0
      · have e0 : g = ⟨#[]⟩ := L_inj (by rw [L_nil]; exact List.eq_nil_of_length_eq_zero (by omega))
        have e1 : v = ⟨#[]⟩ := L_inj (by rw [L_nil]; exact List.eq_nil_of_length_eq_zero (by omega))
        have e2 : n = ⟨#[]⟩ := L_inj (by rw [L_nil]; exact List.eq_nil_of_length_eq_zero (by omega))
        subst e0 e1 e2
        rfl
      · rw [beq_eq_false_iff_ne.mpr h2]
        simp only [Option.bind_some]
        rw [full]; rfl
    · rw [if_neg h1]
      simp only [Option.bind_some]
      rw [full]; rfl
  · rw [if_neg h0]
    simp only [Option.bind_some]
    rw [full]; rfl

theorem kindOf_ev (s n g v : ByteArray) (hs : s.size < 4611686018427387904) (h : Reads s g v true) : Ev (fun k => impl_KindOf.f k s n) (g, v, n) := by
  unfold impl_KindOf.f schema_FromAPIVersionAndKind.f
  exact ((gvp_ev s g v true hs h).bind (ifp rfl (Ev.now _))).bind (Ev.now _)

theorem FnKindTo : QFnKindTo.Pure := by
  rintro ⟨g, v, n⟩ _
  refine Ev.rounds ?_
  unfold laws_FnKindTo.f
  by_cases hf : g.size ≤ 2147483647 ∧ v.size ≤ 2147483647 ∧ n.size ≤ 2147483647
  · obtain ⟨hg, hv, hn⟩ := hf
    have hfit : laws_zzFits8.f g v n = some true := by
      unfold laws_zzFits8.f
      rw [if_neg (by omega), if_neg (by omega), if_neg (by omega)]
    refine cb hfit (ifp rfl (cb (kindTo_eq g v n (by omega) (by omega)) ((KindPlain_ev g 47 _ slash (by omega)).bind ?_)))
    have stop : Ev (fun k => laws_FnKindTo.j0 k (gvtext g v) n true g v n) true := Ev.step (fun k => laws_FnKindTo.j0.eq_2 ..) (ifp rfl (Ev.now _))
    by_cases h1 : 47 ∉ L g
    · refine ifp (by simpa using h1) ((KindPlain_ev v 47 _ slash (by omega)).bind ?_)
      by_cases h2 : 47 ∉ L v
      · rw [decide_eq_true h2]
        have hts := gvtext_size g v
        refine Ev.step (fun k => laws_FnKindTo.j0.eq_2 ..) (ifn (by simp) (cb (specText_eq g v (by omega) (by omega)) (ifp rfl (ifp rfl ?_))))
        refine (kindOf_ev _ n g v (by omega) (gvtext_reads g v h1 h2)).bind (now ?_)
        simp
      · rw [decide_eq_false h2]; exact stop
    · exact ifn (by simpa using h1) stop
  · have hfit : laws_zzFits8.f g v n = some false := by
      unfold laws_zzFits8.f
      split
      · rfl
      · split
        · rfl
        · split
          · rfl
          · exact absurd ⟨by omega, by omega, by omega⟩ hf
    exact cb hfit (ifn (by simp) (Ev.now _))

end Go.Proofs.Ytehgokciafpnbab.Pure
