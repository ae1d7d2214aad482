/- For all texts group, version and s (none longer than 2^31 - 1 bytes): what is told of a group and a version without a slash is read as it was; what is read of a text is told as that text, but of a slash alone, or ahead. -/
import Derived.Test.YtehgokciafpnbaaLFnGroupVersionBack
namespace Go.Proofs.Ytehgokciafpnbaa.Pure
open Go.RowKit Go.Proofs.Ytehgokciafpnbaa.XFnGroupVersionBack Go.Proofs.YtehgokciafpnbaaW.PrintWords Go.Proofs.YtehgokciafpnbaaW.PrintLast Go.Proofs.Ytehgokciafpnbaa.EvL Go.Proofs.Ytehgokciafpnbaa.Str Go.Proofs.Ytehgokciafpnbaa.LFnGroupVersionBack

theorem parse_ev (s g v : ByteArray) (ok : Bool) (hs : s.size < 4611686018427387904) (h : Reads s g v ok) : Ev (fun k => impl_GroupVersionParse.f k s) (g, v, (⟨#[]⟩ : ByteArray), ok) := by
  unfold impl_GroupVersionParse.f
  exact (gvp_ev s g v ok hs h).bind (Ev.now _)

theorem text_eq (g v : ByteArray) (hg : g.size < 4611686018427387904) (hv : v.size < 4611686018427387904) : impl_GroupVersionText.f g v = some (gvtext g v) := by
  unfold impl_GroupVersionText.f
  rw [gvString_eq g v hg hv]; rfl

theorem back_j2 (s : ByteArray) (hs : s.size ≤ 2147483647) : Ev (fun k => laws_FnGroupVersionBack.j2 k s) true := by
  obtain ⟨g, v, ok, h⟩ := reads_of s
  have hz := reads_size s g v ok h
  have hsz := size_L s
  refine Ev.step (fun k => laws_FnGroupVersionBack.j2.eq_2 ..) ((parse_ev s g v ok (by omega) h).bind ?_)
  cases ok with
  | false => exact ifn (by simp) (Ev.now _)
  | true =>
    refine ifp rfl ?_
    rw [toList_L]
    by_cases h0 : L s = []
    · refine ifp h0 (cb (text_eq g v (by omega) (by omega)) (now ?_))
      rw [reads_text s g v h (.inl h0), toList_L]; simp
    · have hpos : 0 < (L s).length := List.length_pos_iff.2 h0
      refine ifn h0 (ifp (by omega) ?_)
      have hb := bt_L s 0 hpos
      rw [show ((0 : Nat) : Int) = 0 from rfl] at hb
      rw [hb]
      by_cases h47 : (L s)[0] = 47
      · exact ifp (by rw [h47]; rfl) (Ev.now _)
      · refine ifn (fun e => h47 ((byte_eq (b := 47)).1 e)) (cb (text_eq g v (by omega) (by omega)) (now ?_))
        obtain ⟨c, l, hc⟩ : ∃ c l, L s = c :: l := by cases hl : L s with | nil => exact absurd hl h0 | cons c l => exact ⟨c, l, rfl⟩
        rw [reads_text s g v h (.inr ⟨c, l, hc, by simpa [hc] using h47⟩), toList_L]; simp

theorem FnGroupVersionBack : laws_FnGroupVersionBack.Pure := by
  intro g v s _ _ _
  refine Ev.rounds ?_
  unfold laws_FnGroupVersionBack.f
  have stop : Ev (fun k => laws_FnGroupVersionBack.j0 k g v s true) true := Ev.step (fun k => laws_FnGroupVersionBack.j0.eq_2 ..) (ifp rfl (Ev.now _))
  by_cases h0 : (g.size : Int) > 2147483647
  · exact ifp h0 stop
  · refine ifn h0 ?_
    by_cases h1 : (v.size : Int) > 2147483647
    · exact ifp h1 stop
    · refine ifn h1 ?_
      by_cases h2 : (s.size : Int) > 2147483647
      · rw [decide_eq_true h2]; exact stop
      · rw [decide_eq_false h2]
        have last := back_j2 s (by omega)
        have nope : Ev (fun k => laws_FnGroupVersionBack.j1 k g v s false) true := Ev.step (fun k => laws_FnGroupVersionBack.j1.eq_2 ..) (ifn (by simp) last)
        refine Ev.step (fun k => laws_FnGroupVersionBack.j0.eq_2 ..) (ifn (by simp) ((KindPlain_ev g 47 _ slash (by omega)).bind ?_))
        by_cases hg : 47 ∉ L g
        · refine ifp (by simpa using hg) ((KindPlain_ev v 47 _ slash (by omega)).bind ?_)
          by_cases hv : 47 ∉ L v
          · rw [decide_eq_true hv]
            have hts := gvtext_size g v
            refine Ev.step (fun k => laws_FnGroupVersionBack.j1.eq_2 ..) (ifp rfl (cb (text_eq g v (by omega) (by omega)) ?_))
            refine (parse_ev _ g v true (by omega) (gvtext_reads g v hg hv)).bind (ifp rfl (ifn ?_ last))
            simp [toList_L, L_nil]
          · rw [decide_eq_false hv]; exact nope
        · exact ifn (by simpa using hg) nope

end Go.Proofs.Ytehgokciafpnbaa.Pure
