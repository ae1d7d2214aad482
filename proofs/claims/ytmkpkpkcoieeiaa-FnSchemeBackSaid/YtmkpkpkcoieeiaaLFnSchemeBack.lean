/- The functions on names and their points, as lists of bytes. -/
import Derived.Test.YtmkpkpkcoieeiaaXFnSchemeBackx
import Derived.Test.YtmkpkpkcoieeiaaStr
namespace Go.Proofs.Ytmkpkpkcoieeiaa.LFnSchemeBack
open Go.RowKit Go.Proofs.Ytmkpkpkcoieeiaa.XFnSchemeBack Go.Proofs.YtmkpkpkcoieeiaaW.PrintWords Go.Proofs.YtmkpkpkcoieeiaaW.PrintLast Go.Proofs.YtmkpkpkcoieeiaaW.PrintMore Go.Proofs.Ytmkpkpkcoieeiaa.EvL Go.Proofs.Ytmkpkpkcoieeiaa.Str


theorem zzIndex_l0 (s : ByteArray) (c : UInt8) (t : ByteArray) (ht : L t = [c]) (hs : s.size < 4611686018427387904) (n : Nat) : ∀ i : Nat, (L s).length - i = n → i ≤ (L s).length →
    Ev (fun k => net_zzIndex.l0 k s t i) (if place ((L s).drop i) c = -1 then -1 else i + place ((L s).drop i) c) := by
  have hz := size_L s
  have htz : t.size = 1 := by rw [size_L, ht]; rfl
  induction n with
  | zero =>
    intro i hn hi
    refine Ev.step (fun k => net_zzIndex.l0.eq_2 ..) ?_
    rw [htz, w64 (x := (i : Int) + ((1 : Nat) : Int)) (by omega) (by omega)]
    refine ifn (by omega) (now ?_)
    rw [List.drop_eq_nil_of_le (by omega), place_neg (by simp), if_pos rfl]
  | succ n ih =>
    intro i hn hi
    have hlt : i < (L s).length := by omega
    refine Ev.step (fun k => net_zzIndex.l0.eq_2 ..) ?_
    rw [htz, w64 (x := (i : Int) + ((1 : Nat) : Int)) (by omega) (by omega), w64 (x := (i : Int) + 1) (by omega) (by omega)]
    refine ifp (by omega) (ifp (by omega) (ifp (by omega) ?_))
    have hcut : (s.extract ((i : Int)).toNat (((i : Int) + ((1 : Nat) : Int))).toNat).toList = [(L s)[i]] := by
      rw [toList_L, L_extract, show ((i : Int)).toNat = i from by omega, show ((i : Int) + ((1 : Nat) : Int)).toNat - i = 1 from by omega, List.drop_eq_getElem_cons hlt]; rfl
    rw [hcut, toList_L, ht, List.drop_eq_getElem_cons hlt, place_cons]
    by_cases h : (L s)[i] = c
    · refine ifp (by rw [h]) (now ?_)
      rw [if_pos h, if_neg (by omega)]; omega
    · refine ifn (by simpa using h) ?_
      have := ih (i + 1) (by omega) (by omega)
      rw [if_neg h]
      rw [place_shift i _ (place_ge _ _)]
      exact this

/-- The first place of a text of one byte. -/
theorem zzIndex_ev (s : ByteArray) (c : UInt8) (t : ByteArray) (ht : L t = [c]) (hs : s.size < 4611686018427387904) : Ev (fun k => net_zzIndex.f k s t) (place (L s) c) := by
  unfold net_zzIndex.f
  have := zzIndex_l0 s c t ht hs _ 0 rfl (by omega)
  simp only [List.drop_zero] at this
  have e : (if place (L s) c = -1 then (-1 : Int) else ((0 : Nat) : Int) + place (L s) c) = place (L s) c := by split <;> simp_all
  rw [e] at this
  exact this




end Go.Proofs.Ytmkpkpkcoieeiaa.LFnSchemeBack
