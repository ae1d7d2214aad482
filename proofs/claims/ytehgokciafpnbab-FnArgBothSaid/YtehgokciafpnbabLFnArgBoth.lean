/- The functions on names and their points, as lists of bytes. -/
import Derived.Test.YtehgokciafpnbabXFnArgBothx
import Derived.Test.YtehgokciafpnbabStr
namespace Go.Proofs.Ytehgokciafpnbab.LFnArgBoth
open Go.RowKit Go.Proofs.Ytehgokciafpnbab.XFnArgBoth Go.Proofs.YtehgokciafpnbabW.PrintWords Go.Proofs.YtehgokciafpnbabW.PrintLast Go.Proofs.YtehgokciafpnbabW.PrintMore Go.Proofs.Ytehgokciafpnbab.EvL Go.Proofs.Ytehgokciafpnbab.Str

theorem verPlace_l0 (s : ByteArray) (c : UInt8) (hs : s.size < 4611686018427387904) (n : Nat) : ∀ i : Nat, (L s).length - i = n → i ≤ (L s).length →
    Ev (fun k => spec_verPlace.l0 k s (c.toNat : Int) i) (if place ((L s).drop i) c = -1 then -1 else i + place ((L s).drop i) c) := by
  have hz := size_L s
  induction n with
  | zero =>
    intro i hn hi
    refine Ev.step (fun k => spec_verPlace.l0.eq_2 ..) (ifn (by omega) (now ?_))
    rw [List.drop_eq_nil_of_le (by omega), place_neg (by simp), if_pos rfl]
  | succ n ih =>
    intro i hn hi
    have hlt : i < (L s).length := by omega
    refine Ev.step (fun k => spec_verPlace.l0.eq_2 ..) (ifp (by omega) (ifp (by omega) ?_))
    rw [bt_L s i hlt, w64 (x := (i : Int) + 1) (by omega) (by omega), List.drop_eq_getElem_cons hlt, place_cons]
    by_cases h : (L s)[i] = c
    · refine ifp (byte_eq.2 h) (now ?_)
      rw [if_pos h, if_neg (by omega)]; omega
    · refine ifn (fun e => h (byte_eq.1 e)) ?_
      have := ih (i + 1) (by omega) (by omega)
      rw [if_neg h]
      rw [place_shift i _ (place_ge _ _)]
      exact this

/-- The first place of a byte. -/
theorem verPlace_ev (s : ByteArray) (c : UInt8) (hs : s.size < 4611686018427387904) : Ev (fun k => spec_verPlace.f k s (c.toNat : Int)) (place (L s) c) := by
  unfold spec_verPlace.f
  have := verPlace_l0 s c hs _ 0 rfl (by omega)
  simp only [List.drop_zero] at this
  have e : (if place (L s) c = -1 then (-1 : Int) else ((0 : Nat) : Int) + place (L s) c) = place (L s) c := by split <;> simp_all
  rw [e] at this
  exact this

theorem zzIndex_l0 (s : ByteArray) (c : UInt8) (t : ByteArray) (ht : L t = [c]) (hs : s.size < 4611686018427387904) (n : Nat) : ∀ i : Nat, (L s).length - i = n → i ≤ (L s).length →
    Ev (fun k => schema_zzIndex.l0 k s t i) (if place ((L s).drop i) c = -1 then -1 else i + place ((L s).drop i) c) := by
  have hz := size_L s
  have htz : t.size = 1 := by rw [size_L, ht]; rfl
  induction n with
  | zero =>
    intro i hn hi
    refine Ev.step (fun k => schema_zzIndex.l0.eq_2 ..) ?_
    rw [htz, w64 (x := (i : Int) + ((1 : Nat) : Int)) (by omega) (by omega)]
    refine ifn (by omega) (now ?_)
    rw [List.drop_eq_nil_of_le (by omega), place_neg (by simp), if_pos rfl]
  | succ n ih =>
    intro i hn hi
    have hlt : i < (L s).length := by omega
    refine Ev.step (fun k => schema_zzIndex.l0.eq_2 ..) ?_
    rw [htz, w64 (x := (i : Int) + ((1 : Nat) : Int)) (by omega) (by omega), w64 (x := (i : Int) + 1) (by omega) (by omega)]
    refine ifp (by omega) (ifp (by omega) (ifp (by omega) ?_))
    have hcut : (s.extract ((i : Int)).toNat (((i : Int) + ((1 : Nat) : Int))).toNat).toList = [(L s)[i]] := by
      rw [toList_L, L_extract, show ((i : Int)).toNat = i from by omega, show ((i : Int) + ((1 : Nat) : Int)).toNat - i = 1 from by omega, List.drop_eq_getElem_cons hlt]; rfl
    rw [hcut, toList_L, ht, List.drop_eq_getElem_cons hlt, place_cons]
    by_cases h : (L s)[i] = c
    · refine ifp (by rw [h]) (now ?_)
      rw [if_pos h, if_neg (by omega)]; omega
    · refine ifn (by simpa using h) ?_
      have := ih (i + 1) (by omega) (by omega)
      rw [if_neg h]
      rw [place_shift i _ (place_ge _ _)]
      exact this

/-- The first place of a text of one byte. -/
theorem zzIndex_ev (s : ByteArray) (c : UInt8) (t : ByteArray) (ht : L t = [c]) (hs : s.size < 4611686018427387904) : Ev (fun k => schema_zzIndex.f k s t) (place (L s) c) := by
  unfold schema_zzIndex.f
  have := zzIndex_l0 s c t ht hs _ 0 rfl (by omega)
  simp only [List.drop_zero] at this
  have e : (if place (L s) c = -1 then (-1 : Int) else ((0 : Nat) : Int) + place (L s) c) = place (L s) c := by split <;> simp_all
  rw [e] at this
  exact this

/-- Whether a text has none of one byte. -/
theorem KindPlain_ev (s : ByteArray) (c : UInt8) (t : ByteArray) (ht : L t = [c]) (hs : s.size < 4611686018427387904) : Ev (fun k => spec_KindPlain.f k s t) (decide (c ∉ L s)) := by
  have htz : t.size = 1 := by rw [size_L, ht]; rfl
  have hb : bt t 0 = (c.toNat : Int) := by
    have := bt_L t 0 (by rw [ht]; simp)
    simp only [ht] at this
    exact this
  unfold spec_KindPlain.f
  refine Ev.step (fun k => spec_KindPlain.l0.eq_2 ..) (ifp (by omega) (ifp (by omega) ?_))
  rw [hb, w64 (x := (0 : Int) + 1) (by omega) (by omega)]
  refine (verPlace_ev s c hs).bind ?_
  rcases place_cases (L s) c with ⟨hn, hp⟩ | ⟨a, b, e, hn, hp⟩
  · rw [hp]
    refine ifn (by omega) (Ev.step (fun k => spec_KindPlain.l0.eq_2 ..) (ifn (by omega) (now ?_)))
    simp [hn]
  · rw [hp]
    refine ifp (by omega) (now ?_)
    simp [e]

theorem zzCount_l1 (s : ByteArray) (c : UInt8) (t : ByteArray) (ht : L t = [c]) (hs : s.size < 4611686018427387904) (n : Nat) : ∀ (i m : Nat), (L s).length - i = n → i ≤ (L s).length → m ≤ i →
    Ev (fun k => schema_zzCount.l1 k s t m i) (((m + ((L s).drop i).count c : Nat)) : Int) := by
  have hz := size_L s
  have htz : t.size = 1 := by rw [size_L, ht]; rfl
  induction n with
  | zero =>
    intro i m hn hi hm
    refine Ev.step (fun k => schema_zzCount.l1.eq_2 ..) ?_
    rw [htz, w64 (x := (i : Int) + ((1 : Nat) : Int)) (by omega) (by omega)]
    refine ifn (by omega) (now ?_)
    rw [List.drop_eq_nil_of_le (by omega)]; simp
  | succ n ih =>
    intro i m hn hi hm
    have hlt : i < (L s).length := by omega
    refine Ev.step (fun k => schema_zzCount.l1.eq_2 ..) ?_
    rw [htz, w64 (x := (i : Int) + ((1 : Nat) : Int)) (by omega) (by omega), w64 (x := (i : Int) + 1) (by omega) (by omega), w64 (x := (m : Int) + 1) (by omega) (by omega)]
    refine ifp (by omega) (ifp (by omega) (ifp (by omega) ?_))
    have hcut : (s.extract ((i : Int)).toNat (((i : Int) + ((1 : Nat) : Int))).toNat).toList = [(L s)[i]] := by
      rw [toList_L, L_extract, show ((i : Int)).toNat = i from by omega, show ((i : Int) + ((1 : Nat) : Int)).toNat - i = 1 from by omega, List.drop_eq_getElem_cons hlt]; rfl
    rw [hcut, toList_L, ht, List.drop_eq_getElem_cons hlt, List.count_cons]
    by_cases h : (L s)[i] = c
    · refine ifp (by rw [h]) ?_
      have := ih (i + 1) (m + 1) (by omega) (by omega) (by omega)
      rw [show ((L s)[i] == c) = true from by simpa using h]
      rw [show m + 1 + ((L s).drop (i + 1)).count c = m + (((L s).drop (i + 1)).count c + if true = true then 1 else 0) from by simp; omega] at this
      exact this
    · refine ifn (by simpa using h) ?_
      have := ih (i + 1) m (by omega) (by omega) (by omega)
      rw [show ((L s)[i] == c) = false from by simpa using h]
      simpa using this

/-- How often a text of one byte stands in a text. -/
theorem zzCount_ev (s : ByteArray) (c : UInt8) (t : ByteArray) (ht : L t = [c]) (hs : s.size < 4611686018427387904) : Ev (fun k => schema_zzCount.f k s t) ((((L s).count c : Nat)) : Int) := by
  have htz : t.size = 1 := by rw [size_L, ht]; rfl
  unfold schema_zzCount.f
  refine ifn (by omega) ?_
  have := zzCount_l1 s c t ht hs _ 0 0 rfl (by omega) (by omega)
  simpa using this


end Go.Proofs.Ytehgokciafpnbab.LFnArgBoth
