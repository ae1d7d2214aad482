/- The functions on names and their points, as lists of bytes. -/
import Derived.Test.YtehgokciafpnbabXFnKindTox
import Derived.Test.YtehgokciafpnbabStr
namespace Go.Proofs.Ytehgokciafpnbab.LFnKindTo
open Go.RowKit Go.Proofs.Ytehgokciafpnbab.XFnKindTo Go.Proofs.YtehgokciafpnbabW.PrintWords Go.Proofs.YtehgokciafpnbabW.PrintLast Go.Proofs.YtehgokciafpnbabW.PrintMore Go.Proofs.Ytehgokciafpnbab.EvL Go.Proofs.Ytehgokciafpnbab.Str

theorem verPlace_l0 (s : ByteArray) (c : UInt8) (hs : s.size < 4611686018427387904) (n : Nat) : ∀ i : Nat, (L s).length - i = n → i ≤ (L s).length →
    Ev (fun k => spec_verPlace.l0 k s (c.toNat : Int) i) (if place ((L s).drop i) c = -1 then -1 else i + place ((L s).drop i) c) := by
  have hz := size_L s
  induction n with
  | zero =>
    intro i hn hi
    refine Ev.step (fun k => spec_verPlace.l0.eq_2 ..) (ifn (by omega) (now ?_))
    rw [List.drop_eq_nil_of_le (by omega), place_neg (by simp), if_pos rfl]
  | succ n ih =>
    intro i hn hi
    have hlt : i < (L s).length := by omega
    refine Ev.step (fun k => spec_verPlace.l0.eq_2 ..) (ifp (by omega) (ifp (by omega) ?_))
    rw [bt_L s i hlt, w64 (x := (i : Int) + 1) (by omega) (by omega), List.drop_eq_getElem_cons hlt, place_cons]
    by_cases h : (L s)[i] = c
    · refine ifp (byte_eq.2 h) (now ?_)
      rw [if_pos h, if_neg (by omega)]; omega
    · refine ifn (fun e => h (byte_eq.1 e)) ?_
      have := ih (i + 1) (by omega) (by omega)
      rw [if_neg h]
      rw [place_shift i _ (place_ge _ _)]
      exact this

/-- The first place of a byte. -/
theorem verPlace_ev (s : ByteArray) (c : UInt8) (hs : s.size < 4611686018427387904) : Ev (fun k => spec_verPlace.f k s (c.toNat : Int)) (place (L s) c) := by
  unfold spec_verPlace.f
  have := verPlace_l0 s c hs _ 0 rfl (by omega)
  simp only [List.drop_zero] at this
  have e : (if place (L s) c = -1 then (-1 : Int) else ((0 : Nat) : Int) + place (L s) c) = place (L s) c := by split <;> simp_all
  rw [e] at this
  exact this

theorem zzIndex_l0 (s : ByteArray) (c : UInt8) (t : ByteArray) (ht : L t = [c]) (hs : s.size < 4611686018427387904) (n : Nat) : ∀ i : Nat, (L s).length - i = n → i ≤ (L s).length →
    Ev (fun k => schema_zzIndex.l0 k s t i) (if place ((L s).drop i) c = -1 then -1 else i + place ((L s).drop i) c) := by
  have hz := size_L s
  have htz : t.size = 1 := by rw [size_L, ht]; rfl
  induction n with
  | zero =>
    intro i hn hi
    refine Ev.step (fun k => schema_zzIndex.l0.eq_2 ..) ?_
    rw [htz, w64 (x := (i : Int) + ((1 : Nat) : Int)) (by omega) (by omega)]
    refine ifn (by omega) (now ?_)
    rw [List.drop_eq_nil_of_le (by omega), place_neg (by simp), if_pos rfl]
  | succ n ih =>
    intro i hn hi
    have hlt : i < (L s).length := by omega
    refine Ev.step (fun k => schema_zzIndex.l0.eq_2 ..) ?_
    rw [htz, w64 (x := (i : Int) + ((1 : Nat) : Int)) (by omega) (by omega), w64 (x := (i : Int) + 1) (by omega) (by omega)]
    refine ifp (by omega) (ifp (by omega) (ifp (by omega) ?_))
    have hcut : (s.extract ((i : Int)).toNat (((i : Int) + ((1 : Nat) : Int))).toNat).toList = [(L s)[i]] := by
      rw [toList_L, L_extract, show ((i : Int)).toNat = i from by omega, show ((i : Int) + ((1 : Nat) : Int)).toNat - i = 1 from by omega, List.drop_eq_getElem_cons hlt]; rfl
    rw [hcut, toList_L, ht, List.drop_eq_getElem_cons hlt, place_cons]
    by_cases h : (L s)[i] = c
    · refine ifp (by rw [h]) (now ?_)
      rw [if_pos h, if_neg (by omega)]; omega
    · refine ifn (by simpa using h) ?_
      have := ih (i + 1) (by omega) (by omega)
      rw [if_neg h]
      rw [place_shift i _ (place_ge _ _)]
      exact this

/-- The first place of a text of one byte. -/
theorem zzIndex_ev (s : ByteArray) (c : UInt8) (t : ByteArray) (ht : L t = [c]) (hs : s.size < 4611686018427387904) : Ev (fun k => schema_zzIndex.f k s t) (place (L s) c) := by
  unfold schema_zzIndex.f
  have := zzIndex_l0 s c t ht hs _ 0 rfl (by omega)
  simp only [List.drop_zero] at this
  have e : (if place (L s) c = -1 then (-1 : Int) else ((0 : Nat) : Int) + place (L s) c) = place (L s) c := by split <;> simp_all
  rw [e] at this
  exact this

/-- Whether a text has none of one byte. -/
theorem KindPlain_ev (s : ByteArray) (c : UInt8) (t : ByteArray) (ht : L t = [c]) (hs : s.size < 4611686018427387904) : Ev (fun k => spec_KindPlain.f k s t) (decide (c ∉ L s)) := by
  have htz : t.size = 1 := by rw [size_L, ht]; rfl
  have hb : bt t 0 = (c.toNat : Int) := by
    have := bt_L t 0 (by rw [ht]; simp)
    simp only [ht] at this
    exact this
  unfold spec_KindPlain.f
  refine Ev.step (fun k => spec_KindPlain.l0.eq_2 ..) (ifp (by omega) (ifp (by omega) ?_))
  rw [hb, w64 (x := (0 : Int) + 1) (by omega) (by omega)]
  refine (verPlace_ev s c hs).bind ?_
  rcases place_cases (L s) c with ⟨hn, hp⟩ | ⟨a, b, e, hn, hp⟩
  · rw [hp]
    refine ifn (by omega) (Ev.step (fun k => spec_KindPlain.l0.eq_2 ..) (ifn (by omega) (now ?_)))
    simp [hn]
  · rw [hp]
    refine ifp (by omega) (now ?_)
    simp [e]

theorem zzCount_l1 (s : ByteArray) (c : UInt8) (t : ByteArray) (ht : L t = [c]) (hs : s.size < 4611686018427387904) (n : Nat) : ∀ (i m : Nat), (L s).length - i = n → i ≤ (L s).length → m ≤ i →
    Ev (fun k => schema_zzCount.l1 k s t m i) (((m + ((L s).drop i).count c : Nat)) : Int) := by
  have hz := size_L s
  have htz : t.size = 1 := by rw [size_L, ht]; rfl
  induction n with
  | zero =>
    intro i m hn hi hm
    refine Ev.step (fun k => schema_zzCount.l1.eq_2 ..) ?_
    rw [htz, w64 (x := (i : Int) + ((1 : Nat) : Int)) (by omega) (by omega)]
    refine ifn (by omega) (now ?_)
    rw [List.drop_eq_nil_of_le (by omega)]; simp
  | succ n ih =>
    intro i m hn hi hm
    have hlt : i < (L s).length := by omega
    refine Ev.step (fun k => schema_zzCount.l1.eq_2 ..) ?_
    rw [htz, w64 (x := (i : Int) + ((1 : Nat) : Int)) (by omega) (by omega), w64 (x := (i : Int) + 1) (by omega) (by omega), w64 (x := (m : Int) + 1) (by omega) (by omega)]
    refine ifp (by omega) (ifp (by omega) (ifp (by omega) ?_))
    have hcut : (s.extract ((i : Int)).toNat (((i : Int) + ((1 : Nat) : Int))).toNat).toList = [(L s)[i]] := by
      rw [toList_L, L_extract, show ((i : Int)).toNat = i from by omega, show ((i : Int) + ((1 : Nat) : Int)).toNat - i = 1 from by omega, List.drop_eq_getElem_cons hlt]; rfl
    rw [hcut, toList_L, ht, List.drop_eq_getElem_cons hlt, List.count_cons]
    by_cases h : (L s)[i] = c
    · refine ifp (by rw [h]) ?_
      have := ih (i + 1) (m + 1) (by omega) (by omega) (by omega)
      rw [show ((L s)[i] == c) = true from by simpa using h]
      rw [show m + 1 + ((L s).drop (i + 1)).count c = m + (((L s).drop (i + 1)).count c + if true = true then 1 else 0) from by simp; omega] at this
      exact this
    · refine ifn (by simpa using h) ?_
      have := ih (i + 1) m (by omega) (by omega) (by omega)
      rw [show ((L s)[i] == c) = false from by simpa using h]
      simpa using this

/-- How often a text of one byte stands in a text. -/
theorem zzCount_ev (s : ByteArray) (c : UInt8) (t : ByteArray) (ht : L t = [c]) (hs : s.size < 4611686018427387904) : Ev (fun k => schema_zzCount.f k s t) ((((L s).count c : Nat)) : Int) := by
  have htz : t.size = 1 := by rw [size_L, ht]; rfl
  unfold schema_zzCount.f
  refine ifn (by omega) ?_
  have := zzCount_l1 s c t ht hs _ 0 0 rfl (by omega) (by omega)
  simpa using this

theorem slash : L (⟨#[47]⟩ : ByteArray) = [47] := rfl

/-- What a text is read as: a group, a version, and whether that may be. -/
def Reads (s g v : ByteArray) (ok : Bool) : Prop :=
  (L s = [] ∧ g = ⟨#[]⟩ ∧ v = ⟨#[]⟩ ∧ ok = true) ∨ (L s = [47] ∧ g = ⟨#[]⟩ ∧ v = ⟨#[]⟩ ∧ ok = true) ∨
  (47 ∉ L s ∧ L s ≠ [] ∧ g = ⟨#[]⟩ ∧ v = s ∧ ok = true) ∨ (L s ≠ [47] ∧ L s = L g ++ 47 :: L v ∧ 47 ∉ L g ∧ 47 ∉ L v ∧ ok = true) ∨ (2 ≤ (L s).count 47 ∧ g = ⟨#[]⟩ ∧ v = ⟨#[]⟩ ∧ ok = false)

theorem gvp_ev (s g v : ByteArray) (ok : Bool) (hs : s.size < 4611686018427387904) (h : Reads s g v ok) : Ev (fun k => gvp k s) (g, v, ok) := by
  have hz := size_L s
  have hl : ∀ l : List UInt8, (s.toList = l) = (L s = l) := fun l => by rw [toList_L]
  unfold gvp
  rcases h with ⟨he, rfl, rfl, rfl⟩ | ⟨he, rfl, rfl, rfl⟩ | ⟨hno, hne, rfl, rfl, rfl⟩ | ⟨hn47, he, hg, hv, rfl⟩ | ⟨hc, rfl, rfl, rfl⟩
  · exact ifp (by rw [hz, he]; rfl) (Ev.now _)
  · exact ifn (by rw [hz, he]; simp) (ifp (by rw [hl]; exact he) (Ev.now _))
  · have := List.length_pos_iff.2 hne
    refine ifn (by omega) (ifn (by rw [hl]; intro e; rw [e] at hno; simp at hno) ?_)
    refine (zzCount_ev _ 47 _ slash hs).bind ?_
    rw [List.count_eq_zero.2 hno]
    exact ifp rfl (Ev.now _)
  · have hlen : (L s).length = (L g).length + (1 + (L v).length) := by rw [he]; simp; omega
    refine ifn (by omega) (ifn (by rw [hl]; exact hn47) ?_)
    refine (zzCount_ev s 47 _ slash hs).bind ?_
    have hcnt : (L s).count 47 = 1 := by
      rw [he, List.count_append, List.count_cons, List.count_eq_zero.2 hg, List.count_eq_zero.2 hv]; simp
    rw [hcnt]
    refine ifn (by omega) (ifp rfl ((zzIndex_ev s 47 _ slash hs).bind ?_))
    have hp := place_split (m := L v) hg
    rw [← he] at hp
    rw [hp]
    refine ifp ⟨by omega, by omega, by omega⟩ (now ?_)
    have e1 : s.extract 0 ((L g).length : Int).toNat = g := by
      apply L_inj; rw [show ((L g).length : Int).toNat = (L g).length from by omega, L_upto, he]; simp
    have e2 : s.extract (((L g).length : Int) + 1).toNat s.size = v := by
      apply L_inj
      rw [show (((L g).length : Int) + 1).toNat = (L g).length + 1 from by omega, L_from, he, show L g ++ 47 :: L v = (L g ++ [47]) ++ L v from by simp, List.drop_append_of_le_length (by simp)]
      simp
    rw [e1, e2]
  · have : (L s).count 47 ≤ (L s).length := List.count_le_length
    refine ifn (by omega) (ifn (by rw [hl]; intro e; rw [e] at hc; simp at hc) ?_)
    refine (zzCount_ev s 47 _ slash hs).bind (ifn (by omega) (ifn (by omega) (Ev.now _)))

theorem reads_of (s : ByteArray) : ∃ g v ok, Reads s g v ok := by
  by_cases h0 : L s = []
  · exact ⟨_, _, _, .inl ⟨h0, rfl, rfl, rfl⟩⟩
  · by_cases h1 : L s = [47]
    · exact ⟨_, _, _, .inr (.inl ⟨h1, rfl, rfl, rfl⟩)⟩
    · rcases place_cases (L s) 47 with ⟨hn, _⟩ | ⟨a, b, e, hn, _⟩
      · exact ⟨_, _, _, .inr (.inr (.inl ⟨hn, h0, rfl, rfl, rfl⟩))⟩
      · by_cases hb : 47 ∈ b
        · refine ⟨_, _, _, .inr (.inr (.inr (.inr ⟨?_, rfl, rfl, rfl⟩)))⟩
          have := List.one_le_count_iff.2 hb
          rw [e, List.count_append, List.count_cons]; simp; omega
        · exact ⟨⟨a.toArray⟩, ⟨b.toArray⟩, true, .inr (.inr (.inr (.inl ⟨h1, by rw [L_mk, L_mk]; exact e, by rw [L_mk]; exact hn, by rw [L_mk]; exact hb, rfl⟩)))⟩

/-- What a group and a version are told as. -/
def gvtext (g v : ByteArray) : ByteArray := if L g = [] then v else (g ++ (⟨#[47]⟩ : ByteArray)) ++ v

theorem gvtext_reads (g v : ByteArray) (hg : 47 ∉ L g) (hv : 47 ∉ L v) : Reads (gvtext g v) g v true := by
  unfold gvtext
  by_cases h : L g = []
  · rw [if_pos h]
    have eg : g = ⟨#[]⟩ := L_inj (by rw [h]; rfl)
    by_cases h2 : L v = []
    · exact .inl ⟨h2, eg, L_inj (by rw [h2]; rfl), rfl⟩
    · exact .inr (.inr (.inl ⟨hv, h2, eg, rfl, rfl⟩))
  · rw [if_neg h]
    have e : L ((g ++ (⟨#[47]⟩ : ByteArray)) ++ v) = L g ++ 47 :: L v := by rw [L_append, L_append, slash]; simp
    refine .inr (.inr (.inr (.inl ⟨?_, e, hg, hv, rfl⟩)))
    rw [e]
    intro he
    have := congrArg List.length he
    have hp : 0 < (L g).length := List.length_pos_iff.2 h
    simp at this
    omega

theorem reads_text (s g v : ByteArray) (h : Reads s g v true) (h0 : L s = [] ∨ ∃ c l, L s = c :: l ∧ c ≠ 47) : gvtext g v = s := by
  rcases h with ⟨he, rfl, rfl, _⟩ | ⟨he, rfl, rfl, _⟩ | ⟨hno, hne, rfl, rfl, _⟩ | ⟨hn47, he, hg, hv, _⟩ | ⟨_, _, _, h⟩
  · unfold gvtext; rw [if_pos L_nil]; exact L_inj (by rw [he]; rfl)
  · rcases h0 with h0 | ⟨c, l, hc, hn⟩
    · rw [h0] at he; cases he
    · rw [hc] at he; injection he with he _; exact absurd he hn
  · unfold gvtext; rw [if_pos L_nil]
  · unfold gvtext
    have hgn : L g ≠ [] := by
      intro e
      rw [e] at he
      rcases h0 with h0 | ⟨c, l, hc, hn⟩
      · rw [h0] at he; cases he
      · rw [hc] at he; injection he with he _; exact hn he
    rw [if_neg hgn]
    apply L_inj
    rw [L_append, L_append, slash, he]; simp
  · cases h

theorem gvtext_size (g v : ByteArray) : (gvtext g v).size ≤ g.size + v.size + 1 := by
  unfold gvtext
  split
  · omega
  · rw [size_L, L_append, L_append, slash, size_L g, size_L v]; simp; omega

theorem reads_size (s g v : ByteArray) (ok : Bool) (h : Reads s g v ok) : g.size ≤ s.size ∧ v.size ≤ s.size := by
  have z0 : (⟨#[]⟩ : ByteArray).size = 0 := rfl
  rcases h with ⟨he, rfl, rfl, _⟩ | ⟨he, rfl, rfl, _⟩ | ⟨hno, hne, rfl, rfl, _⟩ | ⟨hn47, he, hg, hv, _⟩ | ⟨_, rfl, rfl, h⟩
  · omega
  · omega
  · omega
  · rw [size_L g, size_L v, size_L s, he]; simp; omega
  · omega

theorem gvString_eq (g v : ByteArray) (hg : g.size < 4611686018427387904) (hv : v.size < 4611686018427387904) : schema_GroupVersion_String.f g v = some (gvtext g v) := by
  unfold schema_GroupVersion_String.f gvtext
  have hz := size_L g
  have hs : (g ++ (⟨#[47]⟩ : ByteArray)).size = g.size + 1 := by rw [size_L, L_append, slash, size_L g]; simp
  by_cases h : L g = []
  · rw [if_pos h]
    rw [h] at hz
    simp only [List.length_nil] at hz
    rw [if_neg (by omega)]
  · have : 0 < (L g).length := List.length_pos_iff.2 h
    rw [if_neg h, if_pos (by omega), if_pos (by omega), if_pos (by omega)]

end Go.Proofs.Ytehgokciafpnbab.LFnKindTo
