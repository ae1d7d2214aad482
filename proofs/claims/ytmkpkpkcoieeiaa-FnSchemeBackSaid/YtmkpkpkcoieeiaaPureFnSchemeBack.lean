/- For every number, name and port (none longer than 2^31 - 1 bytes): a scheme (none, http, https), a name and a port that may be joined are joined to a text that is split to just these. -/
import Derived.Test.YtmkpkpkcoieeiaaLFnSchemeBack
namespace Go.Proofs.Ytmkpkpkcoieeiaa.Pure
open Go.RowKit Go.Proofs.Ytmkpkpkcoieeiaa.XFnSchemeBack Go.Proofs.YtmkpkpkcoieeiaaW.PrintWords Go.Proofs.YtmkpkpkcoieeiaaW.PrintLast Go.Proofs.Ytmkpkpkcoieeiaa.EvL Go.Proofs.Ytmkpkpkcoieeiaa.Str Go.Proofs.Ytmkpkpkcoieeiaa.LFnSchemeBack

theorem col : L (⟨#[58]⟩ : ByteArray) = [58] := rfl
theorem cols : (⟨#[58]⟩ : ByteArray).size = 1 := rfl

theorem splitG_len (c : UInt8) : ∀ (l : List UInt8) (out : List ByteArray), (splitG (c.toNat : Int) l out).length = out.length + l.count c
  | [], out => by simp [splitG]
  | b :: l, out => by
    simp only [splitG]
    by_cases h : b = c
    · rw [if_pos (by rw [h]), splitG_len c l, List.count_cons]; simp [h]; omega
    · rw [if_neg (fun e => h (byte_eq.1 e)), splitG_len c l, List.count_cons]; simp [h]

theorem split_len (s : ByteArray) : ((splitG 58 s.data.toList [⟨#[]⟩]).length : Int) = 1 ↔ 58 ∉ L s := by
  have h := splitG_len 58 s.data.toList [⟨#[]⟩]
  have e : (((58 : UInt8).toNat : Nat) : Int) = 58 := rfl
  rw [e] at h
  rw [h]
  have h2 : s.data.toList.count 58 = (L s).count 58 := rfl
  rw [h2, ← List.count_eq_zero]
  simp
  omega

theorem Split_ev (s : ByteArray) (hs : s.size < 4398046511104) : Ev (fun k => spec_Split.f k s 58) (splitG 58 s.data.toList [⟨#[]⟩]) := by
  unfold spec_Split.f
  exact ifp hs (Ev.now _)

theorem keyIn_l0 (l : List ByteArray) (s : ByteArray) (hl : l.length < 4611686018427387904) (n : Nat) : ∀ i : Nat, l.length - i = n → i ≤ l.length →
    ∃ b, Ev (fun k => spec_keyIn_string.l0 k l s i) b := by
  induction n with
  | zero =>
    intro i hn hi
    exact ⟨false, Ev.step (fun k => spec_keyIn_string.l0.eq_2 ..) (ifn (by omega) (Ev.now _))⟩
  | succ n ih =>
    intro i hn hi
    obtain ⟨b, hb⟩ := ih (i + 1) (by omega) (by omega)
    by_cases h : (rdOf ByteArray.empty l (i : Int)).toList = s.toList
    · exact ⟨true, Ev.step (fun k => spec_keyIn_string.l0.eq_2 ..) (ifp (by omega) (ifp (by omega) (ifp h (Ev.now _))))⟩
    · refine ⟨b, Ev.step (fun k => spec_keyIn_string.l0.eq_2 ..) (ifp (by omega) (ifp (by omega) (ifn h ?_)))⟩
      rw [w64 (x := (i : Int) + 1) (by omega) (by omega)]
      exact hb

theorem May_ev (sc n p : ByteArray) (hn : n.size ≤ 2147483647) (hp : p.size ≤ 2147483647) : ∃ b, Ev (fun k => spec_SchemeMay.f k sc n p) b ∧ (b = true → L n ≠ [] ∧ 58 ∉ L n ∧ 58 ∉ L p) := by
  unfold spec_SchemeMay.f
  obtain ⟨b, hb⟩ := keyIn_l0 [(⟨#[]⟩ : ByteArray), (⟨#[104, 116, 116, 112]⟩ : ByteArray), (⟨#[104, 116, 116, 112, 115]⟩ : ByteArray)] sc (by simp) _ 0 rfl (by omega)
  cases b with
  | false => exact ⟨false, hb.bind (ifn (by simp) (Ev.now _)), by simp⟩
  | true =>
    by_cases h0 : n.toList = []
    · exact ⟨false, hb.bind (ifp rfl (ifp h0 (Ev.now _))), by simp⟩
    · by_cases h1 : ((splitG 58 n.data.toList [⟨#[]⟩]).length : Int) = 1
      · refine ⟨_, hb.bind (ifp rfl (ifn h0 ((Split_ev n (by omega)).bind (ifp h1 ((Split_ev p (by omega)).bind (Ev.now _)))))), ?_⟩
        intro h2
        rw [toList_L] at h0
        exact ⟨h0, (split_len n).1 h1, (split_len p).1 (by simpa using h2)⟩
      · exact ⟨false, hb.bind (ifp rfl (ifn h0 ((Split_ev n (by omega)).bind (ifn h1 (Ev.now _))))), by simp⟩

/-- A text cut at its first colon. -/
structure Cut (s n g : ByteArray) : Prop where
  eq : L s = L n ++ 58 :: L g
  no : 58 ∉ L n

theorem Cut.place {s n g : ByteArray} (h : Cut s n g) : place (L s) 58 = ((L n).length : Int) := by rw [h.eq]; exact place_split h.no
theorem Cut.size {s n g : ByteArray} (h : Cut s n g) : s.size = (L n).length + 1 + (L g).length := by rw [size_L, h.eq]; simp; omega
theorem Cut.behind {s n g : ByteArray} (h : Cut s n g) : s.extract ((L n).length + 1) s.size = g := by
  apply L_inj; rw [L_from, h.eq]
  rw [show L n ++ 58 :: L g = (L n ++ [58]) ++ L g from by simp, List.drop_append_of_le_length (by simp)]
  simp
theorem Cut.ahead {s n g : ByteArray} (h : Cut s n g) : s.extract 0 (L n).length = n := by
  apply L_inj; rw [L_upto, h.eq]; simp

theorem split_step (s n g : ByteArray) (x : List ByteArray) (r : List ByteArray) (hs : s.size < 4611686018427387904) (hx : x.length < 8) (h : Cut s n g) (hr : Ev (fun k => net_zzSplit.l1 k g (⟨#[58]⟩ : ByteArray) (x ++ [n])) r) :
    Ev (fun k => net_zzSplit.l1 k s (⟨#[58]⟩ : ByteArray) x) r := by
  have hz := h.size
  refine Ev.step (fun k => net_zzSplit.l1.eq_2 ..) ?_
  refine (zzIndex_ev s 58 _ col hs).bind ?_
  rw [h.place, cols, w64 (x := ((L n).length : Int) + ((1 : Nat) : Int)) (by omega) (by omega)]
  refine ifn (by omega) (ifp (by omega) (ifp (by omega) (ifp (by omega) (ifp (by omega) (ifp (by omega) ?_)))))
  rw [show (((L n).length : Int) + ((1 : Nat) : Int)).toNat = (L n).length + 1 from by omega, show ((L n).length : Int).toNat = (L n).length from by omega, h.behind, h.ahead]
  exact hr

theorem split_end (s : ByteArray) (x : List ByteArray) (hs : s.size < 4611686018427387904) (hx : x.length < 8) (h : 58 ∉ L s) :
    Ev (fun k => net_zzSplit.l1 k s (⟨#[58]⟩ : ByteArray) x) (x ++ [s]) := by
  refine Ev.step (fun k => net_zzSplit.l1.eq_2 ..) ?_
  refine (zzIndex_ev s 58 _ col hs).bind ?_
  rw [place_neg h]
  exact ifp (by omega) (ifp (by omega) (Ev.now _))

theorem sp_one (n : ByteArray) (hn : n.size ≤ 2147483647) (h0 : L n ≠ []) (h1 : 58 ∉ L n) : Ev (fun k => net_SplitSchemeNamePort.f k n) ((⟨#[]⟩ : ByteArray), n, (⟨#[]⟩ : ByteArray), true) := by
  have hz := size_L n
  have hp := List.length_pos_iff.2 h0
  unfold net_SplitSchemeNamePort.f
  have hs : Ev (fun k => net_zzSplit.f k n (⟨#[58]⟩ : ByteArray)) [n] := by
    unfold net_zzSplit.f
    exact ifn (by rw [cols]; simp) (split_end n [] (by omega) (by simp) h1)
  refine hs.bind ?_
  rw [show rdOf ByteArray.empty [n] 0 = n from rfl]
  exact ifp (by simp) (ifp (by simp) (ifp (by omega) (ifn (by simp) (ifn (by simp) (ifp rfl (Ev.now _))))))

theorem sp_two (s n p : ByteArray) (hs : s.size < 4611686018427387904) (h : Cut s n p) (h0 : L n ≠ []) (h1 : 58 ∉ L p) : Ev (fun k => net_SplitSchemeNamePort.f k s) ((⟨#[]⟩ : ByteArray), n, p, true) := by
  have hz := h.size
  have hzn := size_L n
  have hzp := size_L p
  have hp := List.length_pos_iff.2 h0
  unfold net_SplitSchemeNamePort.f
  have hs : Ev (fun k => net_zzSplit.f k s (⟨#[58]⟩ : ByteArray)) [n, p] := by
    unfold net_zzSplit.f
    exact ifn (by rw [cols]; simp) (split_step s n p [] _ (by omega) (by simp) h (split_end p [n] (by omega) (by simp) h1))
  refine hs.bind ?_
  rw [show rdOf ByteArray.empty [n, p] 0 = n from rfl, show rdOf ByteArray.empty [n, p] 1 = p from rfl]
  exact ifn (by simp) (ifp (by simp) (ifp (by simp) (ifp (by simp) (ifp (by omega) (ifn (by simp) (ifn (by simp) (ifp rfl (Ev.now _))))))))

theorem sp_three (s sc r n p : ByteArray) (hs : s.size < 4611686018427387904) (h : Cut s sc r) (h2 : Cut r n p) (h0 : L n ≠ []) (h1 : 58 ∉ L p) (hsc : L sc = [104, 116, 116, 112] ∨ L sc = [104, 116, 116, 112, 115]) :
    Ev (fun k => net_SplitSchemeNamePort.f k s) (sc, n, p, true) := by
  have hz := h.size
  have hz2 := h2.size
  have hzn := size_L n
  have hzp := size_L p
  have hzr := size_L r
  have hp := List.length_pos_iff.2 h0
  unfold net_SplitSchemeNamePort.f
  have hs : Ev (fun k => net_zzSplit.f k s (⟨#[58]⟩ : ByteArray)) [sc, n, p] := by
    unfold net_zzSplit.f
    exact ifn (by rw [cols]; simp) (split_step s sc r [] _ (by omega) (by simp) h (split_step r n p [sc] _ (by omega) (by simp) h2 (split_end p [sc, n] (by omega) (by simp) h1)))
  refine hs.bind ?_
  rw [show rdOf ByteArray.empty [sc, n, p] 0 = sc from rfl, show rdOf ByteArray.empty [sc, n, p] 1 = n from rfl, show rdOf ByteArray.empty [sc, n, p] 2 = p from rfl]
  refine ifn (by simp) (ifn (by simp) (ifp (by simp) (ifp (by simp) (ifp (by simp) (ifp (by simp) (ifp (by omega) ?_))))))
  rw [toList_L]
  rcases hsc with e | e
  · exact ifp e (Ev.now _)
  · exact ifn (by rw [e]; simp) (ifp e (Ev.now _))

theorem joined (sc n p : ByteArray) (hn : n.size ≤ 2147483647) (hp : p.size ≤ 2147483647) (h0 : L n ≠ []) (h1 : 58 ∉ L n) (h2 : 58 ∉ L p) (hsc : sc = ⟨#[]⟩ ∨ L sc = [104, 116, 116, 112] ∨ L sc = [104, 116, 116, 112, 115]) :
    ∃ s, impl_SchemeJoin.f sc n p = some s ∧ Ev (fun k => impl_SchemeSplit.f k s) (sc, n, p, true) := by
  have hzs := size_L sc
  unfold impl_SchemeJoin.f impl_SchemeSplit.f net_JoinSchemeNamePort.f
  have e0 := ByteArray.size_append (a := sc) (b := (⟨#[58]⟩ : ByteArray))
  have e1 := ByteArray.size_append (a := sc ++ (⟨#[58]⟩ : ByteArray)) (b := n)
  have e2 := ByteArray.size_append (a := (sc ++ (⟨#[58]⟩ : ByteArray)) ++ n) (b := (⟨#[58]⟩ : ByteArray))
  have e3 := ByteArray.size_append (a := ((sc ++ (⟨#[58]⟩ : ByteArray)) ++ n) ++ (⟨#[58]⟩ : ByteArray)) (b := p)
  have e4 := ByteArray.size_append (a := n) (b := (⟨#[58]⟩ : ByteArray))
  have e5 := ByteArray.size_append (a := n ++ (⟨#[58]⟩ : ByteArray)) (b := p)
  rw [cols] at e0 e2 e4
  rcases hsc with rfl | hsc
  · rw [if_neg (by rw [size_nil]; omega)]
    by_cases hpe : (p.size : Int) > 0
    · rw [if_pos hpe, if_pos (by omega), if_pos (by omega)]
      refine ⟨_, rfl, ?_⟩
      exact (sp_two _ n p (by omega) ⟨by simp only [L_append, col]; simp, h1⟩ h0 h2).bind (now rfl)
    · rw [if_neg hpe]
      have ep : p = ⟨#[]⟩ := L_inj (by rw [L_nil]; exact List.eq_nil_of_length_eq_zero (by rw [← size_L]; omega))
      subst ep
      exact ⟨n, rfl, (sp_one n hn h0 h1).bind (now rfl)⟩
  · have hl : 4 ≤ sc.size ∧ sc.size ≤ 5 := by rcases hsc with e | e <;> rw [hzs, e] <;> simp
    have hno : 58 ∉ L sc := by rcases hsc with e | e <;> rw [e] <;> simp
    rw [if_pos (by omega), if_pos (by omega), if_pos (by omega), if_pos (by omega), if_pos (by omega)]
    refine ⟨_, rfl, ?_⟩
    refine (sp_three _ sc ((n ++ (⟨#[58]⟩ : ByteArray)) ++ p) n p (by omega) ⟨by simp only [L_append, col]; simp, hno⟩ ⟨by simp only [L_append, col]; simp, h1⟩ h0 h2 hsc).bind (now rfl)

theorem FnSchemeBack : laws_FnSchemeBack.Pure := by
  intro a n p wa _ _
  have wa2 : 0 ≤ a ∧ a ≤ 255 := by
    have e1 : IntKind.u8.min = 0 := rfl
    have e2 : IntKind.u8.max = 255 := rfl
    simpa [Lit.wf, e1, e2] using wa
  refine Ev.rounds ?_
  unfold laws_FnSchemeBack.f
  have stop : Ev (fun k => laws_FnSchemeBack.j0 k a n p true) true := Ev.step (fun k => laws_FnSchemeBack.j0.eq_2 ..) (ifp rfl (Ev.now _))
  by_cases z0 : (n.size : Int) > 2147483647
  · exact ifp z0 stop
  · refine ifn z0 ?_
    by_cases z1 : (p.size : Int) > 2147483647
    · rw [decide_eq_true z1]; exact stop
    · rw [decide_eq_false z1]
      have ht : Int.tmod a 3 = a % 3 := Int.tmod_eq_emod_of_nonneg wa2.1
      have hsc : (rdOf ByteArray.empty [(⟨#[]⟩ : ByteArray), (⟨#[104, 116, 116, 112]⟩ : ByteArray), (⟨#[104, 116, 116, 112, 115]⟩ : ByteArray)] (Int.tmod a 3)) = ⟨#[]⟩ ∨ L (rdOf ByteArray.empty [(⟨#[]⟩ : ByteArray), (⟨#[104, 116, 116, 112]⟩ : ByteArray), (⟨#[104, 116, 116, 112, 115]⟩ : ByteArray)] (Int.tmod a 3)) = [104, 116, 116, 112] ∨ L (rdOf ByteArray.empty [(⟨#[]⟩ : ByteArray), (⟨#[104, 116, 116, 112]⟩ : ByteArray), (⟨#[104, 116, 116, 112, 115]⟩ : ByteArray)] (Int.tmod a 3)) = [104, 116, 116, 112, 115] := by
        rw [ht]
        have : a % 3 = 0 ∨ a % 3 = 1 ∨ a % 3 = 2 := by omega
        rcases this with e | e | e <;> rw [e]
        · exact .inl rfl
        · exact .inr (.inl rfl)
        · exact .inr (.inr rfl)
      refine Ev.step (fun k => laws_FnSchemeBack.j0.eq_2 ..) (ifn (by simp) (sb (ifp (by rw [ht]; omega) (ifp (by rw [ht]; simp; omega) ?_))))
      generalize rdOf ByteArray.empty [(⟨#[]⟩ : ByteArray), (⟨#[104, 116, 116, 112]⟩ : ByteArray), (⟨#[104, 116, 116, 112, 115]⟩ : ByteArray)] (Int.tmod a 3) = sc at hsc ⊢
      obtain ⟨b, hb, hmay⟩ := May_ev sc n p (by omega) (by omega)
      refine hb.bind ?_
      cases b with
      | false => exact ifn (by simp) (Ev.now _)
      | true =>
        obtain ⟨m0, m1, m2⟩ := hmay rfl
        obtain ⟨s, hj, hsplit⟩ := joined sc n p (by omega) (by omega) m0 m1 m2 hsc
        refine ifp rfl (cb hj (hsplit.bind (ifp rfl (ifp rfl (ifp rfl (now ?_))))))
        simp

end Go.Proofs.Ytmkpkpkcoieeiaa.Pure
