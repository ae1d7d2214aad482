/- For all texts a and b (none longer than 2^31 - 1 bytes): they are ordered as versions of kinds: what is one is above what is none; two of them by how far they are, then by their two numbers; two that are none byte by byte, turned round. -/
import Derived.Test.YtmkpkpkcoieeiaaDoorXFnKubeComparex
import Derived.Test.YtmkpkpkcoieeiaaDoorStr
import Derived.Test.YtmkpkpkcoieeiaaDoorNum
import Derived.Test.YtmkpkpkcoieeiaaDoorQFnKubeCompare
namespace Go.Proofs.YtmkpkpkcoieeiaaDoor.Pure
open Go.RowKit Go.Proofs.YtmkpkpkcoieeiaaDoor.XFnKubeCompare Go.Proofs.YtmkpkpkcoieeiaaDoorW.PrintWords Go.Proofs.YtmkpkpkcoieeiaaDoorW.PrintLast Go.Proofs.YtmkpkpkcoieeiaaDoorW.PrintMore Go.Proofs.YtmkpkpkcoieeiaaDoor.EvL Go.Proofs.YtmkpkpkcoieeiaaDoor.Str Go.Proofs.YtmkpkpkcoieeiaaDoor.Num

theorem take_lead : ∀ l : List UInt8, l.take (lead l).length = lead l
  | [] => rfl
  | c :: r => by
    rw [lead_cons]
    by_cases h : dig c
    · rw [if_pos h, List.length_cons, List.take_succ_cons, take_lead r]
    · rw [if_neg h]; rfl

theorem lead_le : ∀ l : List UInt8, (lead l).length ≤ l.length
  | [] => Nat.le_refl _
  | c :: r => by
    rw [lead_cons]
    have := lead_le r
    by_cases h : dig c
    · rw [if_pos h, List.length_cons, List.length_cons]; omega
    · rw [if_neg h]; simp

theorem lead_full {l : List UInt8} (h : (lead l).length = l.length) : lead l = l := by
  have := take_lead l
  rw [h, List.take_length] at this
  exact this.symm

theorem digit_eq (c : UInt8) : spec_verDigit.f (c.toNat : Int) = some (decide (dig c)) := by
  unfold spec_verDigit.f
  by_cases h : (c.toNat : Int) ≥ 48
  · rw [if_pos h]
    congr 1
    exact decide_eq_decide.2 (by unfold dig; exact ⟨fun h2 => ⟨by omega, by omega⟩, fun h2 => by omega⟩)
  · rw [if_neg h, decide_eq_false (by unfold dig; omega : ¬ dig c)]

theorem verDigits_l0 (s : ByteArray) (hs : s.size ≤ 2147483648) (n : Nat) : ∀ i : Nat, (L s).length - i = n → i ≤ (L s).length →
    Ev (fun k => spec_verDigits.l0 k s i) (s.extract 0 (i + (lead ((L s).drop i)).length), s.extract (i + (lead ((L s).drop i)).length) s.size) := by
  have hz := size_L s
  induction n with
  | zero =>
    intro i hn hi
    have e : (L s).drop i = [] := List.drop_eq_nil_of_le (by omega)
    rw [e]
    refine Ev.step (fun k => spec_verDigits.l0.eq_2 ..) (ifn (by omega) (ifp (by omega) (ifp (by omega) (now ?_))))
    rw [show ((i : Int)).toNat = i from by omega]; rfl
  | succ n ih =>
    intro i hn hi
    have hlt : i < (L s).length := by omega
    refine Ev.step (fun k => spec_verDigits.l0.eq_2 ..) (ifp (by omega) (ifp (by omega) ?_))
    rw [bt_L s i hlt, List.drop_eq_getElem_cons hlt, lead_cons, w64 (x := (i : Int) + 1) (by omega) (by omega)]
    generalize (L s)[i] = c
    refine cb (digit_eq c) ?_
    by_cases h : dig c
    · refine ifp (decide_eq_true h) ?_
      rw [if_pos h, List.length_cons, show i + ((lead ((L s).drop (i + 1))).length + 1) = (i + 1) + (lead ((L s).drop (i + 1))).length from by omega]
      exact ih (i + 1) (by omega) (by omega)
    · refine ifn (by simpa using h) (ifp (by omega) (now ?_))
      rw [if_neg h, show ((i : Int)).toNat = i from by omega]; rfl

theorem verDigits_ev (s : ByteArray) (hs : s.size ≤ 2147483648) : Ev (fun k => spec_verDigits.f k s) (s.extract 0 (lead (L s)).length, s.extract (lead (L s)).length s.size) := by
  have := verDigits_l0 s hs _ 0 rfl (by omega)
  simp only [List.drop_zero, Nat.zero_add] at this
  exact this

theorem zzDigits_l0 (s : ByteArray) (hs : s.size ≤ 2147483648) (n : Nat) : ∀ i : Nat, (L s).length - i = n → i ≤ (L s).length →
    Ev (fun k => version_zzDigits.l0 k s i) ((i + (lead ((L s).drop i)).length : Nat) : Int) := by
  have hz := size_L s
  induction n with
  | zero =>
    intro i hn hi
    have e : (L s).drop i = [] := List.drop_eq_nil_of_le (by omega)
    rw [e]
    exact Ev.step (fun k => version_zzDigits.l0.eq_2 ..) (ifn (by omega) (now rfl))
  | succ n ih =>
    intro i hn hi
    have hlt : i < (L s).length := by omega
    refine Ev.step (fun k => version_zzDigits.l0.eq_2 ..) (ifp (by omega) (ifp (by omega) ?_))
    rw [bt_L s i hlt, List.drop_eq_getElem_cons hlt, lead_cons, w64 (x := (i : Int) + 1) (by omega) (by omega)]
    generalize (L s)[i] = c
    by_cases h48 : 48 ≤ (c.toNat : Int)
    · refine ifp h48 ?_
      by_cases h57 : (c.toNat : Int) ≤ 57
      · refine ifp h57 ?_
        rw [if_pos (by unfold dig; omega), List.length_cons, show i + ((lead ((L s).drop (i + 1))).length + 1) = (i + 1) + (lead ((L s).drop (i + 1))).length from by omega]
        exact ih (i + 1) (by omega) (by omega)
      · refine ifn h57 (now ?_)
        rw [if_neg (by unfold dig; omega)]; rfl
    · refine ifn h48 (now ?_)
      rw [if_neg (by unfold dig; omega)]; rfl

theorem zzDigits_ev (s : ByteArray) (hs : s.size ≤ 2147483648) (i : Nat) (hi : i ≤ (L s).length) : Ev (fun k => version_zzDigits.f k s i) ((i + (lead ((L s).drop i)).length : Nat) : Int) :=
  zzDigits_l0 s hs _ i rfl hi

theorem head_eq (a b : ByteArray) : spec_VerHead.f a b = some (decide ((L a).take (L b).length = L b)) := by
  have h1 := size_L a
  have h2 := size_L b
  unfold spec_VerHead.f
  by_cases h : (a.size : Int) ≥ (b.size : Int)
  · rw [if_pos h, if_pos (by omega), if_pos (by omega), toList_L, toList_L, L_upto, show ((b.size : Int)).toNat = (L b).length from by omega]
    congr 1
    exact Bool.eq_iff_iff.2 (by simp)
  · rw [if_neg h, decide_eq_false]
    intro e
    have := congrArg List.length e
    rw [List.length_take] at this
    omega

/-- A version of kinds: how far it is, its two numbers, its word. -/
structure IsKube (t : Int) (M D W : ByteArray) : Prop where
  word : (t = 0 ∧ L W = [97, 108, 112, 104, 97] ∧ L D ≠ []) ∨ (t = 1 ∧ L W = [98, 101, 116, 97] ∧ L D ≠ []) ∨ (t = 2 ∧ L W = [] ∧ L D = [])
  major : digs (L M)
  some : L M ≠ []
  minor : digs (L D)

/-- What both readings of a text come to. -/
def Reads (s : ByteArray) : Prop :=
  (Ev (fun k => spec_Kube.f k s) (0, (⟨#[]⟩ : ByteArray), (⟨#[]⟩ : ByteArray), false, true) ∧ Ev (fun k => version_zzKube.f k s) []) ∨
  (∃ t M D W, IsKube t M D W ∧ Ev (fun k => spec_Kube.f k s) (t, M, D, true, decide (M.size ≤ 18 ∧ D.size ≤ 18)) ∧ Ev (fun k => version_zzKube.f k s) [s, M, W, D])

theorem alpha5 : L (⟨#[97, 108, 112, 104, 97]⟩ : ByteArray) = [97, 108, 112, 104, 97] := rfl
theorem beta4 : L (⟨#[98, 101, 116, 97]⟩ : ByteArray) = [98, 101, 116, 97] := rfl

theorem kube_off (s : ByteArray) (h : L s = [] ∨ ∃ c t, L s = c :: t ∧ c.toNat ≠ 118) : Reads s := by
  have hz := size_L s
  refine .inl ⟨?_, ?_⟩
  · unfold spec_Kube.f
    rw [toList_L]
    have stop : Ev (fun k => spec_Kube.j0 k s (⟨#[]⟩ : ByteArray) true) (0, (⟨#[]⟩ : ByteArray), (⟨#[]⟩ : ByteArray), false, true) := Ev.step (fun k => spec_Kube.j0.eq_2 ..) (ifp rfl (Ev.now _))
    rcases h with h | ⟨c, t, h, hc⟩
    · exact ifp h stop
    · have hlen : 0 < (L s).length := by rw [h]; simp
      have hb : bt s 0 = (c.toNat : Int) := by
        have h1 := bt_L s 0 hlen
        have h2 : (L s)[0] = c := by simp [h]
        rw [h2] at h1
        exact h1
      refine ifn (by rw [h]; simp) (ifp (by omega) ?_)
      rw [hb, show ((c.toNat : Int) != 118) = true from bne_iff_ne.mpr (by omega)]
      exact stop
  · unfold version_zzKube.f
    have stop : Ev (fun k => version_zzKube.j0 k s true) [] := Ev.step (fun k => version_zzKube.j0.eq_2 ..) (ifp rfl (Ev.now _))
    rcases h with h | ⟨c, t, h, hc⟩
    · exact ifp (by rw [hz, h]; rfl) stop
    · have hlen : 0 < (L s).length := by rw [h]; simp
      have hb : bt s 0 = (c.toNat : Int) := by
        have h1 := bt_L s 0 hlen
        have h2 : (L s)[0] = c := by simp [h]
        rw [h2] at h1
        exact h1
      refine ifn (by omega) (ifp (by omega) ?_)
      rw [hb, show ((c.toNat : Int) != 118) = true from bne_iff_ne.mpr (by omega)]
      exact stop

theorem kube_on (s : ByteArray) (hs : s.size ≤ 2147483647) (t : List UInt8) (h : L s = 118 :: t) : Reads s := by
  have hz := size_L s
  have hlt : (L s).length = t.length + 1 := by rw [h]; rfl
  have hb : bt s 0 = 118 := by
    have h1 := bt_L s 0 (by omega)
    have h2 : (L s)[0] = 118 := by simp [h]
    rw [h2] at h1
    exact h1
  have kk : ∀ r, Ev (fun k => spec_Kube.j0 k s (⟨#[]⟩ : ByteArray) false) r → Ev (fun k => spec_Kube.f k s) r := by
    intro r hr
    unfold spec_Kube.f
    rw [toList_L]
    refine ifn (by rw [h]; simp) (ifp (by omega) ?_)
    rw [hb]; exact hr
  have zz : ∀ r, Ev (fun k => version_zzKube.j0 k s false) r → Ev (fun k => version_zzKube.f k s) r := by
    intro r hr
    unfold version_zzKube.f
    refine ifn (by omega) (ifp (by omega) ?_)
    rw [hb]; exact hr
  -- the text behind the letter
  have e1 : L (s.extract 1 s.size) = t := by rw [L_from, h]; rfl
  have s1 : (s.extract 1 s.size).size = t.length := by rw [size_L, e1]
  have hv := verDigits_ev (s.extract 1 s.size) (by omega)
  have hd := zzDigits_ev s (by omega) 1 (by omega)
  have ed : (L s).drop 1 = t := by rw [h]; rfl
  rw [ed] at hd
  rw [e1] at hv
  have hnl := lead_le t
  have htl := take_lead t
  have hdl := lead_digs t
  generalize hn : (lead t).length = n at hv hd hnl htl
  generalize hm : lead t = m at htl hdl hn
  obtain ⟨r, hr⟩ : ∃ r, t.drop n = r := ⟨_, rfl⟩
  have htr : t = m ++ r := by rw [← htl, ← hr, List.take_append_drop]
  have hrl : r.length = t.length - n := by rw [← hr, List.length_drop]
  obtain ⟨M, hM⟩ : ∃ M, (s.extract 1 s.size).extract 0 n = M := ⟨_, rfl⟩
  obtain ⟨R, hR⟩ : ∃ R, (s.extract 1 s.size).extract n (s.extract 1 s.size).size = R := ⟨_, rfl⟩
  have eM : L M = m := by rw [← hM, L_upto, e1, htl]
  have eR : L R = r := by rw [← hR, L_from, e1, hr]
  have zM := size_L M
  have zR := size_L R
  rw [eM] at zM
  rw [eR] at zR
  rw [hM, hR] at hv
  have eM2 : s.extract 1 (1 + n) = M := by
    apply L_inj
    rw [L_extract, h, eM, show 1 + n - 1 = n from by omega]
    show t.take n = m
    exact htl
  have no : (0, (⟨#[]⟩ : ByteArray), (⟨#[]⟩ : ByteArray), false, true) = ((0, (⟨#[]⟩ : ByteArray), (⟨#[]⟩ : ByteArray), false, true) : Int × ByteArray × ByteArray × Bool × Bool) := rfl
  have hR1 : ∀ j : Nat, (L s).drop (1 + n + j) = r.drop j := by
    intro j
    rw [h, ← hr, List.drop_drop, show 1 + n + j = (n + j) + 1 from by omega]; rfl
  have hR2 : ∀ j : Nat, L (s.extract (1 + n) (1 + n + j)) = r.take j := by
    intro j
    rw [L_extract, show 1 + n + j - (1 + n) = j from by omega, show 1 + n = 1 + n + 0 from rfl, hR1]; rfl
  by_cases hA : r.take 5 = [97, 108, 112, 104, 97]
  · have hl5 : 5 ≤ r.length := by
      have := congrArg List.length hA
      rw [List.length_take] at this
      simp at this
      omega
    have e5 : L (R.extract 5 R.size) = r.drop 5 := by rw [L_from, eR]
    have s5 : (R.extract 5 R.size).size = r.length - 5 := by rw [size_L, e5, List.length_drop]
    have hv5 := verDigits_ev (R.extract 5 R.size) (by omega)
    have hd5 := zzDigits_ev s (by omega) (1 + n + 5) (by omega)
    rw [hR1] at hd5
    rw [e5] at hv5
    have hn5 := lead_le (r.drop 5)
    have ht5 := take_lead (r.drop 5)
    have hf5 := @lead_full (r.drop 5)
    have hg5 := lead_digs (r.drop 5)
    rw [List.length_drop] at hn5 hf5
    generalize hn2 : (lead (r.drop 5)).length = n2 at hv5 hd5 hn5 ht5 hf5
    generalize hm2 : lead (r.drop 5) = m2 at ht5 hf5 hg5 hn2
    obtain ⟨D, hD⟩ : ∃ D, (R.extract 5 R.size).extract 0 n2 = D := ⟨_, rfl⟩
    obtain ⟨E, hE⟩ : ∃ E, (R.extract 5 R.size).extract n2 (R.extract 5 R.size).size = E := ⟨_, rfl⟩
    have eD : L D = m2 := by rw [← hD, L_upto, e5, ht5]
    have eE : L E = (r.drop 5).drop n2 := by rw [← hE, L_from, e5]
    have zD := size_L D
    rw [eD] at zD
    have zE : (L E).length = r.length - 5 - n2 := by rw [eE, List.length_drop, List.length_drop]
    rw [hD, hE] at hv5
    by_cases q0 : m = []
    · refine .inl ⟨kk _ ?_, ?_⟩
      · refine Ev.step (fun k => spec_Kube.j0.eq_2 ..) (ifn (by simp) (ifp (by omega) (hv.bind (cb (head_eq R _) ?_))))
        dsimp only
        refine ifp (by rw [eR, alpha5]; simpa using hA) (ifp (by omega) (hv5.bind ?_))
        dsimp only
        exact ifp (by rw [toList_L, eM]; exact q0) (Ev.now _)
      · refine zz _ (Ev.step (fun k => version_zzKube.j0.eq_2 ..) (ifn (by simp) (hd.bind ?_)))
        exact ifp (by rw [← hn, q0]; rfl) (Ev.now _)
    · have hn0 : 0 < n := by rw [← hn]; exact List.length_pos_iff.2 q0
      by_cases q1 : n2 = r.length - 5
      · by_cases q2 : m2 = []
        · refine .inl ⟨kk _ ?_, ?_⟩
          · refine Ev.step (fun k => spec_Kube.j0.eq_2 ..) (ifn (by simp) (ifp (by omega) (hv.bind (cb (head_eq R _) ?_))))
            dsimp only
            refine ifp (by rw [eR, alpha5]; simpa using hA) (ifp (by omega) (hv5.bind ?_))
            dsimp only
            exact ifn (by rw [toList_L, eM]; exact q0) (ifp (by rw [toList_L]; exact List.eq_nil_of_length_eq_zero (by omega)) (ifp (by decide) (ifp (by rw [toList_L, eD]; exact q2) (Ev.now _))))
          · refine zz _ (Ev.step (fun k => version_zzKube.j0.eq_2 ..) (ifn (by simp) (hd.bind ?_)))
            refine ifn (by omega) (ifn (by omega) ?_)
            rw [w64 (x := ((1 + n : Nat) : Int) + 5) (by omega) (by omega)]
            refine ifp (by omega) (ifp (by omega) (ifp (by omega) (ifp (by omega) ?_)))
            rw [toList_L, show (((1 + n : Nat) : Int)).toNat = 1 + n from by omega, show (((1 + n : Nat) : Int) + 5).toNat = 1 + n + 5 from by omega, hR2, hA]
            refine Ev.step (fun k => version_zzKube.j1.eq_2 ..) (ifp rfl ?_)
            rw [w64 (x := ((1 + n : Nat) : Int) + 5) (by omega) (by omega), show ((1 + n : Nat) : Int) + 5 = ((1 + n + 5 : Nat) : Int) from by omega]
            refine hd5.bind ?_
            exact ifp (by have : n2 = 0 := by rw [← hn2, q2]; rfl
                          rw [this]) (Ev.now _)
        · have hn2p : 0 < n2 := by rw [← hn2]; exact List.length_pos_iff.2 q2
          refine .inr ⟨0, M, D, (⟨#[97, 108, 112, 104, 97]⟩ : ByteArray), ⟨.inl ⟨rfl, rfl, by rw [eD]; exact q2⟩, by rw [eM]; exact hdl, by rw [eM]; exact q0, by rw [eD]; exact hg5⟩, kk _ ?_, ?_⟩
          · refine Ev.step (fun k => spec_Kube.j0.eq_2 ..) (ifn (by simp) (ifp (by omega) (hv.bind (cb (head_eq R _) ?_))))
            dsimp only
            refine ifp (by rw [eR, alpha5]; simpa using hA) (ifp (by omega) (hv5.bind ?_))
            dsimp only
            refine ifn (by rw [toList_L, eM]; exact q0) (ifp (by rw [toList_L]; exact List.eq_nil_of_length_eq_zero (by omega)) (ifp (by decide) (ifn (by rw [toList_L, eD]; exact q2) ?_)))
            by_cases z18 : (M.size : Int) ≤ 18
            · refine ifp z18 (now ?_)
              congr 4
              exact decide_eq_decide.2 ⟨fun x => ⟨by omega, by omega⟩, fun x => by omega⟩
            · refine ifn z18 (now ?_)
              rw [decide_eq_false (by omega : ¬ (M.size ≤ 18 ∧ D.size ≤ 18))]
          · refine zz _ (Ev.step (fun k => version_zzKube.j0.eq_2 ..) (ifn (by simp) (hd.bind ?_)))
            refine ifn (by omega) (ifn (by omega) ?_)
            rw [w64 (x := ((1 + n : Nat) : Int) + 5) (by omega) (by omega)]
            refine ifp (by omega) (ifp (by omega) (ifp (by omega) (ifp (by omega) ?_)))
            rw [toList_L, show (((1 + n : Nat) : Int)).toNat = 1 + n from by omega, show (((1 + n : Nat) : Int) + 5).toNat = 1 + n + 5 from by omega, hR2, hA]
            refine Ev.step (fun k => version_zzKube.j1.eq_2 ..) (ifp rfl ?_)
            rw [w64 (x := ((1 + n : Nat) : Int) + 5) (by omega) (by omega), show ((1 + n : Nat) : Int) + 5 = ((1 + n + 5 : Nat) : Int) from by omega]
            refine hd5.bind ?_
            refine ifn (by omega) (ifn (by omega) (ifp (by omega) (ifp (by omega) ?_)))
            refine ifp (by omega) (ifp (by omega) (now ?_))
            have eD2 : s.extract (1 + n + 5) s.size = D := by
              apply L_inj
              rw [L_from, hR1, eD, hf5 q1]
            rw [show (((1 + n : Nat) : Int)).toNat = 1 + n from by omega, show (((1 + n + 5 : Nat) : Int)).toNat = 1 + n + 5 from by omega, eM2, eD2]
      · refine .inl ⟨kk _ ?_, ?_⟩
        · refine Ev.step (fun k => spec_Kube.j0.eq_2 ..) (ifn (by simp) (ifp (by omega) (hv.bind (cb (head_eq R _) ?_))))
          dsimp only
          refine ifp (by rw [eR, alpha5]; simpa using hA) (ifp (by omega) (hv5.bind ?_))
          dsimp only
          exact ifn (by rw [toList_L, eM]; exact q0) (ifn (by rw [toList_L]; intro x; rw [x] at zE; simp at zE; omega) (Ev.now _))
        · refine zz _ (Ev.step (fun k => version_zzKube.j0.eq_2 ..) (ifn (by simp) (hd.bind ?_)))
          refine ifn (by omega) (ifn (by omega) ?_)
          rw [w64 (x := ((1 + n : Nat) : Int) + 5) (by omega) (by omega)]
          refine ifp (by omega) (ifp (by omega) (ifp (by omega) (ifp (by omega) ?_)))
          rw [toList_L, show (((1 + n : Nat) : Int)).toNat = 1 + n from by omega, show (((1 + n : Nat) : Int) + 5).toNat = 1 + n + 5 from by omega, hR2, hA]
          refine Ev.step (fun k => version_zzKube.j1.eq_2 ..) (ifp rfl ?_)
          rw [w64 (x := ((1 + n : Nat) : Int) + 5) (by omega) (by omega), show ((1 + n : Nat) : Int) + 5 = ((1 + n + 5 : Nat) : Int) from by omega]
          refine hd5.bind ?_
          by_cases q3 : n2 = 0
          · exact ifp (by rw [q3]) (Ev.now _)
          · exact ifn (by omega) (ifp (by omega) (Ev.now _))
  · by_cases hB : r.take 4 = [98, 101, 116, 97]
    · have hl5 : 4 ≤ r.length := by
        have := congrArg List.length hB
        rw [List.length_take] at this
        simp at this
        omega
      have e5 : L (R.extract 4 R.size) = r.drop 4 := by rw [L_from, eR]
      have s5 : (R.extract 4 R.size).size = r.length - 4 := by rw [size_L, e5, List.length_drop]
      have hv5 := verDigits_ev (R.extract 4 R.size) (by omega)
      have hd5 := zzDigits_ev s (by omega) (1 + n + 4) (by omega)
      rw [hR1] at hd5
      rw [e5] at hv5
      have hn5 := lead_le (r.drop 4)
      have ht5 := take_lead (r.drop 4)
      have hf5 := @lead_full (r.drop 4)
      have hg5 := lead_digs (r.drop 4)
      rw [List.length_drop] at hn5 hf5
      generalize hn2 : (lead (r.drop 4)).length = n2 at hv5 hd5 hn5 ht5 hf5
      generalize hm2 : lead (r.drop 4) = m2 at ht5 hf5 hg5 hn2
      obtain ⟨D, hD⟩ : ∃ D, (R.extract 4 R.size).extract 0 n2 = D := ⟨_, rfl⟩
      obtain ⟨E, hE⟩ : ∃ E, (R.extract 4 R.size).extract n2 (R.extract 4 R.size).size = E := ⟨_, rfl⟩
      have eD : L D = m2 := by rw [← hD, L_upto, e5, ht5]
      have eE : L E = (r.drop 4).drop n2 := by rw [← hE, L_from, e5]
      have zD := size_L D
      rw [eD] at zD
      have zE : (L E).length = r.length - 4 - n2 := by rw [eE, List.length_drop, List.length_drop]
      rw [hD, hE] at hv5
      by_cases q0 : m = []
      · refine .inl ⟨kk _ ?_, ?_⟩
        · refine Ev.step (fun k => spec_Kube.j0.eq_2 ..) (ifn (by simp) (ifp (by omega) (hv.bind (cb (head_eq R _) ?_))))
          dsimp only
          refine ifn (by rw [eR, alpha5]; simpa using hA) (cb (head_eq R _) ?_)
          refine ifp (by rw [eR, beta4]; simpa using hB) (ifp (by omega) (hv5.bind ?_))
          dsimp only
          exact ifp (by rw [toList_L, eM]; exact q0) (Ev.now _)
        · refine zz _ (Ev.step (fun k => version_zzKube.j0.eq_2 ..) (ifn (by simp) (hd.bind ?_)))
          exact ifp (by rw [← hn, q0]; rfl) (Ev.now _)
      · have hn0 : 0 < n := by rw [← hn]; exact List.length_pos_iff.2 q0
        by_cases q1 : n2 = r.length - 4
        · by_cases q2 : m2 = []
          · refine .inl ⟨kk _ ?_, ?_⟩
            · refine Ev.step (fun k => spec_Kube.j0.eq_2 ..) (ifn (by simp) (ifp (by omega) (hv.bind (cb (head_eq R _) ?_))))
              dsimp only
              refine ifn (by rw [eR, alpha5]; simpa using hA) (cb (head_eq R _) ?_)
              refine ifp (by rw [eR, beta4]; simpa using hB) (ifp (by omega) (hv5.bind ?_))
              dsimp only
              exact ifn (by rw [toList_L, eM]; exact q0) (ifp (by rw [toList_L]; exact List.eq_nil_of_length_eq_zero (by omega)) (ifp (by decide) (ifp (by rw [toList_L, eD]; exact q2) (Ev.now _))))
            · refine zz _ (Ev.step (fun k => version_zzKube.j0.eq_2 ..) (ifn (by simp) (hd.bind ?_)))
              refine ifn (by omega) (ifn (by omega) ?_)
              have j1no : Ev (fun k => version_zzKube.j1 k s ((1 + n : Nat) : Int) false) ([] : List ByteArray) → Ev (fun k => if (s.size : Int) ≥ (wrap64 (((1 + n : Nat) : Int) + 5)) then (if 0 ≤ ((1 + n : Nat) : Int) then (if ((1 + n : Nat) : Int) ≤ (wrap64 (((1 + n : Nat) : Int) + 5)) then (if (wrap64 (((1 + n : Nat) : Int) + 5)) ≤ (s.size : Int) then (version_zzKube.j1 k s ((1 + n : Nat) : Int) ((s.extract (((1 + n : Nat) : Int)).toNat ((wrap64 (((1 + n : Nat) : Int) + 5)) : Int).toNat).toList == ([97, 108, 112, 104, 97] : List UInt8))) else (none)) else (none)) else (none)) else (version_zzKube.j1 k s ((1 + n : Nat) : Int) false)) ([] : List ByteArray) := by
                intro hj
                rw [w64 (x := ((1 + n : Nat) : Int) + 5) (by omega) (by omega)]
                by_cases h5 : (s.size : Int) ≥ ((1 + n : Nat) : Int) + 5
                · refine ifp h5 (ifp (by omega) (ifp (by omega) (ifp (by omega) ?_)))
                  rw [toList_L, show (((1 + n : Nat) : Int)).toNat = 1 + n from by omega, show (((1 + n : Nat) : Int) + 5).toNat = 1 + n + 5 from by omega, hR2, beq_eq_false_iff_ne.mpr hA]
                  exact hj
                · exact ifn h5 hj
              refine j1no (Ev.step (fun k => version_zzKube.j1.eq_2 ..) (ifn (by simp) ?_))
              rw [w64 (x := ((1 + n : Nat) : Int) + 4) (by omega) (by omega)]
              refine ifp (by omega) (ifp (by omega) (ifp (by omega) (ifp (by omega) ?_)))
              rw [toList_L, show (((1 + n : Nat) : Int)).toNat = 1 + n from by omega, show (((1 + n : Nat) : Int) + 4).toNat = 1 + n + 4 from by omega, hR2, hB]
              refine Ev.step (fun k => version_zzKube.j2.eq_2 ..) (ifp rfl ?_)
              rw [w64 (x := ((1 + n : Nat) : Int) + 4) (by omega) (by omega), show ((1 + n : Nat) : Int) + 4 = ((1 + n + 4 : Nat) : Int) from by omega]
              refine hd5.bind ?_
              exact ifp (by have : n2 = 0 := by rw [← hn2, q2]; rfl
                            rw [this]) (Ev.now _)
          · have hn2p : 0 < n2 := by rw [← hn2]; exact List.length_pos_iff.2 q2
            refine .inr ⟨1, M, D, (⟨#[98, 101, 116, 97]⟩ : ByteArray), ⟨.inr (.inl ⟨rfl, rfl, by rw [eD]; exact q2⟩), by rw [eM]; exact hdl, by rw [eM]; exact q0, by rw [eD]; exact hg5⟩, kk _ ?_, ?_⟩
            · refine Ev.step (fun k => spec_Kube.j0.eq_2 ..) (ifn (by simp) (ifp (by omega) (hv.bind (cb (head_eq R _) ?_))))
              dsimp only
              refine ifn (by rw [eR, alpha5]; simpa using hA) (cb (head_eq R _) ?_)
              refine ifp (by rw [eR, beta4]; simpa using hB) (ifp (by omega) (hv5.bind ?_))
              dsimp only
              refine ifn (by rw [toList_L, eM]; exact q0) (ifp (by rw [toList_L]; exact List.eq_nil_of_length_eq_zero (by omega)) (ifp (by decide) (ifn (by rw [toList_L, eD]; exact q2) ?_)))
              by_cases z18 : (M.size : Int) ≤ 18
              · refine ifp z18 (now ?_)
                congr 4
                exact decide_eq_decide.2 ⟨fun x => ⟨by omega, by omega⟩, fun x => by omega⟩
              · refine ifn z18 (now ?_)
                rw [decide_eq_false (by omega : ¬ (M.size ≤ 18 ∧ D.size ≤ 18))]
            · refine zz _ (Ev.step (fun k => version_zzKube.j0.eq_2 ..) (ifn (by simp) (hd.bind ?_)))
              refine ifn (by omega) (ifn (by omega) ?_)
              have j1no : Ev (fun k => version_zzKube.j1 k s ((1 + n : Nat) : Int) false) [s, M, (⟨#[98, 101, 116, 97]⟩ : ByteArray), D] → Ev (fun k => if (s.size : Int) ≥ (wrap64 (((1 + n : Nat) : Int) + 5)) then (if 0 ≤ ((1 + n : Nat) : Int) then (if ((1 + n : Nat) : Int) ≤ (wrap64 (((1 + n : Nat) : Int) + 5)) then (if (wrap64 (((1 + n : Nat) : Int) + 5)) ≤ (s.size : Int) then (version_zzKube.j1 k s ((1 + n : Nat) : Int) ((s.extract (((1 + n : Nat) : Int)).toNat ((wrap64 (((1 + n : Nat) : Int) + 5)) : Int).toNat).toList == ([97, 108, 112, 104, 97] : List UInt8))) else (none)) else (none)) else (none)) else (version_zzKube.j1 k s ((1 + n : Nat) : Int) false)) [s, M, (⟨#[98, 101, 116, 97]⟩ : ByteArray), D] := by
                intro hj
                rw [w64 (x := ((1 + n : Nat) : Int) + 5) (by omega) (by omega)]
                by_cases h5 : (s.size : Int) ≥ ((1 + n : Nat) : Int) + 5
                · refine ifp h5 (ifp (by omega) (ifp (by omega) (ifp (by omega) ?_)))
                  rw [toList_L, show (((1 + n : Nat) : Int)).toNat = 1 + n from by omega, show (((1 + n : Nat) : Int) + 5).toNat = 1 + n + 5 from by omega, hR2, beq_eq_false_iff_ne.mpr hA]
                  exact hj
                · exact ifn h5 hj
              refine j1no (Ev.step (fun k => version_zzKube.j1.eq_2 ..) (ifn (by simp) ?_))
              rw [w64 (x := ((1 + n : Nat) : Int) + 4) (by omega) (by omega)]
              refine ifp (by omega) (ifp (by omega) (ifp (by omega) (ifp (by omega) ?_)))
              rw [toList_L, show (((1 + n : Nat) : Int)).toNat = 1 + n from by omega, show (((1 + n : Nat) : Int) + 4).toNat = 1 + n + 4 from by omega, hR2, hB]
              refine Ev.step (fun k => version_zzKube.j2.eq_2 ..) (ifp rfl ?_)
              rw [w64 (x := ((1 + n : Nat) : Int) + 4) (by omega) (by omega), show ((1 + n : Nat) : Int) + 4 = ((1 + n + 4 : Nat) : Int) from by omega]
              refine hd5.bind ?_
              refine ifn (by omega) (ifn (by omega) (ifp (by omega) (ifp (by omega) ?_)))
              refine ifp (by omega) (ifp (by omega) (now ?_))
              have eD2 : s.extract (1 + n + 4) s.size = D := by
                apply L_inj
                rw [L_from, hR1, eD, hf5 q1]
              rw [show (((1 + n : Nat) : Int)).toNat = 1 + n from by omega, show (((1 + n + 4 : Nat) : Int)).toNat = 1 + n + 4 from by omega, eM2, eD2]
        · refine .inl ⟨kk _ ?_, ?_⟩
          · refine Ev.step (fun k => spec_Kube.j0.eq_2 ..) (ifn (by simp) (ifp (by omega) (hv.bind (cb (head_eq R _) ?_))))
            dsimp only
            refine ifn (by rw [eR, alpha5]; simpa using hA) (cb (head_eq R _) ?_)
            refine ifp (by rw [eR, beta4]; simpa using hB) (ifp (by omega) (hv5.bind ?_))
            dsimp only
            exact ifn (by rw [toList_L, eM]; exact q0) (ifn (by rw [toList_L]; intro x; rw [x] at zE; simp at zE; omega) (Ev.now _))
          · refine zz _ (Ev.step (fun k => version_zzKube.j0.eq_2 ..) (ifn (by simp) (hd.bind ?_)))
            refine ifn (by omega) (ifn (by omega) ?_)
            have j1no : Ev (fun k => version_zzKube.j1 k s ((1 + n : Nat) : Int) false) ([] : List ByteArray) → Ev (fun k => if (s.size : Int) ≥ (wrap64 (((1 + n : Nat) : Int) + 5)) then (if 0 ≤ ((1 + n : Nat) : Int) then (if ((1 + n : Nat) : Int) ≤ (wrap64 (((1 + n : Nat) : Int) + 5)) then (if (wrap64 (((1 + n : Nat) : Int) + 5)) ≤ (s.size : Int) then (version_zzKube.j1 k s ((1 + n : Nat) : Int) ((s.extract (((1 + n : Nat) : Int)).toNat ((wrap64 (((1 + n : Nat) : Int) + 5)) : Int).toNat).toList == ([97, 108, 112, 104, 97] : List UInt8))) else (none)) else (none)) else (none)) else (version_zzKube.j1 k s ((1 + n : Nat) : Int) false)) ([] : List ByteArray) := by
              intro hj
              rw [w64 (x := ((1 + n : Nat) : Int) + 5) (by omega) (by omega)]
              by_cases h5 : (s.size : Int) ≥ ((1 + n : Nat) : Int) + 5
              · refine ifp h5 (ifp (by omega) (ifp (by omega) (ifp (by omega) ?_)))
                rw [toList_L, show (((1 + n : Nat) : Int)).toNat = 1 + n from by omega, show (((1 + n : Nat) : Int) + 5).toNat = 1 + n + 5 from by omega, hR2, beq_eq_false_iff_ne.mpr hA]
                exact hj
              · exact ifn h5 hj
            refine j1no (Ev.step (fun k => version_zzKube.j1.eq_2 ..) (ifn (by simp) ?_))
            rw [w64 (x := ((1 + n : Nat) : Int) + 4) (by omega) (by omega)]
            refine ifp (by omega) (ifp (by omega) (ifp (by omega) (ifp (by omega) ?_)))
            rw [toList_L, show (((1 + n : Nat) : Int)).toNat = 1 + n from by omega, show (((1 + n : Nat) : Int) + 4).toNat = 1 + n + 4 from by omega, hR2, hB]
            refine Ev.step (fun k => version_zzKube.j2.eq_2 ..) (ifp rfl ?_)
            rw [w64 (x := ((1 + n : Nat) : Int) + 4) (by omega) (by omega), show ((1 + n : Nat) : Int) + 4 = ((1 + n + 4 : Nat) : Int) from by omega]
            refine hd5.bind ?_
            by_cases q3 : n2 = 0
            · exact ifp (by rw [q3]) (Ev.now _)
            · exact ifn (by omega) (ifp (by omega) (Ev.now _))
    · by_cases q0 : m = []
      · refine .inl ⟨kk _ ?_, ?_⟩
        · refine Ev.step (fun k => spec_Kube.j0.eq_2 ..) (ifn (by simp) (ifp (by omega) (hv.bind (cb (head_eq R _) ?_))))
          dsimp only
          refine ifn (by rw [eR, alpha5]; simpa using hA) (cb (head_eq R _) (ifn (by rw [eR, beta4]; simpa using hB) ?_))
          exact ifp (by rw [toList_L, eM]; exact q0) (Ev.now _)
        · refine zz _ (Ev.step (fun k => version_zzKube.j0.eq_2 ..) (ifn (by simp) (hd.bind ?_)))
          exact ifp (by rw [← hn, q0]; rfl) (Ev.now _)
      · have hn0 : 0 < n := by rw [← hn]; exact List.length_pos_iff.2 q0
        by_cases q1 : r = []
        · have hr0 : r.length = 0 := by rw [q1]; rfl
          have hM3 : s.extract 1 s.size = M := by
            apply L_inj
            rw [e1, eM, htr, q1]; simp
          refine .inr ⟨2, M, (⟨#[]⟩ : ByteArray), (⟨#[]⟩ : ByteArray), ⟨.inr (.inr ⟨rfl, rfl, rfl⟩), by rw [eM]; exact hdl, by rw [eM]; exact q0, fun c hc => by simp [L_nil] at hc⟩, kk _ ?_, ?_⟩
          · refine Ev.step (fun k => spec_Kube.j0.eq_2 ..) (ifn (by simp) (ifp (by omega) (hv.bind (cb (head_eq R _) ?_))))
            dsimp only
            refine ifn (by rw [eR, alpha5]; simpa using hA) (cb (head_eq R _) (ifn (by rw [eR, beta4]; simpa using hB) ?_))
            refine ifn (by rw [toList_L, eM]; exact q0) (ifp (by rw [toList_L, eR]; exact q1) (ifn (by decide) ?_))
            have z0 : (⟨#[]⟩ : ByteArray).size = 0 := rfl
            rw [z0]
            by_cases z18 : (M.size : Int) ≤ 18
            · refine ifp z18 (now ?_)
              congr 4
              exact decide_eq_decide.2 ⟨fun x => ⟨by omega, by omega⟩, fun x => by omega⟩
            · refine ifn z18 (now ?_)
              rw [decide_eq_false (by omega : ¬ (M.size ≤ 18 ∧ 0 ≤ 18))]
          · refine zz _ (Ev.step (fun k => version_zzKube.j0.eq_2 ..) (ifn (by simp) (hd.bind ?_)))
            refine ifn (by omega) (ifp (by omega) (ifp (by omega) (now ?_)))
            rw [hM3]
        · have hr0 : 0 < r.length := List.length_pos_iff.2 q1
          refine .inl ⟨kk _ ?_, ?_⟩
          · refine Ev.step (fun k => spec_Kube.j0.eq_2 ..) (ifn (by simp) (ifp (by omega) (hv.bind (cb (head_eq R _) ?_))))
            dsimp only
            refine ifn (by rw [eR, alpha5]; simpa using hA) (cb (head_eq R _) (ifn (by rw [eR, beta4]; simpa using hB) ?_))
            exact ifn (by rw [toList_L, eM]; exact q0) (ifn (by rw [toList_L, eR]; exact q1) (Ev.now _))
          · refine zz _ (Ev.step (fun k => version_zzKube.j0.eq_2 ..) (ifn (by simp) (hd.bind ?_)))
            refine ifn (by omega) (ifn (by omega) ?_)
            have j2no : Ev (fun k => version_zzKube.j2 k s ((1 + n : Nat) : Int) false) ([] : List ByteArray) := Ev.step (fun k => version_zzKube.j2.eq_2 ..) (ifn (by simp) (Ev.now _))
            have j1no : Ev (fun k => version_zzKube.j1 k s ((1 + n : Nat) : Int) false) ([] : List ByteArray) := by
              refine Ev.step (fun k => version_zzKube.j1.eq_2 ..) (ifn (by simp) ?_)
              rw [w64 (x := ((1 + n : Nat) : Int) + 4) (by omega) (by omega)]
              by_cases h4 : (s.size : Int) ≥ ((1 + n : Nat) : Int) + 4
              · refine ifp h4 (ifp (by omega) (ifp (by omega) (ifp (by omega) ?_)))
                rw [toList_L, show (((1 + n : Nat) : Int)).toNat = 1 + n from by omega, show (((1 + n : Nat) : Int) + 4).toNat = 1 + n + 4 from by omega, hR2, beq_eq_false_iff_ne.mpr hB]
                exact j2no
              · exact ifn h4 j2no
            rw [w64 (x := ((1 + n : Nat) : Int) + 5) (by omega) (by omega)]
            by_cases h5 : (s.size : Int) ≥ ((1 + n : Nat) : Int) + 5
            · refine ifp h5 (ifp (by omega) (ifp (by omega) (ifp (by omega) ?_)))
              rw [toList_L, show (((1 + n : Nat) : Int)).toNat = 1 + n from by omega, show (((1 + n : Nat) : Int) + 5).toNat = 1 + n + 5 from by omega, hR2, beq_eq_false_iff_ne.mpr hA]
              exact j1no
            · exact ifn h5 j1no

theorem reads (s : ByteArray) (hs : s.size ≤ 2147483647) : Reads s := by
  cases h : L s with
  | nil => exact kube_off s (.inl h)
  | cons c t =>
    by_cases hc : c.toNat = 118
    · have e : c = 118 := UInt8.toNat_inj.1 hc
      subst e
      exact kube_on s hs t h
    · exact kube_off s (.inr ⟨c, t, h, hc⟩)

/-! ### numbers -/
/-- How two numbers stand. -/
def cmpn (x y : Nat) : Int := if x < y then -1 else if y < x then 1 else 0
/-- The sign. -/
def sg (x : Int) : Int := if x < 0 then -1 else if x > 0 then 1 else 0

theorem val_lo : ∀ (l : List UInt8) (acc : Nat), acc * 10 ^ l.length ≤ val acc l
  | [], acc => by rw [show (10 : Nat) ^ ([] : List UInt8).length = 1 from rfl]; show _ ≤ acc; omega
  | c :: r, acc => by
    have h1 := val_lo r (acc * 10 + (c.toNat - 48))
    have h2 : acc * 10 ≤ acc * 10 + (c.toNat - 48) := by omega
    have h3 := Nat.mul_le_mul_right (10 ^ r.length) h2
    have h4 : acc * 10 * 10 ^ r.length = acc * 10 ^ (c :: r).length := by
      rw [List.length_cons, Nat.pow_succ, Nat.mul_assoc, Nat.mul_comm 10]
    show _ ≤ val (acc * 10 + (c.toNat - 48)) r
    rw [← h4]
    exact Nat.le_trans h3 h1

theorem val_mono {a b : List UInt8} (hl : a.length = b.length) (ha : digs a) {x y : Nat} (h : x < y) : val x a < val y b := by
  have h1 := val_lt a x ha
  have h2 := val_lo b y
  have h3 := Nat.mul_le_mul_right (10 ^ a.length) (show x + 1 ≤ y from h)
  rw [hl] at h1 h3
  omega

theorem NumOrder_l0 (A B : ByteArray) (hA : A.size ≤ 2147483648) (he : (L A).length = (L B).length) (dA : digs (L A)) (dB : digs (L B)) (n : Nat) : ∀ i acc : Nat, (L A).length - i = n → i ≤ (L A).length →
    Ev (fun k => spec_NumOrder.l0 k A B i) (cmpn (val acc ((L A).drop i)) (val acc ((L B).drop i))) := by
  have zA := size_L A
  have zB := size_L B
  induction n with
  | zero =>
    intro i acc hn hi
    rw [List.drop_eq_nil_of_le (by omega), List.drop_eq_nil_of_le (by omega)]
    refine Ev.step (fun k => spec_NumOrder.l0.eq_2 ..) (ifn (by omega) (now ?_))
    unfold cmpn; rw [if_neg (Nat.lt_irrefl _), if_neg (Nat.lt_irrefl _)]
  | succ n ih =>
    intro i acc hn hi
    have hlt : i < (L A).length := by omega
    have hlt2 : i < (L B).length := by omega
    refine Ev.step (fun k => spec_NumOrder.l0.eq_2 ..) (ifp (by omega) (ifp (by omega) (ifp (by omega) ?_)))
    rw [bt_L A i hlt, bt_L B i hlt2, List.drop_eq_getElem_cons hlt, List.drop_eq_getElem_cons hlt2, w64 (x := (i : Int) + 1) (by omega) (by omega)]
    have hc : dig (L A)[i] := dA _ (List.getElem_mem _)
    have hd : dig (L B)[i] := dB _ (List.getElem_mem _)
    have hrl : ((L A).drop (i + 1)).length = ((L B).drop (i + 1)).length := by rw [List.length_drop, List.length_drop, he]
    have dr : digs ((L A).drop (i + 1)) := fun c hc => dA c (List.mem_of_mem_drop hc)
    have dr2 : digs ((L B).drop (i + 1)) := fun c hc => dB c (List.mem_of_mem_drop hc)
    generalize (L A)[i] = c at hc ⊢
    generalize (L B)[i] = d at hd ⊢
    have e1 : val acc (c :: (L A).drop (i + 1)) = val (acc * 10 + (c.toNat - 48)) ((L A).drop (i + 1)) := rfl
    have e2 : val acc (d :: (L B).drop (i + 1)) = val (acc * 10 + (d.toNat - 48)) ((L B).drop (i + 1)) := rfl
    rw [e1, e2]
    unfold dig at hc hd
    by_cases h : (c.toNat : Int) = (d.toNat : Int)
    · refine ifp h ?_
      rw [show c.toNat = d.toNat from by omega]
      exact ih (i + 1) (acc * 10 + (d.toNat - 48)) (by omega) (by omega)
    · refine ifn h ?_
      by_cases h2 : (c.toNat : Int) < (d.toNat : Int)
      · refine ifp h2 (now ?_)
        have := val_mono hrl dr (show acc * 10 + (c.toNat - 48) < acc * 10 + (d.toNat - 48) from by omega)
        unfold cmpn; rw [if_pos this]
      · refine ifn h2 (now ?_)
        have := val_mono hrl.symm dr2 (show acc * 10 + (d.toNat - 48) < acc * 10 + (c.toNat - 48) from by omega)
        unfold cmpn; rw [if_neg (by omega), if_pos this]

theorem longer {a b : List UInt8} (hl : a.length < b.length) (ha : digs a) (hb : digs b) (nz : ∀ r, b ≠ 48 :: r) : val 0 a < val 0 b := by
  cases b with
  | nil => simp at hl
  | cons c r =>
    obtain ⟨hc, hr⟩ := digs_cons.1 hb
    have h1 := val_lt a 0 ha
    have h2 := val_lo r (0 * 10 + (c.toNat - 48))
    have h3 : (10 : Nat) ^ a.length ≤ 10 ^ r.length := Nat.pow_le_pow_right (by decide) (by simp at hl; omega)
    have hn : c.toNat ≠ 48 := fun e => nz r (by rw [show c = 48 from UInt8.toNat_inj.1 e])
    unfold dig at hc
    have h4 := Nat.mul_le_mul_right (10 ^ r.length) (show 1 ≤ 0 * 10 + (c.toNat - 48) from by omega)
    show _ < val (0 * 10 + (c.toNat - 48)) r
    omega

theorem NumOrder_ev (A B : ByteArray) (hA : A.size ≤ 2147483648) (dA : digs (L A)) (dB : digs (L B)) (nA : ∀ r, L A ≠ 48 :: r) (nB : ∀ r, L B ≠ 48 :: r) :
    Ev (fun k => spec_NumOrder.f k A B) (cmpn (val 0 (L A)) (val 0 (L B))) := by
  have zA := size_L A
  have zB := size_L B
  unfold spec_NumOrder.f
  by_cases h : (A.size : Int) = (B.size : Int)
  · refine ifp h ?_
    have := NumOrder_l0 A B hA (by omega) dA dB _ 0 0 rfl (by omega)
    simp only [List.drop_zero] at this
    exact this
  · refine ifn h ?_
    by_cases h2 : (A.size : Int) < (B.size : Int)
    · refine ifp h2 (now ?_)
      have := longer (show (L A).length < (L B).length from by omega) dA dB nB
      unfold cmpn; rw [if_pos this]
    · refine ifn h2 (now ?_)
      have := longer (show (L B).length < (L A).length from by omega) dB dA nA
      unfold cmpn; rw [if_neg (by omega), if_pos this]

theorem first {s : ByteArray} {c : UInt8} {r : List UInt8} (h : L s = c :: r) : bt s 0 = (c.toNat : Int) := by
  have h1 := bt_L s 0 (by rw [h]; simp)
  have h2 : (L s)[0]'(by rw [h]; simp) = c := by simp [h]
  rw [h2] at h1
  exact h1

theorem verNumber_l1 (A : ByteArray) (hA : A.size ≤ 2147483648) (dA : digs (L A)) (nA : ∀ r, L A ≠ 48 :: r) (n : Nat) : ∀ B : ByteArray, (L B).length = n → digs (L B) →
    Ev (fun k => spec_verNumber.l1 k A B) (cmpn (val 0 (L A)) (val 0 (L B))) := by
  induction n with
  | zero =>
    intro B hn dB
    have zB := size_L B
    have e : L B = [] := List.eq_nil_of_length_eq_zero hn
    exact Ev.step (fun k => spec_verNumber.l1.eq_2 ..) (ifn (by omega) ((NumOrder_ev A B hA dA dB nA (by rw [e]; simp)).bind (Ev.now _)))
  | succ n ih =>
    intro B hn dB
    have zB := size_L B
    refine Ev.step (fun k => spec_verNumber.l1.eq_2 ..) (ifp (by omega) (ifp (by omega) ?_))
    cases h : L B with
    | nil => rw [h] at hn; simp at hn
    | cons c r =>
      rw [first h]
      by_cases hc : (c.toNat : Int) = 48
      · refine ifp hc (ifp (by omega) ?_)
        have e : L (B.extract 1 B.size) = r := by rw [L_from, h]; rfl
        have hc2 : c = 48 := UInt8.toNat_inj.1 (show c.toNat = (48 : UInt8).toNat from by rw [show (48 : UInt8).toNat = 48 from rfl]; omega)
        subst hc2
        have e2 : val 0 (48 :: r) = val 0 (L (B.extract 1 B.size)) := by rw [e]; rfl
        rw [e2]
        refine ih _ ?_ ?_
        · rw [e]; rw [h] at hn; simp at hn; exact hn
        · rw [e]; rw [h] at dB; exact (digs_cons.1 dB).2
      · refine ifn hc ((NumOrder_ev A B hA dA dB nA ?_).bind (now ?_))
        · intro r2 e
          rw [h] at e
          injection e with e1
          rw [e1] at hc
          exact hc rfl
        · rw [h]

theorem verNumber_l0 (B : ByteArray) (dB : digs (L B)) (n : Nat) : ∀ A : ByteArray, A.size ≤ 2147483648 → (L A).length = n → digs (L A) →
    Ev (fun k => spec_verNumber.l0 k A B) (cmpn (val 0 (L A)) (val 0 (L B))) := by
  have go : ∀ A : ByteArray, A.size ≤ 2147483648 → digs (L A) → (∀ r, L A ≠ 48 :: r) → Ev (fun k => spec_verNumber.j1 k A B) (cmpn (val 0 (L A)) (val 0 (L B))) := fun A hA dA nA =>
    Ev.step (fun k => spec_verNumber.j1.eq_2 ..) (verNumber_l1 A hA dA nA _ B rfl dB)
  induction n with
  | zero =>
    intro A hA hn dA
    have zA := size_L A
    have e : L A = [] := List.eq_nil_of_length_eq_zero hn
    exact Ev.step (fun k => spec_verNumber.l0.eq_2 ..) (ifn (by omega) (go A hA dA (by rw [e]; simp)))
  | succ n ih =>
    intro A hA hn dA
    have zA := size_L A
    refine Ev.step (fun k => spec_verNumber.l0.eq_2 ..) (ifp (by omega) (ifp (by omega) ?_))
    cases h : L A with
    | nil => rw [h] at hn; simp at hn
    | cons c r =>
      rw [first h]
      by_cases hc : (c.toNat : Int) = 48
      · refine ifp hc (ifp (by omega) ?_)
        have e : L (A.extract 1 A.size) = r := by rw [L_from, h]; rfl
        have hc2 : c = 48 := UInt8.toNat_inj.1 (show c.toNat = (48 : UInt8).toNat from by rw [show (48 : UInt8).toNat = 48 from rfl]; omega)
        subst hc2
        have e2 : val 0 (48 :: r) = val 0 (L (A.extract 1 A.size)) := by rw [e]; rfl
        rw [e2]
        refine ih _ ?_ ?_ ?_
        · rw [size_L, e]; rw [h] at hn; simp at hn; rw [h] at zA; simp at zA; omega
        · rw [e]; rw [h] at hn; simp at hn; exact hn
        · rw [e]; rw [h] at dA; exact (digs_cons.1 dA).2
      · refine ifn hc ?_
        rw [← h]
        refine go A hA dA ?_
        intro r2 e
        rw [h] at e
        injection e with e1
        rw [e1] at hc
        exact hc rfl

theorem verNumber_ev (A B : ByteArray) (hA : A.size ≤ 2147483648) (dA : digs (L A)) (dB : digs (L B)) : Ev (fun k => spec_verNumber.f k A B) (cmpn (val 0 (L A)) (val 0 (L B))) :=
  verNumber_l0 B dB _ A hA rfl dA

theorem sign_eq (x : Int) : spec_verSign.f x = some (sg x) := by
  unfold spec_verSign.f sg
  by_cases h : x < 0
  · rw [if_pos h, if_pos h]
  · rw [if_neg h, if_neg h]
    by_cases h2 : x > 0
    · rw [if_pos h2, if_pos h2]
    · rw [if_neg h2, if_neg h2]

theorem Sign_eq (x : Int) : spec_Sign.f x = some (sg x) := by unfold spec_Sign.f; rw [sign_eq]; rfl

theorem sg_sub (x y : Nat) : sg ((x : Int) - (y : Int)) = cmpn x y := by
  unfold sg cmpn
  by_cases h : x < y
  · rw [if_pos (by omega), if_pos h]
  · rw [if_neg (by omega), if_neg h]
    by_cases h2 : y < x
    · rw [if_pos (by omega), if_pos h2]
    · rw [if_neg (by omega), if_neg h2]

/-! ### the two orders -/
/-- One text is less than another one, byte by byte. -/
def lt (a b : ByteArray) : Bool := Op.bytesLess a.toList b.toList
def off : Int × ByteArray × ByteArray × Bool × Bool := (0, (⟨#[]⟩ : ByteArray), (⟨#[]⟩ : ByteArray), false, true)
/-- How two versions of kinds stand. -/
def stand (t : Int) (M D : ByteArray) (u : Int) (P Q : ByteArray) : Int :=
  if t = u then (if cmpn (val 0 (L M)) (val 0 (L P)) = 0 then cmpn (val 0 (L D)) (val 0 (L Q)) else cmpn (val 0 (L M)) (val 0 (L P))) else sg (t - u)

theorem order_nn (a b : ByteArray) (ha : Ev (fun k => spec_Kube.f k a) off) (hb : Ev (fun k => spec_Kube.f k b) off) :
    Ev (fun k => spec_KubeOrder.f k a b) (if lt a b = true then 1 else if lt b a = true then -1 else 0, true) := by
  unfold spec_KubeOrder.f
  refine ha.bind (hb.bind (ifp rfl ?_))
  refine Ev.step (fun k => spec_KubeOrder.j0.eq_2 ..) (ifn (by simp [off]) (ifn (by simp [off]) ?_))
  refine Ev.step (fun k => spec_KubeOrder.j1.eq_2 ..) (ifn (by simp) (ifn (by simp [off]) ?_))
  refine Ev.step (fun k => spec_KubeOrder.j2.eq_2 ..) (ifn (by simp [off]) (ifn (by simp [off]) ?_))
  by_cases h1 : lt a b = true
  · rw [if_pos h1]
    exact Ev.step (fun k => spec_KubeOrder.j3.eq_2 ..) (ifp h1 (Ev.now _))
  · rw [if_neg h1]
    refine Ev.step (fun k => spec_KubeOrder.j3.eq_2 ..) (ifn h1 (ifn (by simp [off]) ?_))
    by_cases h2 : lt b a = true
    · rw [if_pos h2]
      exact Ev.step (fun k => spec_KubeOrder.j4.eq_2 ..) (ifp h2 (Ev.now _))
    · rw [if_neg h2]
      exact Ev.step (fun k => spec_KubeOrder.j4.eq_2 ..) (ifn h2 (ifn (by simp [off]) (Ev.now _)))

theorem order_yn (a b : ByteArray) (t : Int) (M D : ByteArray) (ha : Ev (fun k => spec_Kube.f k a) (t, M, D, true, true)) (hb : Ev (fun k => spec_Kube.f k b) off) : Ev (fun k => spec_KubeOrder.f k a b) (1, true) := by
  unfold spec_KubeOrder.f
  refine ha.bind (hb.bind (ifp rfl ?_))
  refine Ev.step (fun k => spec_KubeOrder.j0.eq_2 ..) (ifn (by simp [off]) (ifp rfl ?_))
  exact Ev.step (fun k => spec_KubeOrder.j1.eq_2 ..) (ifp (by simp [off]) (Ev.now _))

theorem order_ny (a b : ByteArray) (t : Int) (M D : ByteArray) (ha : Ev (fun k => spec_Kube.f k a) off) (hb : Ev (fun k => spec_Kube.f k b) (t, M, D, true, true)) : Ev (fun k => spec_KubeOrder.f k a b) (-1, true) := by
  unfold spec_KubeOrder.f
  refine ha.bind (hb.bind (ifp rfl ?_))
  refine Ev.step (fun k => spec_KubeOrder.j0.eq_2 ..) (ifn (by simp) (ifn (by simp [off]) ?_))
  refine Ev.step (fun k => spec_KubeOrder.j1.eq_2 ..) (ifn (by simp) (ifn (by simp [off]) ?_))
  exact Ev.step (fun k => spec_KubeOrder.j2.eq_2 ..) (ifp rfl (Ev.now _))

theorem order_yy (a b : ByteArray) (t : Int) (M D : ByteArray) (u : Int) (P Q : ByteArray) (ha : Ev (fun k => spec_Kube.f k a) (t, M, D, true, true)) (hb : Ev (fun k => spec_Kube.f k b) (u, P, Q, true, true))
    (hM : M.size ≤ 18) (hD : D.size ≤ 18) (dM : digs (L M)) (dD : digs (L D)) (dP : digs (L P)) (dQ : digs (L Q)) (ht : 0 ≤ t ∧ t ≤ 2) (hu : 0 ≤ u ∧ u ≤ 2) :
    Ev (fun k => spec_KubeOrder.f k a b) (stand t M D u P Q, true) := by
  unfold spec_KubeOrder.f
  refine ha.bind (hb.bind (ifp rfl ?_))
  refine Ev.step (fun k => spec_KubeOrder.j0.eq_2 ..) (ifn (by simp) (ifp rfl ?_))
  refine Ev.step (fun k => spec_KubeOrder.j1.eq_2 ..) (ifn (by simp) (ifp rfl ?_))
  refine Ev.step (fun k => spec_KubeOrder.j2.eq_2 ..) (ifn (by simp) (ifp rfl ?_))
  refine Ev.step (fun k => spec_KubeOrder.j3.eq_2 ..) (ifn (by simp) (ifp rfl ?_))
  refine Ev.step (fun k => spec_KubeOrder.j4.eq_2 ..) (ifn (by simp) (ifp rfl ?_))
  dsimp only
  unfold stand
  by_cases h : t = u
  · rw [if_pos h]
    refine ifp h ((verNumber_ev M P (by omega) dM dP).bind ?_)
    by_cases h2 : cmpn (val 0 (L M)) (val 0 (L P)) = 0
    · rw [if_pos h2]
      exact ifp h2 ((verNumber_ev D Q (by omega) dD dQ).bind (Ev.now _))
    · rw [if_neg h2]
      exact ifn h2 (Ev.now _)
  · rw [if_neg h]
    refine ifn h (cb (sign_eq _) (now ?_))
    rw [w64 (by omega) (by omega)]

theorem order_open (a b : ByteArray) (x y : Int × ByteArray × ByteArray × Bool × Bool) (ha : Ev (fun k => spec_Kube.f k a) x) (hb : Ev (fun k => spec_Kube.f k b) y) (h : ¬ (x.2.2.2.2 = true ∧ y.2.2.2.2 = true)) :
    Ev (fun k => spec_KubeOrder.f k a b) (0, false) := by
  unfold spec_KubeOrder.f
  refine ha.bind (hb.bind ?_)
  by_cases h1 : x.2.2.2.2 = true
  · refine ifp h1 (Ev.step (fun k => spec_KubeOrder.j0.eq_2 ..) (ifp ?_ (Ev.now _)))
    have : ¬ y.2.2.2.2 = true := fun e => h ⟨h1, e⟩
    simpa using this
  · exact ifn h1 (Ev.step (fun k => spec_KubeOrder.j0.eq_2 ..) (ifp rfl (Ev.now _)))

theorem whole_digs {l : List UInt8} (hd : digs l) (hne : l ≠ []) (h18 : l.length ≤ 18) : whole (-9223372036854775808) 9223372036854775807 l = some ((val 0 l : Nat) : Int) := by
  have h1 := val_lt l 0 hd
  have h2 : (10 : Nat) ^ l.length ≤ 10 ^ 18 := Nat.pow_le_pow_right (by decide) h18
  have h3 : (10 : Nat) ^ 18 = 1000000000000000000 := by decide
  cases l with
  | nil => exact absurd rfl hne
  | cons c r =>
    obtain ⟨hc, hr⟩ := digs_cons.1 hd
    unfold dig at hc
    have hb : body (c :: r) = c :: r := by show (if _ then _ else _) = _; rw [if_neg (by omega)]
    have hn : neg (c :: r) = false := by show decide _ = _; exact decide_eq_false (by omega)
    unfold whole num
    rw [hb, hn]
    simp only [Bool.false_eq_true, if_false]
    rw [if_pos ⟨hne, hd, by omega, by omega⟩]

theorem parse_no (s : ByteArray) (h : Ev (fun k => version_zzKube.f k s) []) : Ev (fun k => version_parseKubeVersion.f k s) (0, 0, 0, false) := by
  unfold version_parseKubeVersion.f
  refine h.bind (ifp ?_ (now rfl))
  have e : rdOf ByteArray.empty ([] : List ByteArray) 1 = ByteArray.empty := rfl
  have e3 : rdOf ByteArray.empty ([] : List ByteArray) 3 = ByteArray.empty := rfl
  rw [e, e3]
  exact ⟨Nat.zero_le _, Nat.zero_le _⟩

theorem parse_yes (s : ByteArray) (t : Int) (M D W : ByteArray) (hk : IsKube t M D W) (hM : M.size ≤ 18) (hD : D.size ≤ 18) (h : Ev (fun k => version_zzKube.f k s) [s, M, W, D]) :
    Ev (fun k => version_parseKubeVersion.f k s) (((val 0 (L M) : Nat) : Int), t, ((val 0 (L D) : Nat) : Int), true) := by
  unfold version_parseKubeVersion.f
  have r1 : rdOf ByteArray.empty [s, M, W, D] 1 = M := rfl
  have r2 : rdOf ByteArray.empty [s, M, W, D] 2 = W := rfl
  have r3 : rdOf ByteArray.empty [s, M, W, D] 3 = D := rfl
  have zM := size_L M
  have zD := size_L D
  refine h.bind (ifp (by rw [r1, r3]; omega) (now ?_))
  have wM : whole (-9223372036854775808) 9223372036854775807 M.data.toList = some ((val 0 (L M) : Nat) : Int) := whole_digs hk.major hk.some (show (L M).length ≤ 18 from by omega)
  unfold kubeOf kubeRest
  rw [r1, r2, r3, wM, if_pos (show (([s, M, W, D].length : Nat) : Int) = 4 from rfl), toList_L]
  rcases hk.word with ⟨rfl, hw, hd⟩ | ⟨rfl, hw, hd⟩ | ⟨rfl, hw, hd⟩
  · have wD : whole (-9223372036854775808) 9223372036854775807 D.data.toList = some ((val 0 (L D) : Nat) : Int) := whole_digs hk.minor hd (show (L D).length ≤ 18 from by omega)
    rw [if_pos hw, wD]
    rfl
  · have wD : whole (-9223372036854775808) 9223372036854775807 D.data.toList = some ((val 0 (L D) : Nat) : Int) := whole_digs hk.minor hd (show (L D).length ≤ 18 from by omega)
    rw [if_neg (by rw [hw]; decide), if_pos hw, wD]
    rfl
  · rw [if_neg (by rw [hw]; decide), if_neg (by rw [hw]; decide), if_pos hw, hd]
    rfl

abbrev CK := version_CompareKubeAwareVersionStrings.f

theorem lt_self (a : ByteArray) : lt a a = false := by
  unfold lt
  have := gt_eq a.toList a.toList
  simpa using this

theorem ck_same (a : ByteArray) : Ev (fun k => CK k a a) 0 := by
  unfold CK version_CompareKubeAwareVersionStrings.f
  exact ifp rfl (Ev.now _)

theorem ck_nn (a b : ByteArray) (hab : ¬ a.toList = b.toList) (ha : Ev (fun k => version_parseKubeVersion.f k a) (0, 0, 0, false)) (hb : Ev (fun k => version_parseKubeVersion.f k b) (0, 0, 0, false)) :
    Ev (fun k => CK k a b) (if lt b a = true then -1 else if lt a b = true then 1 else 0) := by
  unfold CK version_CompareKubeAwareVersionStrings.f
  refine ifn hab (ha.bind (hb.bind (ifn (by simp) ?_)))
  refine Ev.step (fun k => version_CompareKubeAwareVersionStrings.j0.eq_2 ..) (ifp (by simp) ?_)
  have e : ∀ k, strings_Compare.f k b a = some (if lt b a = true then -1 else if lt a b = true then 1 else 0) := by
    intro k
    unfold strings_Compare.f lt
    rw [cmp_eq, toList_L, toList_L]; rfl
  exact (Ev.congr e (Ev.now _)).bind (Ev.now _)

theorem ck_yn (a b : ByteArray) (x t y : Int) (hab : ¬ a.toList = b.toList) (ha : Ev (fun k => version_parseKubeVersion.f k a) (x, t, y, true)) (hb : Ev (fun k => version_parseKubeVersion.f k b) (0, 0, 0, false)) :
    Ev (fun k => CK k a b) 1 := by
  unfold CK version_CompareKubeAwareVersionStrings.f
  refine ifn hab (ha.bind (hb.bind (ifp rfl ?_)))
  refine Ev.step (fun k => version_CompareKubeAwareVersionStrings.j0.eq_2 ..) (ifn (by simp) (ifp rfl ?_))
  exact Ev.step (fun k => version_CompareKubeAwareVersionStrings.j1.eq_2 ..) (ifn (by simp) (ifp rfl (ifn (by simp) (Ev.now _))))

theorem ck_ny (a b : ByteArray) (x t y : Int) (hab : ¬ a.toList = b.toList) (ha : Ev (fun k => version_parseKubeVersion.f k a) (0, 0, 0, false)) (hb : Ev (fun k => version_parseKubeVersion.f k b) (x, t, y, true)) :
    Ev (fun k => CK k a b) (-1) := by
  unfold CK version_CompareKubeAwareVersionStrings.f
  refine ifn hab (ha.bind (hb.bind (ifn (by simp) ?_)))
  refine Ev.step (fun k => version_CompareKubeAwareVersionStrings.j0.eq_2 ..) (ifn (by simp) (ifn (by simp) ?_))
  exact Ev.step (fun k => version_CompareKubeAwareVersionStrings.j1.eq_2 ..) (ifp rfl (Ev.now _))

theorem ck_yy (a b : ByteArray) (x t y x2 u y2 : Int) (hab : ¬ a.toList = b.toList) (ha : Ev (fun k => version_parseKubeVersion.f k a) (x, t, y, true)) (hb : Ev (fun k => version_parseKubeVersion.f k b) (x2, u, y2, true)) :
    Ev (fun k => CK k a b) (if t = u then (if x = x2 then wrap64 (y - y2) else wrap64 (x - x2)) else wrap64 (t - u)) := by
  unfold CK version_CompareKubeAwareVersionStrings.f
  refine ifn hab (ha.bind (hb.bind (ifp rfl ?_)))
  refine Ev.step (fun k => version_CompareKubeAwareVersionStrings.j0.eq_2 ..) (ifn (by simp) (ifp rfl ?_))
  refine Ev.step (fun k => version_CompareKubeAwareVersionStrings.j1.eq_2 ..) (ifn (by simp) (ifp rfl (ifp rfl ?_)))
  refine Ev.step (fun k => version_CompareKubeAwareVersionStrings.j2.eq_2 ..) ?_
  dsimp only
  by_cases h : t = u
  · refine ifp h ?_
    by_cases h2 : x = x2
    · exact ifp h2 (now (by rw [if_pos h, if_pos h2]))
    · exact ifn h2 (now (by rw [if_pos h, if_neg h2]))
  · exact ifn h (now (by rw [if_neg h]))

theorem small (M : ByteArray) (d : digs (L M)) (h : M.size ≤ 18) : val 0 (L M) < 1000000000000000000 := by
  have h1 := val_lt (L M) 0 d
  have z := size_L M
  have h2 : (10 : Nat) ^ (L M).length ≤ 10 ^ 18 := Nat.pow_le_pow_right (by decide) (by omega)
  have h3 : (10 : Nat) ^ 18 = 1000000000000000000 := by decide
  omega

/-- The law behind its bounds. -/
theorem main (a b : ByteArray) (_ : a.size ≤ 2147483647) (_ : b.size ≤ 2147483647) (n : Int) (hO : Ev (fun k => spec_KubeOrder.f k a b) (n, true)) (c : Int) (hC : Ev (fun k => CK k a b) c) (h : sg c = n) :
    Ev (fun k => (spec_KubeOrder.f k a b).bind fun bt148 => (if bt148.2 = true then ((impl_KubeCompare.f k a b).bind fun t150 => ((spec_Sign.f t150).bind fun t151 => (some (t151 == bt148.1)))) else (some true))) true := by
  refine hO.bind (ifp rfl ?_)
  unfold impl_KubeCompare.f
  have hI : Ev (fun k => (version_CompareKubeAwareVersionStrings.f k a b).bind fun t123 => some t123) c := hC.bind (Ev.now _)
  refine hI.bind (cb (Sign_eq c) (now ?_))
  rw [h]; simp

theorem FnKubeCompare : QFnKubeCompare.Pure := by
  intro a b _ _
  refine Ev.rounds ?_
  unfold laws_FnKubeCompare.f
  have stop : Ev (fun k => laws_FnKubeCompare.j0 k a b true) true := Ev.step (fun k => laws_FnKubeCompare.j0.eq_2 ..) (ifp rfl (Ev.now _))
  by_cases z0 : (a.size : Int) > 2147483647
  · exact ifp z0 stop
  · refine ifn z0 ?_
    by_cases z1 : (b.size : Int) > 2147483647
    · rw [decide_eq_true z1]; exact stop
    · rw [decide_eq_false z1]
      have ha : a.size ≤ 2147483647 := by omega
      have hb : b.size ≤ 2147483647 := by omega
      refine Ev.step (fun k => laws_FnKubeCompare.j0.eq_2 ..) (ifn (by simp) ?_)
      have open_ : Ev (fun k => spec_KubeOrder.f k a b) (0, false) → Ev (fun k => (spec_KubeOrder.f k a b).bind fun bt148 => (if bt148.2 = true then ((impl_KubeCompare.f k a b).bind fun t150 => ((spec_Sign.f t150).bind fun t151 => (some (t151 == bt148.1)))) else (some true))) true := fun hO => hO.bind (ifn (by simp) (Ev.now _))
      have level : ∀ {t : Int} {M D W : ByteArray}, IsKube t M D W → 0 ≤ t ∧ t ≤ 2 := by
        intro t M D W hk
        rcases hk.word with ⟨rfl, _⟩ | ⟨rfl, _⟩ | ⟨rfl, _⟩ <;> omega
      by_cases hab : a.toList = b.toList
      · have e : a = b := L_inj (by rw [← toList_L, ← toList_L]; exact hab)
        subst e
        rcases reads a ha with ⟨hk, _⟩ | ⟨t, M, D, W, hi, hk, _⟩
        · refine main a a ha ha _ (order_nn a a hk hk) 0 (ck_same a) ?_
          rw [lt_self]; rfl
        · by_cases h18 : M.size ≤ 18 ∧ D.size ≤ 18
          · rw [decide_eq_true h18] at hk
            refine main a a ha ha _ (order_yy a a t M D t M D hk hk h18.1 h18.2 hi.major hi.minor hi.major hi.minor (level hi) (level hi)) 0 (ck_same a) ?_
            unfold stand
            rw [if_pos rfl, show cmpn (val 0 (L M)) (val 0 (L M)) = 0 from by unfold cmpn; rw [if_neg (Nat.lt_irrefl _), if_neg (Nat.lt_irrefl _)], if_pos rfl, show cmpn (val 0 (L D)) (val 0 (L D)) = 0 from by unfold cmpn; rw [if_neg (Nat.lt_irrefl _), if_neg (Nat.lt_irrefl _)]]
            rfl
          · rw [decide_eq_false h18] at hk
            exact open_ (order_open a a _ _ hk hk (by simp))
      · rcases reads a ha with ⟨hk, hz⟩ | ⟨t, M, D, W, hi, hk, hz⟩
        · rcases reads b hb with ⟨hk2, hz2⟩ | ⟨u, P, Q, X, hi2, hk2, hz2⟩
          · refine main a b ha hb _ (order_nn a b hk hk2) _ (ck_nn a b hab (parse_no a hz) (parse_no b hz2)) ?_
            have hg := gt_eq a.toList b.toList
            have hl : lt b a = !(lt a b || a.toList == b.toList) := hg
            rw [beq_eq_false_iff_ne.mpr hab, Bool.or_false] at hl
            rw [hl]
            cases lt a b <;> rfl
          · by_cases h18 : P.size ≤ 18 ∧ Q.size ≤ 18
            · rw [decide_eq_true h18] at hk2
              exact main a b ha hb _ (order_ny a b u P Q hk hk2) _ (ck_ny a b _ _ _ hab (parse_no a hz) (parse_yes b u P Q X hi2 h18.1 h18.2 hz2)) rfl
            · rw [decide_eq_false h18] at hk2
              exact open_ (order_open a b _ _ hk hk2 (by simp))
        · by_cases h18 : M.size ≤ 18 ∧ D.size ≤ 18
          · rw [decide_eq_true h18] at hk
            rcases reads b hb with ⟨hk2, hz2⟩ | ⟨u, P, Q, X, hi2, hk2, hz2⟩
            · exact main a b ha hb _ (order_yn a b t M D hk hk2) _ (ck_yn a b _ _ _ hab (parse_yes a t M D W hi h18.1 h18.2 hz) (parse_no b hz2)) rfl
            · by_cases g18 : P.size ≤ 18 ∧ Q.size ≤ 18
              · rw [decide_eq_true g18] at hk2
                refine main a b ha hb _ (order_yy a b t M D u P Q hk hk2 h18.1 h18.2 hi.major hi.minor hi2.major hi2.minor (level hi) (level hi2)) _ (ck_yy a b _ _ _ _ _ _ hab (parse_yes a t M D W hi h18.1 h18.2 hz) (parse_yes b u P Q X hi2 g18.1 g18.2 hz2)) ?_
                have b1 := small M hi.major h18.1
                have b2 := small D hi.minor h18.2
                have b3 := small P hi2.major g18.1
                have b4 := small Q hi2.minor g18.2
                have l1 := level hi
                have l2 := level hi2
                unfold stand
                by_cases q : t = u
                · rw [if_pos q, if_pos q]
                  by_cases q2 : ((val 0 (L M) : Nat) : Int) = ((val 0 (L P) : Nat) : Int)
                  · have q3 : cmpn (val 0 (L M)) (val 0 (L P)) = 0 := by unfold cmpn; rw [if_neg (by omega), if_neg (by omega)]
                    rw [if_pos q2, if_pos q3, w64 (by omega) (by omega), sg_sub]
                  · have q3 : ¬ cmpn (val 0 (L M)) (val 0 (L P)) = 0 := by
                      unfold cmpn
                      by_cases q4 : val 0 (L M) < val 0 (L P)
                      · rw [if_pos q4]; decide
                      · rw [if_neg q4, if_pos (by omega)]; decide
                    rw [if_neg q2, if_neg q3, w64 (by omega) (by omega), sg_sub]
                · rw [if_neg q, if_neg q, w64 (by omega) (by omega)]
              · rw [decide_eq_false g18] at hk2
                exact open_ (order_open a b _ _ hk hk2 (by simp))
          · rw [decide_eq_false h18] at hk
            rcases reads b hb with ⟨hk2, _⟩ | ⟨u, P, Q, X, _, hk2, _⟩
            · exact open_ (order_open a b _ _ hk hk2 (by simp))
            · exact open_ (order_open a b _ _ hk hk2 (by simp))

end Go.Proofs.YtmkpkpkcoieeiaaDoor.Pure
