/- For every value (its text of at most 2^31 - 1 bytes) that is a number or a text: a number's value is that; a text's is the whole number that it is, and 0 if it is none (where its digits ahead are no number of more than 63 bits). -/
import Derived.Test.YtmkpkpkcoieeiaaDoorLFnIntStrValue
import Derived.Test.YtmkpkpkcoieeiaaDoorQFnIntStrValue
namespace Go.Proofs.YtmkpkpkcoieeiaaDoor.Pure
open Go.RowKit Go.Proofs.YtmkpkpkcoieeiaaDoor.XFnIntStrValue Go.Proofs.YtmkpkpkcoieeiaaDoorW.PrintWords Go.Proofs.YtmkpkpkcoieeiaaDoorW.PrintLast Go.Proofs.YtmkpkpkcoieeiaaDoor.EvL Go.Proofs.YtmkpkpkcoieeiaaDoor.Str Go.Proofs.YtmkpkpkcoieeiaaDoor.LFnIntStrValue Go.Proofs.YtmkpkpkcoieeiaaDoor.Num

/-- Whether the digits up to a place are too wide. -/
def beyond (l : List UInt8) (j : Nat) : Bool := decide (18 < j) && !(wh (whole (-9223372036854775808) 9223372036854775807 (l.take j))).2

theorem take_lead : ∀ l : List UInt8, l.take (lead l).length = lead l
  | [] => rfl
  | c :: r => by
    rw [lead_cons]
    by_cases h : dig c
    · rw [if_pos h, List.length_cons, List.take_succ_cons, take_lead r]
    · rw [if_neg h]; rfl

theorem lead_le : ∀ l : List UInt8, (lead l).length ≤ l.length
  | [] => Nat.le_refl _
  | c :: r => by
    rw [lead_cons]
    have := lead_le r
    by_cases h : dig c
    · rw [if_pos h, List.length_cons, List.length_cons]; omega
    · rw [if_neg h]; simp

theorem fin_ev (s : ByteArray) (hs : s.size ≤ 140737488351232) (j : Nat) (hj : j ≤ s.size) :
    Ev (fun k => if (j : Int) ≤ (s.size : Int) then ((spec_NumWhole.f k (s.extract 0 ((j : Int) : Int).toNat) (-9223372036854775808) 9223372036854775807).bind fun bt => (if (j : Int) > 18 then (some (!bt.2)) else (some false))) else none) (beyond (L s) j) := by
  have hc : (s.extract 0 ((j : Int) : Int).toNat).size ≤ 140737488351232 := by
    rw [size_L, show ((j : Int)).toNat = j from by omega, L_upto, List.length_take]
    have := size_L s
    omega
  refine ifp (by omega) ((NumWhole_ev _ _ _ (by omega) (by omega) (by omega) (by omega) hc).bind ?_)
  rw [show ((j : Int)).toNat = j from by omega, L_upto]
  unfold beyond
  by_cases h : (j : Int) > 18
  · refine ifp h (now ?_)
    rw [decide_eq_true (by omega : 18 < j)]; rfl
  · refine ifn h (now ?_)
    rw [decide_eq_false (by omega : ¬ 18 < j)]; rfl

theorem beyond_l0 (s : ByteArray) (hs : s.size ≤ 140737488351232) (n : Nat) : ∀ i : Nat, (L s).length - i = n → i ≤ (L s).length →
    Ev (fun k => laws_intBeyond.l0 k s i) (beyond (L s) (i + (lead ((L s).drop i)).length)) := by
  have hz := size_L s
  induction n with
  | zero =>
    intro i hn hi
    have e : (L s).drop i = [] := List.drop_eq_nil_of_le (by omega)
    rw [e]
    refine Ev.step (fun k => laws_intBeyond.l0.eq_2 ..) (ifn (by omega) (ifp (by omega) ?_))
    exact fin_ev s hs i (by omega)
  | succ n ih =>
    intro i hn hi
    have hlt : i < (L s).length := by omega
    refine Ev.step (fun k => laws_intBeyond.l0.eq_2 ..) (ifp (by omega) (ifp (by omega) ?_))
    rw [bt_L s i hlt, List.drop_eq_getElem_cons hlt, lead_cons, w64 (x := (i : Int) + 1) (by omega) (by omega)]
    generalize (L s)[i] = c
    by_cases h48 : (c.toNat : Int) ≥ 48
    · refine ifp h48 ?_
      by_cases h57 : (c.toNat : Int) ≤ 57
      · refine ifp h57 ?_
        rw [if_pos (by unfold dig; omega), List.length_cons, show i + ((lead ((L s).drop (i + 1))).length + 1) = (i + 1) + (lead ((L s).drop (i + 1))).length from by omega]
        exact ih (i + 1) (by omega) (by omega)
      · refine ifn h57 ?_
        rw [if_neg (by unfold dig; omega)]
        exact fin_ev s hs i (by omega)
    · refine ifn h48 ?_
      rw [if_neg (by unfold dig; omega)]
      exact fin_ev s hs i (by omega)

theorem beyond_ev (s : ByteArray) (hs : s.size ≤ 140737488351232) : ∃ b, Ev (fun k => laws_intBeyond.f k s) b ∧ (Lib.atoiAll (L s) = .range → b = true) := by
  have hz := size_L s
  unfold laws_intBeyond.f
  rw [toList_L]
  cases hl : L s with
  | nil =>
    refine ⟨_, ifp rfl (Ev.step (fun k => laws_intBeyond.j0.eq_2 ..) (ifn (by simp) (Ev.step (fun k => laws_intBeyond.j1.eq_2 ..) (beyond_l0 s hs _ 0 rfl (by omega))))), ?_⟩
    intro h; cases h
  | cons c r =>
    have hlen : 0 < (L s).length := by rw [hl]; simp
    have hc : bt s 0 = (c.toNat : Int) := by
      have h1 := bt_L s 0 hlen
      have h2 : (L s)[0] = c := by simp [hl]
      rw [h2] at h1
      exact h1
    have hbody : body (c :: r) = if c.toNat = 43 ∨ c.toNat = 45 then r else c :: r := rfl
    have hneg : neg (c :: r) = decide (c.toNat = 45) := rfl
    have wide : ∀ (p : List UInt8) (j : Nat), (c :: r).take j = p → body p = lead (body (c :: r)) → neg p = neg (c :: r) → (lead (body (c :: r))).length ≤ j → Lib.atoiAll (c :: r) = .range → beyond (c :: r) j = true := by
      intro p j hp hb hn hj hr
      obtain ⟨h1, h2⟩ := atoi_range hr
      have h3 := val_lt (lead (body (c :: r))) 0 (lead_digs _)
      have h4 : 19 ≤ (lead (body (c :: r))).length := by
        rcases Nat.lt_or_ge (lead (body (c :: r))).length 19 with h | h
        · have h5 : (10 : Nat) ^ (lead (body (c :: r))).length ≤ 10 ^ 18 := Nat.pow_le_pow_right (by decide) (by omega)
          have h6 : (10 : Nat) ^ 18 = 1000000000000000000 := by decide
          omega
        · exact h
      unfold beyond
      rw [decide_eq_true (by omega : 18 < j), hp]
      have h7 : whole (-9223372036854775808) 9223372036854775807 p = none := by
        unfold whole num
        rw [hb, hn]
        refine if_neg ?_
        rintro ⟨_, _, h8, h9⟩
        cases hq : neg (c :: r) with
        | true =>
          have := h2 hq
          rw [hq] at h8
          simp only [if_true] at h8
          omega
        | false =>
          rw [hq] at h9
          simp only [Bool.false_eq_true, if_false] at h9
          omega
      rw [h7]; rfl
    have hstart1 : ∀ j0 : Nat, j0 = 1 → Ev (fun k => laws_intBeyond.j1 k s 1) (beyond (L s) (1 + (lead ((L s).drop 1)).length)) := fun j0 _ =>
      Ev.step (fun k => laws_intBeyond.j1.eq_2 ..) (beyond_l0 s hs _ 1 rfl (by omega))
    have hend1 : (c.toNat = 43 ∨ c.toNat = 45) → Lib.atoiAll (c :: r) = .range → beyond (L s) (1 + (lead ((L s).drop 1)).length) = true := by
      intro hsg hr
      have e1 : body (c :: r) = r := hbody.trans (if_pos hsg)
      rw [hl]
      have e2 : (c :: r).drop 1 = r := rfl
      rw [e2]
      refine wide (c :: lead r) _ ?_ ?_ rfl ?_ hr
      · rw [Nat.add_comm, List.take_succ_cons, take_lead]
      · rw [e1]; show (if _ then _ else _) = _; rw [if_pos hsg]
      · rw [e1]; omega
    refine ⟨if c.toNat = 43 ∨ c.toNat = 45 then beyond (L s) (1 + (lead ((L s).drop 1)).length) else beyond (L s) (lead (L s)).length, ifn (by simp) (ifp (by omega) ?_), ?_⟩
    · rw [hc]
      by_cases h45 : c.toNat = 45
      · rw [if_pos (.inr h45)]
        exact ifp (by omega) (Ev.step (fun k => laws_intBeyond.j0.eq_2 ..) (ifp rfl (hstart1 1 rfl)))
      · refine ifn (by omega) ?_
        by_cases h43 : c.toNat = 43
        · rw [if_pos (.inl h43), show ((c.toNat : Int) == 43) = true from beq_iff_eq.mpr (by omega)]
          exact Ev.step (fun k => laws_intBeyond.j0.eq_2 ..) (ifp rfl (hstart1 1 rfl))
        · rw [if_neg (fun hx => hx.elim h43 h45), show ((c.toNat : Int) == 43) = false from beq_eq_false_iff_ne.mpr (by omega)]
          have := beyond_l0 s hs _ 0 rfl (by omega)
          simp only [List.drop_zero, Nat.zero_add] at this
          exact Ev.step (fun k => laws_intBeyond.j0.eq_2 ..) (ifn (by simp) (Ev.step (fun k => laws_intBeyond.j1.eq_2 ..) this))
    · intro hr
      by_cases hsg : c.toNat = 43 ∨ c.toNat = 45
      · rw [if_pos hsg]; exact hend1 hsg hr
      · rw [if_neg hsg, hl]
        have e1 : body (c :: r) = c :: r := hbody.trans (if_neg hsg)
        refine wide (lead (c :: r)) _ (take_lead _) ?_ ?_ (by rw [e1]; exact Nat.le_refl _) hr
        · rw [e1, lead_cons]
          by_cases hd : dig c
          · rw [if_pos hd]; show (if _ then _ else _) = _; rw [if_neg hsg]
          · rw [if_neg hd]; rfl
        · rw [lead_cons, hneg, decide_eq_false (fun h => hsg (.inr h))]
          by_cases hd : dig c
          · rw [if_pos hd]; show decide _ = _; exact decide_eq_false (fun h => hsg (.inr h))
          · rw [if_neg hd]; rfl

theorem FnIntStrValue : QFnIntStrValue.Pure := by
  rintro ⟨t, n, s⟩ _
  refine Ev.rounds ?_
  show Ev (fun k => laws_FnIntStrValue.f k t n s) true
  unfold laws_FnIntStrValue.f laws_zzFits5.f
  by_cases z : (s.size : Int) > 2147483647
  · rw [if_pos z]; exact sb (ifn (by simp) (Ev.now _))
  · rw [if_neg z]
    refine sb (ifp rfl ?_)
    have hs : s.size ≤ 140737488351232 := by omega
    have hV : ∀ k, impl_IntStrValue.f k t n s = some (if t = 1 then atoiV s else wrap64 n) := by intro k; unfold impl_IntStrValue.f; rw [if_pos hs]
    by_cases ht : t = 1
    · refine ifp ht ?_
      obtain ⟨b, hb, hbr⟩ := beyond_ev s hs
      refine hb.bind ?_
      cases b with
      | true => exact ifp rfl (Ev.now _)
      | false =>
        refine ifn (by simp) ((NumWhole_ev s _ _ (by omega) (by omega) (by omega) (by omega) hs).bind ((Ev.congr hV (Ev.now _)).bind (now ?_)))
        rw [if_pos ht]
        simp only [beq_iff_eq]
        have e : atoiV s = match Lib.atoiAll (L s) with | .ok v => v | .range => Lib.atoiSat (L s) | _ => 0 := rfl
        rw [e]
        cases ha : Lib.atoiAll (L s) with
        | ok v => rw [(atoi_ok _ _).1 ha]; rfl
        | range => exact absurd (hbr ha) (by simp)
        | _ =>
          have hw : whole (-9223372036854775808) 9223372036854775807 (L s) = none := by
            cases hw : whole (-9223372036854775808) 9223372036854775807 (L s) with
            | none => rfl
            | some v => rw [(atoi_ok _ _).2 hw] at ha; cases ha
          rw [hw]; rfl
    · refine ifn ht ?_
      by_cases h0 : t = 0
      · refine ifp h0 ((Ev.congr hV (Ev.now _)).bind (now ?_))
        rw [if_neg ht]; simp
      · exact ifn h0 (Ev.now _)

end Go.Proofs.YtmkpkpkcoieeiaaDoor.Pure
