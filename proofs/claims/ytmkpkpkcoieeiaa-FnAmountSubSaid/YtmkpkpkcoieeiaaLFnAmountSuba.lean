/- The reference's decimals: what each of its functions tells, as numbers. -/
import Derived.Test.YtmkpkpkcoieeiaaXFnAmountSubx
import Derived.Test.YtmkpkpkcoieeiaaEv
import Derived.Test.YtmkpkpkcoieeiaaDec
namespace Go.Proofs.Ytmkpkpkcoieeiaa.LFnAmountSub
open Go.RowKit Go.Proofs.Ytmkpkpkcoieeiaa.XFnAmountSub Go.Proofs.YtmkpkpkcoieeiaaW.PrintWords Go.Proofs.YtmkpkpkcoieeiaaW.PrintLast Go.Proofs.YtmkpkpkcoieeiaaW.PrintMore Go.Proofs.Ytmkpkpkcoieeiaa.EvL Go.Proofs.Ytmkpkpkcoieeiaa.Dec

theorem rd_eq (l : List Int) (i : Nat) : rd l (i : Int) = l.getD i 0 := by unfold rd; simp

theorem larger_l0 (s t : Bool) (e f : Int) (a b : List Int) (ha : a.length < 1099511627776) (hb : b.length < 1099511627776) (n : Nat) :
    ∀ i : Nat, max a.length b.length - i = n → Ev (fun k => spec_larger.l0 k i s a e t b f) (cmpPad (a.drop i) (b.drop i)) := by
  induction n with
  | zero =>
    intro i hn
    rw [List.drop_eq_nil_of_le (by omega), List.drop_eq_nil_of_le (by omega)]
    refine Ev.step (fun k => spec_larger.l0.eq_2 ..) (ifn (by omega) ?_)
    refine Ev.step (fun k => spec_larger.j1.eq_2 ..) (ifn (by simp; omega) ?_)
    exact now (by simp [cmpPad])
  | succ n ih =>
    intro i hn
    have i2 := ih (i + 1) (by omega)
    rw [cmpPad_drop a b i (by omega)]
    have w : wrap64 ((i : Int) + 1) = ((i + 1 : Nat) : Int) := by rw [w64 (by omega) (by omega)]; omega
    have j3 : Ev (fun k => spec_larger.j3 k i (a.getD i 0) (b.getD i 0) s a e t b f) (if a.getD i 0 = b.getD i 0 then cmpPad (a.drop (i + 1)) (b.drop (i + 1)) else if a.getD i 0 < b.getD i 0 then -1 else 1) := by
      refine Ev.step (fun k => spec_larger.j3.eq_2 ..) ?_
      rw [w]
      by_cases h : a.getD i 0 = b.getD i 0
      · rw [if_pos h]; exact ifp h i2
      · refine ifn h ?_
        rw [if_neg h]
        by_cases h2 : a.getD i 0 < b.getD i 0
        · exact ifp h2 (now (by rw [if_pos h2]))
        · exact ifn h2 (now (by rw [if_neg h2]))
    have j2 : Ev (fun k => spec_larger.j2 k i (a.getD i 0) 0 s a e t b f) (if a.getD i 0 = b.getD i 0 then cmpPad (a.drop (i + 1)) (b.drop (i + 1)) else if a.getD i 0 < b.getD i 0 then -1 else 1) := by
      refine Ev.step (fun k => spec_larger.j2.eq_2 ..) ?_
      rw [rd_eq]
      by_cases h : i < b.length
      · exact ifp (by omega) (ifp (by omega) j3)
      · have eb : b.getD i 0 = 0 := by rw [List.getD_eq_getElem?_getD, List.getElem?_eq_none (by omega)]; rfl
        refine ifn (by omega) ?_
        rw [eb] at j3 ⊢
        exact j3
    have j1 : Ev (fun k => spec_larger.j1 k i true s a e t b f) (if a.getD i 0 = b.getD i 0 then cmpPad (a.drop (i + 1)) (b.drop (i + 1)) else if a.getD i 0 < b.getD i 0 then -1 else 1) := by
      refine Ev.step (fun k => spec_larger.j1.eq_2 ..) (ifp rfl ?_)
      rw [rd_eq]
      by_cases h : i < a.length
      · exact ifp (by omega) (ifp (by omega) j2)
      · have ea : a.getD i 0 = 0 := by rw [List.getD_eq_getElem?_getD, List.getElem?_eq_none (by omega)]; rfl
        refine ifn (by omega) ?_
        rw [ea] at j2 ⊢
        exact j2
    refine Ev.step (fun k => spec_larger.l0.eq_2 ..) ?_
    by_cases h : i < a.length
    · exact ifp (by omega) j1
    · refine ifn (by omega) ?_
      rw [show decide ((i : Int) < (b.length : Int)) = true from by simp; omega]
      exact j1

/-- How two numbers other than 0 stand, whatever their signs. -/
theorem larger_ev (s t : Bool) (m n e f c : Int) (hm : m ≠ 0) (hn : n ≠ 0) (he : c ≤ e) (hf : c ≤ f) (hc : -1073741824 ≤ c) (he2 : e ≤ 1073741824) (hf2 : f ≤ 1073741824)
    (hl : (dec m e).2.1.length < 1073741824) (hl2 : (dec n f).2.1.length < 1073741824) (hx : (dec m e).2.2 ≤ 1073741824) (hx2 : (dec n f).2.2 ≤ 1073741824) :
    Ev (fun k => spec_larger.f k s (dec m e).2.1 (dec m e).2.2 t (dec n f).2.1 (dec n f).2.2) (cmp (m.natAbs * 10 ^ (e - c).toNat) (n.natAbs * 10 ^ (f - c).toNat)) := by
  obtain ⟨l1, k1, p1, d1, ne1, h1, g1, v1⟩ := dec_parts m e hm
  obtain ⟨l2, k2, p2, d2, ne2, h2, g2, v2⟩ := dec_parts n f hn
  rw [p1] at hl hx ⊢
  rw [p2] at hl2 hx2 ⊢
  simp only at hl hl2 hx hx2 ⊢
  have b1 := val_bounds d1
  have b2 := val_bounds d2
  obtain ⟨x1, r1, rfl⟩ : ∃ x r, l1 = x :: r := by cases l1 with | nil => exact absurd rfl ne1 | cons x r => exact ⟨x, r, rfl⟩
  obtain ⟨x2, r2, rfl⟩ : ∃ x r, l2 = x :: r := by cases l2 with | nil => exact absurd rfl ne2 | cons x r => exact ⟨x, r, rfl⟩
  have q1 := val_low d1 (by simpa using h1)
  have q2 := val_low d2 (by simpa using h2)
  -- both numbers over the common power c
  obtain ⟨i1, ei1⟩ : ∃ i1 : Nat, (e - c).toNat + k1 = i1 := ⟨_, rfl⟩
  obtain ⟨i2, ei2⟩ : ∃ i2 : Nat, (f - c).toNat + k2 = i2 := ⟨_, rfl⟩
  have n1 : (m.natAbs : Int) * 10 ^ (e - c).toNat = val (x1 :: r1) * 10 ^ i1 := by rw [← v1, ← ei1, p10_add]; grind
  have n2 : (n.natAbs : Int) * 10 ^ (f - c).toNat = val (x2 :: r2) * 10 ^ i2 := by rw [← v2, ← ei2, p10_add]; grind
  rw [n1, n2]
  have lc1 : (x1 :: r1).length = r1.length + 1 := rfl
  have lc2 : (x2 :: r2).length = r2.length + 1 := rfl
  unfold spec_larger.f
  rw [w64 (by omega) (by omega), w64 (by omega) (by omega)]
  by_cases heq : ((x1 :: r1).length : Int) + (e + k1) = ((x2 :: r2).length : Int) + (f + k2)
  · refine ifp heq ?_
    have := larger_l0 s t (e + k1) (f + k2) (x1 :: r1) (x2 :: r2) (by omega) (by omega) _ 0 rfl
    simp only [List.drop_zero] at this
    rw [cmpPad_spec _ _ d1 d2] at this
    have e1 : (x1 :: r1).length + i1 = (x2 :: r2).length + i2 := by omega
    have z1 : val (x1 :: r1) * 10 ^ (x2 :: r2).length * 10 ^ (i1 + i2) = val (x1 :: r1) * 10 ^ i1 * 10 ^ ((x2 :: r2).length + i2) := by
      rw [p10_add, p10_add]; grind
    have z2 : val (x2 :: r2) * 10 ^ (x1 :: r1).length * 10 ^ (i1 + i2) = val (x2 :: r2) * 10 ^ i2 * 10 ^ ((x2 :: r2).length + i2) := by
      rw [← e1, p10_add, p10_add]; grind
    rw [← cmp_scale (p10_pos (i1 + i2)), z1, z2, cmp_scale (p10_pos _)] at this
    exact this
  · refine ifn heq ?_
    by_cases hlt : ((x1 :: r1).length : Int) + (e + k1) < ((x2 :: r2).length : Int) + (f + k2)
    · refine ifp hlt (now ?_)
      have z1 : val (x1 :: r1) * 10 ^ i1 < 10 ^ (x1 :: r1).length * 10 ^ i1 := Int.mul_lt_mul_of_pos_right b1.2 (p10_pos _)
      have z2 : 10 ^ r2.length * 10 ^ i2 ≤ val (x2 :: r2) * 10 ^ i2 := Int.mul_le_mul_of_nonneg_right q2 (by have := p10_pos i2; omega)
      rw [← p10_add] at z1 z2
      have z3 := p10_mono (show (x1 :: r1).length + i1 ≤ r2.length + i2 by omega)
      unfold cmp
      rw [if_pos (by omega)]
    · refine ifn hlt (now ?_)
      have z1 : val (x2 :: r2) * 10 ^ i2 < 10 ^ (x2 :: r2).length * 10 ^ i2 := Int.mul_lt_mul_of_pos_right b2.2 (p10_pos _)
      have z2 : 10 ^ r1.length * 10 ^ i1 ≤ val (x1 :: r1) * 10 ^ i1 := Int.mul_le_mul_of_nonneg_right q1 (by have := p10_pos i1; omega)
      rw [← p10_add] at z1 z2
      have z3 := p10_mono (show (x2 :: r2).length + i2 ≤ r1.length + i1 by omega)
      unfold cmp
      rw [if_neg (by omega), if_neg (by omega)]

theorem decimal_l1 (neg : Bool) (n : Nat) : ∀ (l : List Int) (e : Int), l.length = n → Digits l → l ≠ [] → l.head? ≠ some 0 → l.length < 1099511627776 → -1099511627776 ≤ e → e + l.length < 1099511627776 →
    Ev (fun k => spec_decimal.l1 k neg l e) (dec (sg neg (val l)) e) := by
  induction n with
  | zero => intro l e hn _ hne; exact absurd (List.length_eq_zero_iff.1 hn) hne
  | succ n ih =>
    intro l e hn hd hne hh hlen he0 he1
    obtain ⟨m, d, rfl⟩ : ∃ m d, l = m ++ [d] := ⟨l.dropLast, l.getLast hne, (List.dropLast_concat_getLast hne).symm⟩
    have hm : m.length = n := by simpa using hn
    have hll : (m ++ [d]).length = m.length + 1 := by simp
    have w : wrap64 (((m ++ [d]).length : Int) - 1) = (m.length : Int) := by rw [w64 (by omega) (by omega)]; omega
    have hrd : rd (m ++ [d]) (m.length : Int) = d := by rw [rd_eq]; simp [List.getD_eq_getElem?_getD]
    have w2 : wrap64 (e + 1) = e + 1 := w64 (by omega) (by omega)
    refine Ev.step (fun k => spec_decimal.l1.eq_2 ..) ?_
    rw [w, hrd, w2]
    refine ifp (by omega) (ifp (by omega) (ifp (by omega) ?_))
    by_cases h0 : d = 0
    · subst h0
      refine ifp rfl (ifp (by omega) ?_)
      have hmne : m ≠ [] := by intro e; subst e; simp at hh
      have hmh : m.head? ≠ some 0 := by
        cases m with
        | nil => exact absurd rfl hmne
        | cons a b => simpa using hh
      have ht : (m ++ [0]).take (m.length : Int).toNat = m := by simp
      rw [ht]
      have := ih m (e + 1) hm hd.left hmne hmh (by omega) (by omega) (by omega)
      have e1 : sg neg (val (m ++ [0])) = 10 * sg neg (val m) := by rw [val_snoc]; unfold sg; cases neg <;> simp <;> omega
      rw [e1, dec_ten]
      exact this
    · refine ifn h0 (ifn (by omega) (sb (ifp (by simp; omega) (now ?_))))
      unfold sg
      rw [dec_val (m ++ [d]) e neg hd hne hh (by simpa using h0)]
      simp

theorem decimal_l0 (neg : Bool) : ∀ (l : List Int) (e : Int), Digits l → l.length < 1099511627776 → -1099511627776 ≤ e → e + l.length < 1099511627776 →
    Ev (fun k => spec_decimal.l0 k neg l e) (dec (sg neg (val l)) e) := by
  intro l
  induction l with
  | nil =>
    intro e _ _ _ _
    refine Ev.step (fun k => spec_decimal.l0.eq_2 ..) (ifn (by simp) ?_)
    refine Ev.step (fun k => spec_decimal.j1.eq_2 ..) ?_
    refine Ev.step (fun k => spec_decimal.l1.eq_2 ..) (ifn (by simp) (ifp (by simp) (now ?_)))
    unfold sg val
    cases neg <;> simp [dec_zero]
  | cons d l ih =>
    intro e hd hl h0 h1
    have hll : (d :: l).length = l.length + 1 := rfl
    have hrd : rd (d :: l) 0 = d := by simp [rd]
    refine Ev.step (fun k => spec_decimal.l0.eq_2 ..) ?_
    rw [hrd]
    refine ifp (by omega) (ifp (by omega) ?_)
    by_cases hz : d = 0
    · subst hz
      refine ifp rfl (ifp (by omega) ?_)
      have := ih e hd.cons.2 (by omega) h0 (by omega)
      simpa [val] using this
    · refine ifn hz ?_
      refine Ev.step (fun k => spec_decimal.j1.eq_2 ..) ?_
      exact decimal_l1 neg _ (d :: l) e rfl hd (by simp) (by simpa using hz) hl h0 h1

/-- Digits, however many noughts stand at their ends, as a decimal. -/
theorem decimal_ev (neg : Bool) (l : List Int) (e : Int) (hd : Digits l) (hl : l.length < 1099511627776) (h0 : -1099511627776 ≤ e) (h1 : e + l.length < 1099511627776) :
    Ev (fun k => spec_decimal.f k neg l e) (dec (sg neg (val l)) e) := by
  unfold spec_decimal.f; exact decimal_l0 neg l e hd hl h0 h1

theorem at_eq (l : List Int) (i : Nat) (hl : l.length < 1099511627776) (hi : i < 1099511627776) : spec_at.f l i = some (l.reverse.getD i 0) := by
  unfold spec_at.f
  by_cases h : i < l.length
  · have w : wrap64 (wrap64 ((l.length : Int) - 1) - i) = ((l.length - 1 - i : Nat) : Int) := by
      rw [w64 (x := (l.length : Int) - 1) (by omega) (by omega), w64 (by omega) (by omega)]; omega
    rw [if_pos (by omega), w, if_pos (by omega), if_pos (by omega), rd_eq, getD_rev l i h]
  · rw [if_neg (by omega), List.getD_eq_getElem?_getD, List.getElem?_eq_none (by simp; omega)]; rfl

theorem sum_l1 (neg less : Bool) (x y : List Int) (e : Int) (out : List Int) (i : Nat) (s0 : Int) (r : Bool × List Int × Int) (h0 : -10 ≤ s0) (h1 : s0 ≤ 19) (ho : out.length < 1099511627776) (hi : i < 1099511627776)
    (H : Ev (fun k => spec_sum.l0 k neg x y less e ((s0 % 10) :: out) (s0 / 10) ((i + 1 : Nat) : Int)) r) : Ev (fun k => spec_sum.l1 k neg x y less e out 0 i s0) r := by
  have wi : wrap64 ((i : Int) + 1) = ((i + 1 : Nat) : Int) := by rw [w64 (by omega) (by omega)]; omega
  have l2 : Ev (fun k => spec_sum.l2 k neg x y less e out (s0 / 10) i (s0 % 10)) r := by
    refine Ev.step (fun k => spec_sum.l2.eq_2 ..) (ifn (by omega) (sb (ifp (by simp; omega) ?_)))
    rw [wi]
    exact H
  refine Ev.step (fun k => spec_sum.l1.eq_2 ..) ?_
  by_cases hneg : s0 < 0
  · refine ifp hneg ?_
    rw [w64 (x := 0 - 1) (by omega) (by omega), w64 (x := s0 + 10) (by omega) (by omega)]
    refine Ev.step (fun k => spec_sum.l1.eq_2 ..) (ifn (by omega) ?_)
    rw [show (0 : Int) - 1 = s0 / 10 from by omega, show s0 + 10 = s0 % 10 from by omega]
    exact l2
  · refine ifn hneg ?_
    by_cases hbig : s0 > 9
    · refine Ev.step (fun k => spec_sum.l2.eq_2 ..) (ifp hbig ?_)
      rw [w64 (x := 0 + 1) (by omega) (by omega), w64 (x := s0 - 10) (by omega) (by omega)]
      rw [show (0 : Int) + 1 = s0 / 10 from by omega, show s0 - 10 = s0 % 10 from by omega]
      exact l2
    · rw [show s0 / 10 = 0 from by omega, show s0 % 10 = s0 from by omega] at l2
      exact l2

set_option maxHeartbeats 2000000 in
theorem sum_l0 (neg less : Bool) (x y : List Int) (e : Int) (hx : Digits x) (hy : Digits y) (hxl : x.length < 1073741824) (hyl : y.length < 1073741824) (he0 : -1073741824 ≤ e) (he1 : e ≤ 1073741824) (n : Nat) :
    ∀ (i : Nat) (out : List Int) (c : Int), (max x.length y.length - i) * 2 + c.natAbs = n → out.length = i → Digits out → -1 ≤ c → c ≤ 1 → i + c.natAbs ≤ max x.length y.length + 1 →
      0 ≤ c + rv (x.reverse.drop i) + sg less (rv (y.reverse.drop i)) →
      Ev (fun k => spec_sum.l0 k neg x y less e out c i) (dec (sg neg (val out + 10 ^ i * (c + rv (x.reverse.drop i) + sg less (rv (y.reverse.drop i))))) e) := by
  induction n using Nat.strongRecOn with
  | _ n ih =>
    intro i out c hn hol hod hc0 hc1 hi hT
    have zless : sg less 0 = 0 := by cases less <;> rfl
    by_cases hend : ¬ (i < x.length) ∧ ¬ (i < y.length) ∧ c = 0
    · obtain ⟨g1, g2, g3⟩ := hend
      subst g3
      rw [rv_past x.reverse i (by simp; omega), rv_past y.reverse i (by simp; omega), zless]
      refine Ev.step (fun k => spec_sum.l0.eq_2 ..) (ifn (by omega) (ifn (by omega) ?_))
      refine Ev.step (fun k => spec_sum.j1.eq_2 ..) (ifn (by simp) ?_)
      have := decimal_ev neg out e hod (by omega) (by omega) (by omega)
      simpa using this.bind (f := fun _ t => some (t.1, t.2.1, t.2.2)) (Ev.now _)
    · have hX := hx.reverse.getD i
      have hY := hy.reverse.getD i
      have rX := rv_drop x.reverse i
      have rY := rv_drop y.reverse i
      have hA := at_eq x i (by omega) (by omega)
      have hB := at_eq y i (by omega) (by omega)
      -- in the last round only the carry is left
      have hlast : ¬ (i < x.length) → ¬ (i < y.length) → c = 1 ∧ x.reverse.getD i 0 = 0 ∧ y.reverse.getD i 0 = 0 := by
        intro g1 g2
        have a := rv_past x.reverse i (by simp; omega)
        have b := rv_past y.reverse i (by simp; omega)
        rw [a, b, zless] at hT
        refine ⟨by omega, ?_, ?_⟩
        · rw [List.getD_eq_getElem?_getD, List.getElem?_eq_none (by simp; omega)]; rfl
        · rw [List.getD_eq_getElem?_getD, List.getElem?_eq_none (by simp; omega)]; rfl
      obtain ⟨dx, hdx⟩ : ∃ dx, x.reverse.getD i 0 = dx := ⟨_, rfl⟩
      obtain ⟨dy, hdy⟩ : ∃ dy, y.reverse.getD i 0 = dy := ⟨_, rfl⟩
      obtain ⟨Rx, hRx⟩ : ∃ Rx, rv (x.reverse.drop (i + 1)) = Rx := ⟨_, rfl⟩
      obtain ⟨Ry, hRy⟩ : ∃ Ry, rv (y.reverse.drop (i + 1)) = Ry := ⟨_, rfl⟩
      obtain ⟨s0, hs0⟩ : ∃ s0, dx + c + sg less dy = s0 := ⟨_, rfl⟩
      rw [hdx] at hX rX hA hlast
      rw [hdy] at hY rY hB hlast
      rw [hRx] at rX
      rw [hRy] at rY
      have sgd : sg less (dy + 10 * Ry) = sg less dy + 10 * sg less Ry := by unfold sg; cases less <;> simp <;> omega
      have sgb : -9 ≤ sg less dy ∧ sg less dy ≤ 9 := by unfold sg; cases less <;> simp <;> omega
      have hTe : c + rv (x.reverse.drop i) + sg less (rv (y.reverse.drop i)) = s0 % 10 + 10 * (s0 / 10 + Rx + sg less Ry) := by
        rw [rX, rY, sgd]; omega
      rw [hTe] at hT ⊢
      have hlen : (s0 % 10 :: out).length = i + 1 := by simp [hol]
      have hsmall : ¬ (i < x.length) → ¬ (i < y.length) → s0 / 10 = 0 := by
        intro g1 g2
        obtain ⟨a1, a2, a3⟩ := hlast g1 g2
        rw [a3, zless] at hs0
        omega
      have step := ih ((max x.length y.length - (i + 1)) * 2 + (s0 / 10).natAbs) (by
        by_cases g1 : i < x.length
        · omega
        · by_cases g2 : i < y.length
          · omega
          · have := hsmall g1 g2
            have := hlast g1 g2
            omega) (i + 1) (s0 % 10 :: out) (s0 / 10) rfl hlen (Digits.mk_cons (by omega) (by omega) hod) (by omega) (by omega) (by
        by_cases g1 : i < x.length
        · omega
        · by_cases g2 : i < y.length
          · omega
          · have := hsmall g1 g2
            have := hlast g1 g2
            omega) (by rw [hRx, hRy]; omega)
      have hv : val (s0 % 10 :: out) + 10 ^ (i + 1) * (s0 / 10 + rv (x.reverse.drop (i + 1)) + sg less (rv (y.reverse.drop (i + 1)))) = val out + 10 ^ i * (s0 % 10 + 10 * (s0 / 10 + Rx + sg less Ry)) := by
        rw [hRx, hRy, p10_succ]; simp only [val, hol]; grind
      rw [hv] at step
      have l1 := sum_l1 neg less x y e out i s0 _ (by omega) (by omega) (by omega) (by omega) step
      have j1 : Ev (fun k => spec_sum.j1 k neg x y less e out c i true) (dec (sg neg (val out + 10 ^ i * (s0 % 10 + 10 * (s0 / 10 + Rx + sg less Ry)))) e) := by
        refine Ev.step (fun k => spec_sum.j1.eq_2 ..) (ifp rfl ?_)
        refine cb hA ?_
        by_cases hl : less = true
        · refine ifp hl (cb hB ?_)
          rw [w64 (x := dx + c) (by omega) (by omega), w64 (x := dx + c - dy) (by omega) (by omega), show dx + c - dy = s0 from by rw [← hs0]; unfold sg; rw [if_pos hl]; omega]
          exact Ev.step (fun k => spec_sum.j2.eq_2 ..) l1
        · refine ifn hl (cb hB ?_)
          rw [w64 (x := dx + c) (by omega) (by omega), w64 (x := dx + c + dy) (by omega) (by omega), show dx + c + dy = s0 from by rw [← hs0]; unfold sg; rw [if_neg hl]]
          exact Ev.step (fun k => spec_sum.j2.eq_2 ..) l1
      refine Ev.step (fun k => spec_sum.l0.eq_2 ..) ?_
      by_cases g1 : i < x.length
      · exact ifp (by omega) j1
      · refine ifn (by omega) ?_
        by_cases g2 : i < y.length
        · exact ifp (by omega) j1
        · refine ifn (by omega) ?_
          have := (hlast g1 g2).1
          subst this
          exact j1

/-- The digits of x and y together, or those of y taken from x. -/
theorem sum_ev (neg less : Bool) (x y : List Int) (e : Int) (hx : Digits x) (hy : Digits y) (hxl : x.length < 1073741824) (hyl : y.length < 1073741824) (he0 : -1073741824 ≤ e) (he1 : e ≤ 1073741824) (hT : 0 ≤ val x + sg less (val y)) :
    Ev (fun k => spec_sum.f k neg x y less e) (dec (sg neg (val x + sg less (val y))) e) := by
  unfold spec_sum.f
  have := sum_l0 neg less x y e hx hy hxl hyl he0 he1 _ 0 [] 0 rfl rfl Digits.nil (by omega) (by omega) (by simp) (by simpa [← val_rev] using hT)
  simpa [← val_rev, val] using this

theorem wide_l0 (x : Int) (n : Nat) : ∀ (l : List Int) (e : Int), l ≠ [] → x ≤ e → (e - x).toNat = n → l.length + n < 1099511627776 → -1099511627776 ≤ x → e ≤ 1099511627776 →
    Ev (fun k => spec_wide.l0 k x l e) (l ++ List.replicate n 0) := by
  induction n with
  | zero =>
    intro l e hne hx hn hl h0 h1
    refine Ev.step (fun k => spec_wide.l0.eq_2 ..) (ifn (by omega) (now ?_))
    simp
  | succ n ih =>
    intro l e hne hx hn hl h0 h1
    have hpos : 0 < l.length := List.length_pos_iff.2 hne
    refine Ev.step (fun k => spec_wide.l0.eq_2 ..) (ifp (by omega) (ifp (by omega) ?_))
    have := ih (l ++ [0]) (e - 1) (by simp) (by omega) (by omega) (by simp; omega) h0 (by omega)
    rw [w64 (x := e - 1) (by omega) (by omega)]
    rw [List.append_assoc] at this
    have e1 : [0] ++ List.replicate n (0 : Int) = List.replicate (n + 1) 0 := by simp [List.replicate_succ]
    rw [e1] at this
    exact ifp (by omega) this

/-- The digits of a number down to a power of ten that is not above its own. -/
theorem wide_ev (s : Bool) (l : List Int) (e x : Int) (hne : l ≠ []) (hx : x ≤ e) (hl : l.length + (e - x).toNat < 1099511627776) (h0 : -1099511627776 ≤ x) (h1 : e ≤ 1099511627776) :
    Ev (fun k => spec_wide.f k s l e x) (l ++ List.replicate (e - x).toNat 0) := by
  unfold spec_wide.f
  exact sb (ifp (by simp; omega) (by simpa using wide_l0 x _ l e hne hx rfl hl h0 h1))

theorem wide_nil (s : Bool) (e x : Int) : Ev (fun k => spec_wide.f k s [] e x) [] := by
  unfold spec_wide.f
  refine sb (ifp (by simp) ?_)
  refine Ev.step (fun k => spec_wide.l0.eq_2 ..) ?_
  by_cases h : e > x
  · exact ifp h (ifn (by simp) (now (by simp)))
  · exact ifn h (now (by simp))

theorem of_l0 (a0 a1 : Int) (h0 : -1073741824 ≤ a1) (h1 : a1 ≤ 1073741824) (n : Nat) : ∀ (u : Nat) (out : List Int), u < 10 ^ n → u < 18446744073709551616 → out.length + n ≤ 1000 → Digits out →
    Ev (fun k => spec_DecimalOf.l0 k a0 a1 u out) (dec (sg (decide (a0 < 0)) (u * 10 ^ out.length + val out)) a1) := by
  induction n with
  | zero =>
    intro u out hu _ hl hd
    have hu0 : u = 0 := by simp at hu; exact hu
    subst hu0
    refine Ev.step (fun k => spec_DecimalOf.l0.eq_2 ..) (ifn (by simp) ?_)
    have := decimal_ev (decide (a0 < 0)) out a1 hd (by omega) (by omega) (by omega)
    simpa using this.bind (f := fun _ t => some (t.1, t.2.1, t.2.2)) (Ev.now _)
  | succ n ih =>
    intro u out hu hub hl hd
    refine Ev.step (fun k => spec_DecimalOf.l0.eq_2 ..) ?_
    by_cases hz : u = 0
    · subst hz
      refine ifn (by simp) ?_
      have := decimal_ev (decide (a0 < 0)) out a1 hd (by omega) (by omega) (by omega)
      simpa using this.bind (f := fun _ t => some (t.1, t.2.1, t.2.2)) (Ev.now _)
    · have e1 : wrap64 (Int.tmod (u : Int) 10) = ((u % 10 : Nat) : Int) := by
        rw [Int.tmod_eq_emod_of_nonneg (by omega), w64 (by omega) (by omega)]; omega
      have e2 : IntKind.u64.wrap (Int.tdiv (u : Int) 10) = ((u / 10 : Nat) : Int) := by
        rw [Int.tdiv_eq_ediv_of_nonneg (by omega), IntKind.wrap_u64]; omega
      refine ifp (by omega) ?_
      rw [e1, e2]
      refine sb (ifp (by simp; omega) ?_)
      have step := ih (u / 10) (((u % 10 : Nat) : Int) :: out) (by rw [Nat.pow_succ] at hu; omega) (by omega) (by simp; omega) (Digits.mk_cons (by omega) (by omega) hd)
      have hv : ((u / 10 : Nat) : Int) * 10 ^ (((u % 10 : Nat) : Int) :: out).length + val (((u % 10 : Nat) : Int) :: out) = u * 10 ^ out.length + val out := by
        have hu2 : (u : Int) = 10 * ((u / 10 : Nat) : Int) + ((u % 10 : Nat) : Int) := by omega
        generalize ((u / 10 : Nat) : Int) = q at *
        generalize ((u % 10 : Nat) : Int) = r at *
        rw [hu2, List.length_cons, p10_succ]; simp only [val]; grind
      rw [hv] at step
      exact step

/-- A number times a power of ten. -/
theorem of_ev (a e : Int) (h0 : -9223372036854775808 ≤ a) (h1 : a ≤ 9223372036854775807) (h2 : -1073741824 ≤ e) (h3 : e ≤ 1073741824) :
    Ev (fun k => spec_DecimalOf.f k a e) (dec a e) := by
  have key := of_l0 a e h2 h3 20 a.natAbs [] (by omega) (by omega) (by simp) Digits.nil
  have hsg : sg (decide (a < 0)) (a.natAbs * 10 ^ ([] : List Int).length + val []) = a := by
    unfold sg
    simp only [List.length_nil, Int.pow_zero, Int.mul_one, val]
    by_cases h : a < 0
    · simp only [h, decide_true, if_true]; omega
    · simp only [h, decide_false, Bool.false_eq_true, if_false]; omega
  rw [hsg] at key
  unfold spec_DecimalOf.f
  by_cases h : a < 0
  · refine ifp h ?_
    have : IntKind.u64.wrap (-(IntKind.u64.wrap a)) = (a.natAbs : Int) := by rw [IntKind.wrap_u64, IntKind.wrap_u64]; omega
    rw [this]
    exact Ev.step (fun k => spec_DecimalOf.j0.eq_2 ..) key
  · refine ifn h ?_
    have : IntKind.u64.wrap a = (a.natAbs : Int) := by rw [IntKind.wrap_u64]; omega
    rw [this]
    exact Ev.step (fun k => spec_DecimalOf.j0.eq_2 ..) key

/-- Whether a number is an int64. -/
def fits (n : Int) : Bool := decide (-9223372036854775808 ≤ n) && decide (n ≤ 9223372036854775807)

theorem fits_iff (n : Int) : fits n = true ↔ -9223372036854775808 ≤ n ∧ n ≤ 9223372036854775807 := by simp [fits]
theorem fits_not (n : Int) : fits n = false ↔ n < -9223372036854775808 ∨ 9223372036854775807 < n := by simp [fits]; omega




end Go.Proofs.Ytmkpkpkcoieeiaa.LFnAmountSub
