/- The reference's decimals: what each of its functions tells, as numbers. -/
import Derived.Test.YtpchihkegmihiaaXFnAmountSignx
import Derived.Test.YtpchihkegmihiaaEv
import Derived.Test.YtpchihkegmihiaaDec
namespace Go.Proofs.Ytpchihkegmihiaa.LFnAmountSign
open Go.RowKit Go.Proofs.Ytpchihkegmihiaa.XFnAmountSign Go.Proofs.YtpchihkegmihiaaW.PrintWords Go.Proofs.YtpchihkegmihiaaW.PrintLast Go.Proofs.YtpchihkegmihiaaW.PrintMore Go.Proofs.Ytpchihkegmihiaa.EvL Go.Proofs.Ytpchihkegmihiaa.Dec

theorem rd_eq (l : List Int) (i : Nat) : rd l (i : Int) = l.getD i 0 := by unfold rd; simp

theorem larger_l0 (s t : Bool) (e f : Int) (a b : List Int) (ha : a.length < 1099511627776) (hb : b.length < 1099511627776) (n : Nat) :
    ∀ i : Nat, max a.length b.length - i = n → Ev (fun k => spec_larger.l0 k i s a e t b f) (cmpPad (a.drop i) (b.drop i)) := by
  induction n with
  | zero =>
    intro i hn
    rw [List.drop_eq_nil_of_le (by omega), List.drop_eq_nil_of_le (by omega)]
    refine Ev.step (fun k => spec_larger.l0.eq_2 ..) (ifn (by omega) ?_)
    refine Ev.step (fun k => spec_larger.j1.eq_2 ..) (ifn (by simp; omega) ?_)
    exact now (by simp [cmpPad])
  | succ n ih =>
    intro i hn
    have i2 := ih (i + 1) (by omega)
    rw [cmpPad_drop a b i (by omega)]
    have w : wrap64 ((i : Int) + 1) = ((i + 1 : Nat) : Int) := by rw [w64 (by omega) (by omega)]; omega
    have j3 : Ev (fun k => spec_larger.j3 k i (a.getD i 0) (b.getD i 0) s a e t b f) (if a.getD i 0 = b.getD i 0 then cmpPad (a.drop (i + 1)) (b.drop (i + 1)) else if a.getD i 0 < b.getD i 0 then -1 else 1) := by
      refine Ev.step (fun k => spec_larger.j3.eq_2 ..) ?_
      rw [w]
      by_cases h : a.getD i 0 = b.getD i 0
      · rw [if_pos h]; exact ifp h i2
      · refine ifn h ?_
        rw [if_neg h]
        by_cases h2 : a.getD i 0 < b.getD i 0
        · exact ifp h2 (now (by rw [if_pos h2]))
        · exact ifn h2 (now (by rw [if_neg h2]))
    have j2 : Ev (fun k => spec_larger.j2 k i (a.getD i 0) 0 s a e t b f) (if a.getD i 0 = b.getD i 0 then cmpPad (a.drop (i + 1)) (b.drop (i + 1)) else if a.getD i 0 < b.getD i 0 then -1 else 1) := by
      refine Ev.step (fun k => spec_larger.j2.eq_2 ..) ?_
      rw [rd_eq]
      by_cases h : i < b.length
      · exact ifp (by omega) (ifp (by omega) j3)
      · have eb : b.getD i 0 = 0 := by rw [List.getD_eq_getElem?_getD, List.getElem?_eq_none (by omega)]; rfl
        refine ifn (by omega) ?_
        rw [eb] at j3 ⊢
        exact j3
    have j1 : Ev (fun k => spec_larger.j1 k i true s a e t b f) (if a.getD i 0 = b.getD i 0 then cmpPad (a.drop (i + 1)) (b.drop (i + 1)) else if a.getD i 0 < b.getD i 0 then -1 else 1) := by
      refine Ev.step (fun k => spec_larger.j1.eq_2 ..) (ifp rfl ?_)
      rw [rd_eq]
      by_cases h : i < a.length
      · exact ifp (by omega) (ifp (by omega) j2)
      · have ea : a.getD i 0 = 0 := by rw [List.getD_eq_getElem?_getD, List.getElem?_eq_none (by omega)]; rfl
        refine ifn (by omega) ?_
        rw [ea] at j2 ⊢
        exact j2
    refine Ev.step (fun k => spec_larger.l0.eq_2 ..) ?_
    by_cases h : i < a.length
    · exact ifp (by omega) j1
    · refine ifn (by omega) ?_
      rw [show decide ((i : Int) < (b.length : Int)) = true from by simp; omega]
      exact j1

/-- How two numbers other than 0 stand, whatever their signs. -/
theorem larger_ev (s t : Bool) (m n e f c : Int) (hm : m ≠ 0) (hn : n ≠ 0) (he : c ≤ e) (hf : c ≤ f) (hc : -1073741824 ≤ c) (he2 : e ≤ 1073741824) (hf2 : f ≤ 1073741824)
    (hl : (dec m e).2.1.length < 1073741824) (hl2 : (dec n f).2.1.length < 1073741824) (hx : (dec m e).2.2 ≤ 1073741824) (hx2 : (dec n f).2.2 ≤ 1073741824) :
    Ev (fun k => spec_larger.f k s (dec m e).2.1 (dec m e).2.2 t (dec n f).2.1 (dec n f).2.2) (cmp (m.natAbs * 10 ^ (e - c).toNat) (n.natAbs * 10 ^ (f - c).toNat)) := by
  obtain ⟨l1, k1, p1, d1, ne1, h1, g1, v1⟩ := dec_parts m e hm
  obtain ⟨l2, k2, p2, d2, ne2, h2, g2, v2⟩ := dec_parts n f hn
  rw [p1] at hl hx ⊢
  rw [p2] at hl2 hx2 ⊢
  simp only at hl hl2 hx hx2 ⊢
  have b1 := val_bounds d1
  have b2 := val_bounds d2
  obtain ⟨x1, r1, rfl⟩ : ∃ x r, l1 = x :: r := by cases l1 with | nil => exact absurd rfl ne1 | cons x r => exact ⟨x, r, rfl⟩
  obtain ⟨x2, r2, rfl⟩ : ∃ x r, l2 = x :: r := by cases l2 with | nil => exact absurd rfl ne2 | cons x r => exact ⟨x, r, rfl⟩
  have q1 := val_low d1 (by simpa using h1)
  have q2 := val_low d2 (by simpa using h2)
  -- both numbers over the common power c
  obtain ⟨i1, ei1⟩ : ∃ i1 : Nat, (e - c).toNat + k1 = i1 := ⟨_, rfl⟩
  obtain ⟨i2, ei2⟩ : ∃ i2 : Nat, (f - c).toNat + k2 = i2 := ⟨_, rfl⟩
  have n1 : (m.natAbs : Int) * 10 ^ (e - c).toNat = val (x1 :: r1) * 10 ^ i1 := by rw [← v1, ← ei1, p10_add]; grind
  have n2 : (n.natAbs : Int) * 10 ^ (f - c).toNat = val (x2 :: r2) * 10 ^ i2 := by rw [← v2, ← ei2, p10_add]; grind
  rw [n1, n2]
  have lc1 : (x1 :: r1).length = r1.length + 1 := rfl
  have lc2 : (x2 :: r2).length = r2.length + 1 := rfl
  unfold spec_larger.f
  rw [w64 (by omega) (by omega), w64 (by omega) (by omega)]
  by_cases heq : ((x1 :: r1).length : Int) + (e + k1) = ((x2 :: r2).length : Int) + (f + k2)
  · refine ifp heq ?_
    have := larger_l0 s t (e + k1) (f + k2) (x1 :: r1) (x2 :: r2) (by omega) (by omega) _ 0 rfl
    simp only [List.drop_zero] at this
    rw [cmpPad_spec _ _ d1 d2] at this
    have e1 : (x1 :: r1).length + i1 = (x2 :: r2).length + i2 := by omega
    have z1 : val (x1 :: r1) * 10 ^ (x2 :: r2).length * 10 ^ (i1 + i2) = val (x1 :: r1) * 10 ^ i1 * 10 ^ ((x2 :: r2).length + i2) := by
      rw [p10_add, p10_add]; grind
    have z2 : val (x2 :: r2) * 10 ^ (x1 :: r1).length * 10 ^ (i1 + i2) = val (x2 :: r2) * 10 ^ i2 * 10 ^ ((x2 :: r2).length + i2) := by
      rw [← e1, p10_add, p10_add]; grind
    rw [← cmp_scale (p10_pos (i1 + i2)), z1, z2, cmp_scale (p10_pos _)] at this
    exact this
  · refine ifn heq ?_
    by_cases hlt : ((x1 :: r1).length : Int) + (e + k1) < ((x2 :: r2).length : Int) + (f + k2)
    · refine ifp hlt (now ?_)
      have z1 : val (x1 :: r1) * 10 ^ i1 < 10 ^ (x1 :: r1).length * 10 ^ i1 := Int.mul_lt_mul_of_pos_right b1.2 (p10_pos _)
      have z2 : 10 ^ r2.length * 10 ^ i2 ≤ val (x2 :: r2) * 10 ^ i2 := Int.mul_le_mul_of_nonneg_right q2 (by have := p10_pos i2; omega)
      rw [← p10_add] at z1 z2
      have z3 := p10_mono (show (x1 :: r1).length + i1 ≤ r2.length + i2 by omega)
      unfold cmp
      rw [if_pos (by omega)]
    · refine ifn hlt (now ?_)
      have z1 : val (x2 :: r2) * 10 ^ i2 < 10 ^ (x2 :: r2).length * 10 ^ i2 := Int.mul_lt_mul_of_pos_right b2.2 (p10_pos _)
      have z2 : 10 ^ r1.length * 10 ^ i1 ≤ val (x1 :: r1) * 10 ^ i1 := Int.mul_le_mul_of_nonneg_right q1 (by have := p10_pos i1; omega)
      rw [← p10_add] at z1 z2
      have z3 := p10_mono (show (x2 :: r2).length + i2 ≤ r1.length + i1 by omega)
      unfold cmp
      rw [if_neg (by omega), if_neg (by omega)]

theorem decimal_l1 (neg : Bool) (n : Nat) : ∀ (l : List Int) (e : Int), l.length = n → Digits l → l ≠ [] → l.head? ≠ some 0 → l.length < 1099511627776 → -1099511627776 ≤ e → e + l.length < 1099511627776 →
    Ev (fun k => spec_decimal.l1 k neg l e) (dec (sg neg (val l)) e) := by
  induction n with
  | zero => intro l e hn _ hne; exact absurd (List.length_eq_zero_iff.1 hn) hne
  | succ n ih =>
    intro l e hn hd hne hh hlen he0 he1
    obtain ⟨m, d, rfl⟩ : ∃ m d, l = m ++ [d] := ⟨l.dropLast, l.getLast hne, (List.dropLast_concat_getLast hne).symm⟩
    have hm : m.length = n := by simpa using hn
    have hll : (m ++ [d]).length = m.length + 1 := by simp
    have w : wrap64 (((m ++ [d]).length : Int) - 1) = (m.length : Int) := by rw [w64 (by omega) (by omega)]; omega
    have hrd : rd (m ++ [d]) (m.length : Int) = d := by rw [rd_eq]; simp [List.getD_eq_getElem?_getD]
    have w2 : wrap64 (e + 1) = e + 1 := w64 (by omega) (by omega)
    refine Ev.step (fun k => spec_decimal.l1.eq_2 ..) ?_
    rw [w, hrd, w2]
    refine ifp (by omega) (ifp (by omega) (ifp (by omega) ?_))
    by_cases h0 : d = 0
    · subst h0
      refine ifp rfl (ifp (by omega) ?_)
      have hmne : m ≠ [] := by intro e; subst e; simp at hh
      have hmh : m.head? ≠ some 0 := by
        cases m with
        | nil => exact absurd rfl hmne
        | cons a b => simpa using hh
      have ht : (m ++ [0]).take (m.length : Int).toNat = m := by simp
      rw [ht]
      have := ih m (e + 1) hm hd.left hmne hmh (by omega) (by omega) (by omega)
      have e1 : sg neg (val (m ++ [0])) = 10 * sg neg (val m) := by rw [val_snoc]; unfold sg; cases neg <;> simp <;> omega
      rw [e1, dec_ten]
      exact this
    · refine ifn h0 (ifn (by omega) (sb (ifp (by simp; omega) (now ?_))))
      unfold sg
      rw [dec_val (m ++ [d]) e neg hd hne hh (by simpa using h0)]
      simp

theorem decimal_l0 (neg : Bool) : ∀ (l : List Int) (e : Int), Digits l → l.length < 1099511627776 → -1099511627776 ≤ e → e + l.length < 1099511627776 →
    Ev (fun k => spec_decimal.l0 k neg l e) (dec (sg neg (val l)) e) := by
  intro l
  induction l with
  | nil =>
    intro e _ _ _ _
    refine Ev.step (fun k => spec_decimal.l0.eq_2 ..) (ifn (by simp) ?_)
    refine Ev.step (fun k => spec_decimal.j1.eq_2 ..) ?_
    refine Ev.step (fun k => spec_decimal.l1.eq_2 ..) (ifn (by simp) (ifp (by simp) (now ?_)))
    unfold sg val
    cases neg <;> simp [dec_zero]
  | cons d l ih =>
    intro e hd hl h0 h1
    have hll : (d :: l).length = l.length + 1 := rfl
    have hrd : rd (d :: l) 0 = d := by simp [rd]
    refine Ev.step (fun k => spec_decimal.l0.eq_2 ..) ?_
    rw [hrd]
    refine ifp (by omega) (ifp (by omega) ?_)
    by_cases hz : d = 0
    · subst hz
      refine ifp rfl (ifp (by omega) ?_)
      have := ih e hd.cons.2 (by omega) h0 (by omega)
      simpa [val] using this
    · refine ifn hz ?_
      refine Ev.step (fun k => spec_decimal.j1.eq_2 ..) ?_
      exact decimal_l1 neg _ (d :: l) e rfl hd (by simp) (by simpa using hz) hl h0 h1

/-- Digits, however many noughts stand at their ends, as a decimal. -/
theorem decimal_ev (neg : Bool) (l : List Int) (e : Int) (hd : Digits l) (hl : l.length < 1099511627776) (h0 : -1099511627776 ≤ e) (h1 : e + l.length < 1099511627776) :
    Ev (fun k => spec_decimal.f k neg l e) (dec (sg neg (val l)) e) := by
  unfold spec_decimal.f; exact decimal_l0 neg l e hd hl h0 h1



theorem wide_l0 (x : Int) (n : Nat) : ∀ (l : List Int) (e : Int), l ≠ [] → x ≤ e → (e - x).toNat = n → l.length + n < 1099511627776 → -1099511627776 ≤ x → e ≤ 1099511627776 →
    Ev (fun k => spec_wide.l0 k x l e) (l ++ List.replicate n 0) := by
  induction n with
  | zero =>
    intro l e hne hx hn hl h0 h1
    refine Ev.step (fun k => spec_wide.l0.eq_2 ..) (ifn (by omega) (now ?_))
    simp
  | succ n ih =>
    intro l e hne hx hn hl h0 h1
    have hpos : 0 < l.length := List.length_pos_iff.2 hne
    refine Ev.step (fun k => spec_wide.l0.eq_2 ..) (ifp (by omega) (ifp (by omega) ?_))
    have := ih (l ++ [0]) (e - 1) (by simp) (by omega) (by omega) (by simp; omega) h0 (by omega)
    rw [w64 (x := e - 1) (by omega) (by omega)]
    rw [List.append_assoc] at this
    have e1 : [0] ++ List.replicate n (0 : Int) = List.replicate (n + 1) 0 := by simp [List.replicate_succ]
    rw [e1] at this
    exact ifp (by omega) this

/-- The digits of a number down to a power of ten that is not above its own. -/
theorem wide_ev (s : Bool) (l : List Int) (e x : Int) (hne : l ≠ []) (hx : x ≤ e) (hl : l.length + (e - x).toNat < 1099511627776) (h0 : -1099511627776 ≤ x) (h1 : e ≤ 1099511627776) :
    Ev (fun k => spec_wide.f k s l e x) (l ++ List.replicate (e - x).toNat 0) := by
  unfold spec_wide.f
  exact sb (ifp (by simp; omega) (by simpa using wide_l0 x _ l e hne hx rfl hl h0 h1))

theorem wide_nil (s : Bool) (e x : Int) : Ev (fun k => spec_wide.f k s [] e x) [] := by
  unfold spec_wide.f
  refine sb (ifp (by simp) ?_)
  refine Ev.step (fun k => spec_wide.l0.eq_2 ..) ?_
  by_cases h : e > x
  · exact ifp h (ifn (by simp) (now (by simp)))
  · exact ifn h (now (by simp))

theorem of_l0 (a0 a1 : Int) (h0 : -1073741824 ≤ a1) (h1 : a1 ≤ 1073741824) (n : Nat) : ∀ (u : Nat) (out : List Int), u < 10 ^ n → u < 18446744073709551616 → out.length + n ≤ 1000 → Digits out →
    Ev (fun k => spec_DecimalOf.l0 k a0 a1 u out) (dec (sg (decide (a0 < 0)) (u * 10 ^ out.length + val out)) a1) := by
  induction n with
  | zero =>
    intro u out hu _ hl hd
    have hu0 : u = 0 := by simp at hu; exact hu
    subst hu0
    refine Ev.step (fun k => spec_DecimalOf.l0.eq_2 ..) (ifn (by simp) ?_)
    have := decimal_ev (decide (a0 < 0)) out a1 hd (by omega) (by omega) (by omega)
    simpa using this.bind (f := fun _ t => some (t.1, t.2.1, t.2.2)) (Ev.now _)
  | succ n ih =>
    intro u out hu hub hl hd
    refine Ev.step (fun k => spec_DecimalOf.l0.eq_2 ..) ?_
    by_cases hz : u = 0
    · subst hz
      refine ifn (by simp) ?_
      have := decimal_ev (decide (a0 < 0)) out a1 hd (by omega) (by omega) (by omega)
      simpa using this.bind (f := fun _ t => some (t.1, t.2.1, t.2.2)) (Ev.now _)
    · have e1 : wrap64 (Int.tmod (u : Int) 10) = ((u % 10 : Nat) : Int) := by
        rw [Int.tmod_eq_emod_of_nonneg (by omega), w64 (by omega) (by omega)]; omega
      have e2 : IntKind.u64.wrap (Int.tdiv (u : Int) 10) = ((u / 10 : Nat) : Int) := by
        rw [Int.tdiv_eq_ediv_of_nonneg (by omega), IntKind.wrap_u64]; omega
      refine ifp (by omega) ?_
      rw [e1, e2]
      refine sb (ifp (by simp; omega) ?_)
      have step := ih (u / 10) (((u % 10 : Nat) : Int) :: out) (by rw [Nat.pow_succ] at hu; omega) (by omega) (by simp; omega) (Digits.mk_cons (by omega) (by omega) hd)
      have hv : ((u / 10 : Nat) : Int) * 10 ^ (((u % 10 : Nat) : Int) :: out).length + val (((u % 10 : Nat) : Int) :: out) = u * 10 ^ out.length + val out := by
        have hu2 : (u : Int) = 10 * ((u / 10 : Nat) : Int) + ((u % 10 : Nat) : Int) := by omega
        generalize ((u / 10 : Nat) : Int) = q at *
        generalize ((u % 10 : Nat) : Int) = r at *
        rw [hu2, List.length_cons, p10_succ]; simp only [val]; grind
      rw [hv] at step
      exact step

/-- A number times a power of ten. -/
theorem of_ev (a e : Int) (h0 : -9223372036854775808 ≤ a) (h1 : a ≤ 9223372036854775807) (h2 : -1073741824 ≤ e) (h3 : e ≤ 1073741824) :
    Ev (fun k => spec_DecimalOf.f k a e) (dec a e) := by
  have key := of_l0 a e h2 h3 20 a.natAbs [] (by omega) (by omega) (by simp) Digits.nil
  have hsg : sg (decide (a < 0)) (a.natAbs * 10 ^ ([] : List Int).length + val []) = a := by
    unfold sg
    simp only [List.length_nil, Int.pow_zero, Int.mul_one, val]
    by_cases h : a < 0
    · simp only [h, decide_true, if_true]; omega
    · simp only [h, decide_false, Bool.false_eq_true, if_false]; omega
  rw [hsg] at key
  unfold spec_DecimalOf.f
  by_cases h : a < 0
  · refine ifp h ?_
    have : IntKind.u64.wrap (-(IntKind.u64.wrap a)) = (a.natAbs : Int) := by rw [IntKind.wrap_u64, IntKind.wrap_u64]; omega
    rw [this]
    exact Ev.step (fun k => spec_DecimalOf.j0.eq_2 ..) key
  · refine ifn h ?_
    have : IntKind.u64.wrap a = (a.natAbs : Int) := by rw [IntKind.wrap_u64]; omega
    rw [this]
    exact Ev.step (fun k => spec_DecimalOf.j0.eq_2 ..) key

/-- Whether a number is an int64. -/
def fits (n : Int) : Bool := decide (-9223372036854775808 ≤ n) && decide (n ≤ 9223372036854775807)

theorem fits_iff (n : Int) : fits n = true ↔ -9223372036854775808 ≤ n ∧ n ≤ 9223372036854775807 := by simp [fits]
theorem fits_not (n : Int) : fits n = false ↔ n < -9223372036854775808 ∨ 9223372036854775807 < n := by simp [fits]; omega


theorem int_l0 (neg : Bool) (l t : List Int) (x : Int) (ht : Digits t) (hl : t.length ≤ 19) (n : Nat) : ∀ i : Nat, i ≤ t.length → t.length - i = n →
    Ev (fun k => spec_DecimalInt.l0 k (val (t.take i)) t t.length i neg l x) (if neg = true then (wrap64 (IntKind.u64.wrap (-val t)), decide (val t ≤ 9223372036854775808)) else (wrap64 (val t), decide (val t < 9223372036854775808))) := by
  induction n with
  | zero =>
    intro i hi hn
    have : i = t.length := by omega
    subst this
    rw [List.take_length]
    refine Ev.step (fun k => spec_DecimalInt.l0.eq_2 ..) (ifn (by omega) ?_)
    by_cases h : neg = true
    · exact ifp h (now (by rw [if_pos h]))
    · exact ifn h (now (by rw [if_neg h]))
  | succ n ih =>
    intro i hi hn
    have hlt : i < t.length := by omega
    have step := ih (i + 1) (by omega) (by omega)
    have htk : val (t.take (i + 1)) = 10 * val (t.take i) + t.getD i 0 := by
      rw [List.take_succ_eq_append_getElem hlt, val_snoc, List.getD_eq_getElem?_getD, List.getElem?_eq_getElem hlt]; rfl
    have b1 := val_bounds (ht.take (i + 1))
    have b0 := val_bounds (ht.take i)
    have hd := ht.getD i
    have hp := p10_mono (show (t.take (i + 1)).length ≤ 19 by simp; omega)
    refine Ev.step (fun k => spec_DecimalInt.l0.eq_2 ..) (ifp (by omega) (ifp (by omega) (ifp (by omega) ?_)))
    have e1 : IntKind.u64.wrap (IntKind.u64.wrap (10 * val (t.take i)) + IntKind.u64.wrap (rd t i)) = val (t.take (i + 1)) := by
      rw [rd_eq, IntKind.wrap_u64, IntKind.wrap_u64, IntKind.wrap_u64, htk]; rw [htk] at b1
      have : (10 : Int) ^ 19 = 10000000000000000000 := by decide
      rw [this] at hp
      omega
    rw [e1, w64 (x := (i : Int) + 1) (by omega) (by omega)]
    exact step

/-- A whole number as an int64. -/
theorem int_ev (m e : Int) (h0 : 0 ≤ e) (h1 : (dec m e).2.2 ≤ 1073741824) (hl : (dec m e).2.1.length < 1073741824) :
    ∃ v, Ev (fun k => spec_DecimalInt.f k (dec m e).1 (dec m e).2.1 (dec m e).2.2) (v, fits (m * 10 ^ e.toNat)) ∧ (fits (m * 10 ^ e.toNat) = true → v = m * 10 ^ e.toNat) := by
  by_cases hm : m = 0
  · subst hm
    refine ⟨0, ?_, fun _ => by simp⟩
    rw [dec_zero]
    unfold spec_DecimalInt.f
    refine ifn (by simp) ?_
    refine Ev.step (fun k => spec_DecimalInt.j0.eq_2 ..) (ifn (by simp) ?_)
    refine (wide_nil _ _ _).bind ?_
    refine Ev.step (fun k => spec_DecimalInt.l0.eq_2 ..) (ifn (by simp) (ifn (by simp) (now ?_)))
    simp [fits, wrap64]
  · obtain ⟨l, k, hp, hd, hne, hh, hg, hv⟩ := dec_parts m e hm
    rw [hp] at h1 hl ⊢
    simp only at h1 hl ⊢
    have hpos : 0 < l.length := List.length_pos_iff.2 hne
    obtain ⟨a, r, rfl⟩ : ∃ x r, l = x :: r := by cases l with | nil => exact absurd rfl hne | cons x r => exact ⟨x, r, rfl⟩
    have hlow := val_low hd (by simpa using hh)
    have hlc : (a :: r).length = r.length + 1 := rfl
    obtain ⟨X, hX⟩ : ∃ X : Nat, e + k = X := ⟨(e + k).toNat, by omega⟩
    have hXe : e.toNat + k = X := by omega
    have habs : (m.natAbs : Int) * 10 ^ e.toNat = val (a :: r) * 10 ^ X := by rw [← hv, ← hXe, p10_add]; grind
    unfold spec_DecimalInt.f
    rw [w64 (by omega) (by omega)]
    by_cases hbig : ((a :: r).length : Int) + (e + k) > 19
    · -- more than nineteen digits
      refine ⟨0, ?_, ?_⟩
      · have hf : fits (m * 10 ^ e.toNat) = false := by
          rw [fits_not]
          have z1 : 10 ^ r.length * 10 ^ X ≤ val (a :: r) * 10 ^ X := Int.mul_le_mul_of_nonneg_right hlow (by have := p10_pos X; omega)
          rw [← p10_add, ← habs] at z1
          have z2 := p10_mono (show 19 ≤ r.length + X by omega)
          rw [show (10 : Int) ^ 19 = 10000000000000000000 from by decide] at z2
          have z3 : m * 10 ^ e.toNat = m.natAbs * 10 ^ e.toNat ∨ m * 10 ^ e.toNat = -(m.natAbs * 10 ^ e.toNat) := by
            rcases Int.natAbs_eq m with h | h
            · left; rw [← h]
            · right; rw [← Int.neg_mul, ← h]
          omega
        rw [hf]
        refine ifp (by omega) (ifn (by omega) ?_)
        rw [decide_eq_true hbig]
        exact Ev.step (fun k => spec_DecimalInt.j0.eq_2 ..) (ifp rfl (Ev.now _))
      · intro hf
        rw [fits_iff] at hf
        have z1 : 10 ^ r.length * 10 ^ X ≤ val (a :: r) * 10 ^ X := Int.mul_le_mul_of_nonneg_right hlow (by have := p10_pos X; omega)
        rw [← p10_add, ← habs] at z1
        have z2 := p10_mono (show 19 ≤ r.length + X by omega)
        rw [show (10 : Int) ^ 19 = 10000000000000000000 from by decide] at z2
        have z3 : m * 10 ^ e.toNat = m.natAbs * 10 ^ e.toNat ∨ m * 10 ^ e.toNat = -(m.natAbs * 10 ^ e.toNat) := by
          rcases Int.natAbs_eq m with h | h
          · left; rw [← h]
          · right; rw [← Int.neg_mul, ← h]
        omega
    · have ht : Digits ((a :: r) ++ List.replicate (e + k - 0).toNat 0) := hd.append (digits_replicate _)
      have htl : ((a :: r) ++ List.replicate (e + k - 0).toNat (0 : Int)).length ≤ 19 := by simp; omega
      have hval : val ((a :: r) ++ List.replicate (e + k - 0).toNat 0) = m.natAbs * 10 ^ e.toNat := by
        rw [val_append, val_replicate_zero, List.length_replicate, habs, show (e + k - 0).toNat = X from by omega]; omega
      have hloop := int_l0 (decide (m < 0)) (a :: r) _ (e + k) ht htl _ 0 (by omega) rfl
      have hvb := val_bounds ht
      have hp19 := p10_mono htl
      rw [show (10 : Int) ^ 19 = 10000000000000000000 from by decide] at hp19
      rw [List.take_zero, hval] at hloop
      rw [hval] at hvb
      have hmm : m * 10 ^ e.toNat = if m < 0 then -((m.natAbs : Int) * 10 ^ e.toNat) else (m.natAbs : Int) * 10 ^ e.toNat := by
        by_cases h : m < 0
        · rw [if_pos h, ← Int.neg_mul]; congr 1; omega
        · rw [if_neg h]; congr 1; omega
      generalize hM : (m.natAbs : Int) * 10 ^ e.toNat = M at *
      rw [hmm]
      have start : ∀ q, Ev (fun k_1 => spec_DecimalInt.l0 k_1 (val []) ((a :: r) ++ List.replicate (e + k - 0).toNat 0) ((a :: r) ++ List.replicate (e + k - 0).toNat (0 : Int)).length ((0 : Nat) : Int) (decide (m < 0)) (a :: r) (e + k)) q →
          Ev (fun k_1 => if ((a :: r).length : Int) > 0 then (if e + k < 0 then spec_DecimalInt.j0 k_1 true (decide (m < 0)) (a :: r) (e + k) else spec_DecimalInt.j0 k_1 (decide (((a :: r).length : Int) + (e + k) > 19)) (decide (m < 0)) (a :: r) (e + k)) else spec_DecimalInt.j0 k_1 false (decide (m < 0)) (a :: r) (e + k)) q := by
        intro q hq
        refine ifp (by omega) (ifn (by omega) ?_)
        rw [decide_eq_false hbig]
        refine Ev.step (fun k => spec_DecimalInt.j0.eq_2 ..) (ifn (by simp) ?_)
        exact (wide_ev _ _ _ _ (by simp) (by omega) (by omega) (by omega) (by omega)).bind hq
      by_cases hneg : m < 0
      · rw [decide_eq_true hneg] at hloop start ⊢
        simp only [if_true] at hloop
        rw [if_pos hneg]
        refine ⟨wrap64 (IntKind.u64.wrap (-M)), ?_, ?_⟩
        · refine start _ ?_
          have e1 : fits (-M) = decide (M ≤ 9223372036854775808) := by unfold fits; rw [Bool.eq_iff_iff]; simp; omega
          rw [e1]
          exact hloop
        · rw [fits_iff]; intro hf; rw [IntKind.wrap_u64]; unfold wrap64; omega
      · rw [decide_eq_false hneg] at hloop start ⊢
        rw [if_neg (by simp)] at hloop
        rw [if_neg hneg]
        refine ⟨wrap64 M, ?_, ?_⟩
        · refine start _ ?_
          have e1 : fits M = decide (M < 9223372036854775808) := by unfold fits; rw [Bool.eq_iff_iff]; simp; omega
          rw [e1]
          exact hloop
        · rw [fits_iff]; intro hf; unfold wrap64; omega


end Go.Proofs.Ytpchihkegmihiaa.LFnAmountSign
