/- The reference's decimals: sums, products, order, rounding, as numbers. -/
import Derived.Test.YtpchihkegmihiaaLFnScaleTensa
import Derived.DataShut
namespace Go.Proofs.Ytpchihkegmihiaa.LFnScaleTens
open Go.RowKit Go.Proofs.Ytpchihkegmihiaa.PFnScaleTens Go.Proofs.YtpchihkegmihiaaW.PrintWords Go.Proofs.YtpchihkegmihiaaW.PrintLast Go.Proofs.YtpchihkegmihiaaW.PrintMore Go.Proofs.Ytpchihkegmihiaa.EvL Go.Proofs.Ytpchihkegmihiaa.Dec

theorem sg_abs (m : Int) : sg (decide (m < 0)) (m.natAbs : Int) = m := by
  unfold sg
  by_cases h : m < 0
  · simp only [h, decide_true, if_true]; omega
  · simp only [h, decide_false, Bool.false_eq_true, if_false]; omega

theorem sg_mul (s : Bool) (a b : Int) : sg s (a * b) = sg s a * b := by
  unfold sg; cases s <;> simp <;> grind

theorem sg_xor (s t : Bool) (a b : Int) : sg (s != t) (a * b) = sg s a * sg t b := by
  unfold sg; cases s <;> cases t <;> simp <;> grind


def Within (B : Int) (l : List Int) : Prop := ∀ d ∈ l, 0 ≤ d ∧ d ≤ B

theorem Within.set {B C : Int} {l : List Int} (h : Within B l) (hBC : B ≤ C) (j : Nat) (v : Int) (h0 : 0 ≤ v) (h1 : v ≤ C) : Within C (l.set j v) := by
  intro d hd
  rcases List.mem_or_eq_of_mem_set hd with hd | rfl
  · have := h d hd; omega
  · exact ⟨h0, h1⟩

theorem Within.getD {B : Int} {l : List Int} (h : Within B l) (hB : 0 ≤ B) (i : Nat) : 0 ≤ l.getD i 0 ∧ l.getD i 0 ≤ B := by
  rw [List.getD_eq_getElem?_getD]
  by_cases hi : i < l.length
  · simp only [List.getElem?_eq_getElem hi, Option.getD_some]
    exact h _ (List.getElem_mem hi)
  · simp [List.getElem?_eq_none (by omega : l.length ≤ i)]; exact hB

theorem val_take (l : List Int) (i : Nat) (h : i < l.length) : val (l.take (i + 1)) = 10 * val (l.take i) + l.getD i 0 := by
  rw [List.take_succ_eq_append_getElem h, val_snoc, List.getD_eq_getElem?_getD, List.getElem?_eq_getElem h]; rfl

theorem ring1 (V D P K : Int) : V * (10 * P) * K + D * P * (K * 10 ^ 0) = (10 * V + D) * P * K := by grind
theorem ring2 (U D T K P E R : Int) : U + D * P * (T * (10 * K)) + (R + D * E - R) * (P * K) = U + D * P * ((10 * T + E) * K) := by grind
theorem ring3 (P A C q u T : Int) (h : C = 10 * q + u) : P + (A + q - A) * (10 * T) + (u - C) * T = P := by grind

theorem times_l1 (s t : Bool) (a b : List Int) (e f : Int) (ha : Digits a) (hb : Digits b) (hal : a.length < 1048576) (hbl : b.length < 1048576) (i : Nat) (hi : i < a.length) (r : Bool × List Int × Int) (B : Int) (hB0 : 0 ≤ B) (hB : B ≤ 1000000000000000000)
    (next : ∀ row : List Int, row.length = a.length + b.length + 1 → Within (B + 81 * b.length) row → val row = val (a.take (i + 1)) * 10 ^ (a.length - (i + 1)) * val b → Ev (fun k => spec_DecimalTimes.l0 k row a.length ((i + 1 : Nat) : Int) s a e t b f) r) (n : Nat) :
    ∀ (j : Nat) (row : List Int), b.length - j = n → j ≤ b.length → row.length = a.length + b.length + 1 → Within (B + 81 * j) row →
      val row = val (a.take i) * 10 ^ (a.length - i) * val b + a.getD i 0 * 10 ^ (a.length - (i + 1)) * (val (b.take j) * 10 ^ (b.length - j)) →
      Ev (fun k => spec_DecimalTimes.l1 k row i a.length i b.length j s a e t b f) r := by
  induction n with
  | zero =>
    intro j row hn hj hrl hw hv
    have : j = b.length := by omega
    subst this
    refine Ev.step (fun k => spec_DecimalTimes.l1.eq_2 ..) (ifn (by omega) ?_)
    rw [w64 (x := (i : Int) + 1) (by omega) (by omega)]
    refine next row hrl hw ?_
    rw [hv, val_take a i hi, List.take_length, Nat.sub_self]
    have : (10 : Int) ^ (a.length - i) = 10 * 10 ^ (a.length - (i + 1)) := by rw [← p10_succ]; congr 1; omega
    rw [this]; exact ring1 _ _ _ _
  | succ n ih =>
    intro j row hn hj hrl hw hv
    have hlt : j < b.length := by omega
    have dA := ha.getD i
    have dB := hb.getD j
    have hp0 : 0 ≤ a.getD i 0 * b.getD j 0 := Int.mul_nonneg dA.1 dB.1
    have hp1 : a.getD i 0 * b.getD j 0 ≤ 9 * 9 := Int.mul_le_mul dA.2 dB.2 dB.1 (by omega)
    have hR := hw.getD (by omega) (i + j + 2)
    have widx : wrap64 (wrap64 ((i : Int) + j) + 2) = ((i + j + 2 : Nat) : Int) := by
      rw [w64 (x := (i : Int) + j) (by omega) (by omega), w64 (by omega) (by omega)]; omega
    refine Ev.step (fun k => spec_DecimalTimes.l1.eq_2 ..) (ifp (by omega) ?_)
    rw [widx]
    clear widx
    refine ifp (by omega) ?_
    refine ifp (by omega) ?_
    refine ifp (by omega) ?_
    refine ifp (by omega) ?_
    refine ifp (by omega) ?_
    refine ifp (by omega) ?_
    rw [rd_eq, rd_eq, rd_eq, w64 (x := (j : Int) + 1) (by omega) (by omega), w64 (x := a.getD i 0 * b.getD j 0) (by omega) (by omega),
      w64 (x := row.getD (i + j + 2) 0 + a.getD i 0 * b.getD j 0) (by omega) (by omega)]
    have htn : (((i + j + 2 : Nat) : Int)).toNat = i + j + 2 := by omega
    rw [htn]
    have step := ih (j + 1) (row.set (i + j + 2) (row.getD (i + j + 2) 0 + a.getD i 0 * b.getD j 0)) (by omega) (by omega) (by simpa using hrl)
      (hw.set (by omega) _ _ (by omega) (by omega)) (by
        rw [val_set _ _ _ (by omega), hv, hrl, val_take b j hlt]
        have e1 : a.length + b.length + 1 - 1 - (i + j + 2) = (a.length - (i + 1)) + (b.length - (j + 1)) := by omega
        have e2 : (10 : Int) ^ (b.length - j) = 10 * 10 ^ (b.length - (j + 1)) := by rw [← p10_succ]; congr 1; omega
        rw [e1, p10_add, e2]; exact ring2 _ _ _ _ _ _ _)
    exact step

theorem times_l2 (s t : Bool) (a b : List Int) (e f : Int) (he0 : -1073741824 ≤ e + f) (he1 : e + f ≤ 1073741824) (P : Int) (hP : P < 10 ^ (a.length + b.length)) (hal : a.length < 1048576) (hbl : b.length < 1048576) (B : Int) (hB0 : 9 ≤ B) (hB : B ≤ 2000000000000000000) (j : Nat) :
    ∀ (row : List Int), j < row.length → row.length = a.length + b.length + 1 → (∀ i < j, 0 ≤ row.getD i 0 ∧ row.getD i 0 ≤ B) → 0 ≤ row.getD j 0 → row.getD j 0 ≤ 2 * B → (∀ i, j < i → 0 ≤ row.getD i 0 ∧ row.getD i 0 ≤ 9) → val row = P →
      Ev (fun k => spec_DecimalTimes.l2 k row j s a e t b f) (dec (sg (s != t) P) (e + f)) := by
  induction j with
  | zero =>
    intro row hj hrl _ h0 hB0' hhi hv
    refine Ev.step (fun k => spec_DecimalTimes.l2.eq_2 ..) (ifn (by omega) ?_)
    rw [w64 (x := e + f) (by omega) (by omega)]
    -- the first place is 0
    have hdig : Digits row := by
      obtain ⟨x, m, rfl⟩ : ∃ x m, row = x :: m := by cases row with | nil => simp at hj | cons x m => exact ⟨x, m, rfl⟩
      have hm : Digits m := by
        intro d hd
        obtain ⟨i, hi, rfl⟩ := List.mem_iff_getElem.1 hd
        have := hhi (i + 1) (by omega)
        simpa [List.getD_eq_getElem?_getD, hi] using this
      have hx0 : 0 ≤ x := by simpa using h0
      have hml : m.length = a.length + b.length := by simpa using hrl
      have hmb := val_bounds hm
      have hp := p10_pos (a.length + b.length)
      simp only [val, hml] at hv
      have hx1 : x < 1 := by
        apply Classical.byContradiction
        intro hx
        have : 1 * 10 ^ (a.length + b.length) ≤ x * 10 ^ (a.length + b.length) := Int.mul_le_mul_of_nonneg_right (by omega) (by omega)
        omega
      exact Digits.mk_cons hx0 (by omega) hm
    have := decimal_ev (s != t) row (e + f) hdig (by omega) (by omega) (by omega)
    rw [hv] at this
    exact this.bind (Ev.now _)
  | succ j ih =>
    intro row hj hrl hlo h0 h1 hhi hv
    obtain ⟨A, hA⟩ : ∃ A, row.getD j 0 = A := ⟨_, rfl⟩
    obtain ⟨C, hC⟩ : ∃ C, row.getD (j + 1) 0 = C := ⟨_, rfl⟩
    have hAb := hlo j (by omega)
    rw [hA] at hAb
    rw [hC] at h0 h1
    have wj : wrap64 (((j + 1 : Nat) : Int) - 1) = (j : Int) := by rw [w64 (by omega) (by omega)]; omega
    refine Ev.step (fun k => spec_DecimalTimes.l2.eq_2 ..) (ifp (by omega) ?_)
    rw [wj]
    clear wj
    refine ifp (by omega) ?_
    refine ifp (by omega) ?_
    refine ifp (by omega) ?_
    refine ifp (by omega) (sb ?_)
    rw [rd_eq, rd_eq, hA, hC, Int.tdiv_eq_ediv_of_nonneg h0, w64 (x := C / 10) (by omega) (by omega), w64 (x := A + C / 10) (by omega) (by omega)]
    have htn : ((j : Int)).toNat = j := by omega
    have htn2 : (((j + 1 : Nat) : Int)).toNat = j + 1 := by omega
    rw [htn, htn2, rd_eq]
    have hC2 : (row.set j (A + C / 10)).getD (j + 1) 0 = C := by
      rw [List.getD_eq_getElem?_getD, List.getElem?_set_ne (by omega), ← List.getD_eq_getElem?_getD, hC]
    rw [hC2, Int.tmod_eq_emod_of_nonneg h0]
    have gj : ((row.set j (A + C / 10)).set (j + 1) (C % 10)).getD j 0 = A + C / 10 := by
      rw [List.getD_eq_getElem?_getD, List.getElem?_set_ne (by omega), List.getElem?_set_self (by omega)]; rfl
    refine ih ((row.set j (A + C / 10)).set (j + 1) (C % 10)) (by simp; omega) (by simpa using hrl) ?_ (by rw [gj]; omega) (by rw [gj]; omega) ?_ ?_
    · intro i hi
      have : ((row.set j (A + C / 10)).set (j + 1) (C % 10)).getD i 0 = row.getD i 0 := by
        rw [List.getD_eq_getElem?_getD, List.getElem?_set_ne (by omega), List.getElem?_set_ne (by omega), ← List.getD_eq_getElem?_getD]
      rw [this]; exact hlo i (by omega)
    · intro i hi
      by_cases hi2 : i = j + 1
      · subst hi2
        have : ((row.set j (A + C / 10)).set (j + 1) (C % 10)).getD (j + 1) 0 = C % 10 := by
          rw [List.getD_eq_getElem?_getD, List.getElem?_set_self (by simp; omega)]; rfl
        rw [this]; omega
      · have : ((row.set j (A + C / 10)).set (j + 1) (C % 10)).getD i 0 = row.getD i 0 := by
          rw [List.getD_eq_getElem?_getD, List.getElem?_set_ne (by omega), List.getElem?_set_ne (by omega), ← List.getD_eq_getElem?_getD]
        rw [this]; exact hhi i (by omega)
    · rw [val_set _ _ _ (by simp; omega), val_set _ _ _ (by omega), hC2, hA, hv, List.length_set, hrl]
      have e1 : a.length + b.length + 1 - 1 - j = (a.length + b.length + 1 - 1 - (j + 1)) + 1 := by omega
      rw [e1, p10_succ]
      have hdm : C = 10 * (C / 10) + C % 10 := by omega
      exact ring3 P A C (C / 10) (C % 10) _ hdm

theorem times_l0 (s t : Bool) (a b : List Int) (e f : Int) (ha : Digits a) (hb : Digits b) (hal : a.length < 1048576) (hbl : b.length < 1048576) (he0 : -1073741824 ≤ e + f) (he1 : e + f ≤ 1073741824) (n : Nat) :
    ∀ (i : Nat) (row : List Int), a.length - i = n → i ≤ a.length → row.length = a.length + b.length + 1 → Within (81 * (i * b.length : Nat)) row → val row = val (a.take i) * 10 ^ (a.length - i) * val b →
      Ev (fun k => spec_DecimalTimes.l0 k row a.length i s a e t b f) (dec (sg (s != t) (val a * val b)) (e + f)) := by
  have hlim : ∀ i : Nat, i ≤ a.length → i * b.length ≤ 1048576 * 1048576 := fun i hi => Nat.mul_le_mul (by omega) (by omega)
  induction n with
  | zero =>
    intro i row hn hi hrl hw hv
    have : i = a.length := by omega
    subst this
    have hl := hlim a.length (by omega)
    refine Ev.step (fun k => spec_DecimalTimes.l0.eq_2 ..) (ifn (by omega) ?_)
    have wl : wrap64 ((row.length : Int) - 1) = ((a.length + b.length : Nat) : Int) := by rw [w64 (by omega) (by omega)]; omega
    rw [wl]
    clear wl
    rw [List.take_length, Nat.sub_self, Int.pow_zero, Int.mul_one] at hv
    have va := val_bounds ha
    have vb := val_bounds hb
    have hP : val a * val b < 10 ^ (a.length + b.length) := by
      rw [p10_add]
      have := p10_pos b.length
      exact Int.lt_of_le_of_lt (Int.mul_le_mul_of_nonneg_left (by omega) va.1) (Int.mul_lt_mul_of_pos_right va.2 this)
    refine times_l2 s t a b e f he0 he1 (val a * val b) hP hal hbl (81 * (1048576 * 1048576) : Nat) (by omega) (by omega) (a.length + b.length) row (by omega) hrl ?_ ?_ ?_ ?_ hv
    · intro i _; have := hw.getD (by omega) i; omega
    · exact (hw.getD (by omega) _).1
    · have := hw.getD (by omega) (a.length + b.length); omega
    · intro i hi; rw [List.getD_eq_getElem?_getD, List.getElem?_eq_none (by omega)]; simp
  | succ n ih =>
    intro i row hn hi hrl hw hv
    have hl := hlim i (by omega)
    refine Ev.step (fun k => spec_DecimalTimes.l0.eq_2 ..) (ifp (by omega) ?_)
    refine times_l1 s t a b e f ha hb hal hbl i (by omega) _ (81 * (i * b.length : Nat)) (by omega) (by omega) ?_ _ 0 row rfl (by omega) hrl (by simpa using hw) (by simpa [val] using hv)
    intro row' hrl' hw' hv'
    refine ih (i + 1) row' (by omega) (by omega) hrl' ?_ hv'
    have : (81 * ((i + 1) * b.length : Nat) : Int) = 81 * (i * b.length : Nat) + 81 * b.length := by rw [Nat.add_mul]; omega
    rw [this]; exact hw'

/-- A product. -/
theorem times_ev (m n e f : Int) (hl : (dec m e).2.1.length < 1048576) (hl2 : (dec n f).2.1.length < 1048576) (h0 : -536870912 ≤ e) (h1 : -536870912 ≤ f) (hx : (dec m e).2.2 ≤ 536870912) (hx2 : (dec n f).2.2 ≤ 536870912) :
    Ev (fun k => spec_DecimalTimes.f k (dec m e).1 (dec m e).2.1 (dec m e).2.2 (dec n f).1 (dec n f).2.1 (dec n f).2.2) (dec (m * n) (e + f)) := by
  have key : ∀ (s t : Bool) (a b : List Int) (X Y : Int), Digits a → Digits b → a.length < 1048576 → b.length < 1048576 → -536870912 ≤ X → -536870912 ≤ Y → X ≤ 536870912 → Y ≤ 536870912 →
      Ev (fun k => spec_DecimalTimes.f k s a X t b Y) (dec (sg (s != t) (val a * val b)) (X + Y)) := by
    intro s t a b X Y ha hb hal hbl g0 g1 g2 g3
    unfold spec_DecimalTimes.f
    have w : wrap64 (wrap64 ((a.length : Int) + b.length) + 1) = ((a.length + b.length + 1 : Nat) : Int) := by
      rw [w64 (x := (a.length : Int) + b.length) (by omega) (by omega), w64 (by omega) (by omega)]; omega
    rw [w]
    clear w
    have htn : (((a.length + b.length + 1 : Nat) : Int)).toNat = a.length + b.length + 1 := by omega
    rw [htn]
    refine ifp (by omega) (ifp (by omega) ?_)
    refine times_l0 s t a b X Y ha hb hal hbl (by omega) (by omega) _ 0 _ rfl (by omega) (by simp) ?_ ?_
    · intro d hd; have := List.eq_of_mem_replicate hd; omega
    · rw [val_replicate_zero]; simp [val]
  by_cases hm : m = 0
  · subst hm
    by_cases hn : n = 0
    · subst hn
      have := key false false [] [] 0 0 Digits.nil Digits.nil (by simp) (by simp) (by omega) (by omega) (by omega) (by omega)
      simpa [dec_zero, val, sg] using this
    · obtain ⟨l2, k2, p2, d2, ne2, h2, g2, v2⟩ := dec_parts n f hn
      rw [p2] at hl2 hx2 ⊢
      have := key false (decide (n < 0)) [] l2 0 (f + k2) Digits.nil d2 (by simp) hl2 (by omega) (by omega) (by omega) hx2
      rw [dec_zero, Int.zero_mul, dec_zero]
      rw [show val [] * val l2 = 0 from by simp [val], show sg (false != decide (n < 0)) 0 = 0 from by unfold sg; split <;> rfl, dec_zero] at this
      exact this
  · obtain ⟨l1, k1, p1, d1, ne1, hh1, g1, v1⟩ := dec_parts m e hm
    rw [p1] at hl hx ⊢
    by_cases hn : n = 0
    · subst hn
      have := key (decide (m < 0)) false l1 [] (e + k1) 0 d1 Digits.nil hl (by simp) (by omega) (by omega) hx (by omega)
      rw [dec_zero, Int.mul_zero, dec_zero]
      rw [show val l1 * val [] = 0 from by simp [val], show sg (decide (m < 0) != false) 0 = 0 from by unfold sg; split <;> rfl, dec_zero] at this
      exact this
    · obtain ⟨l2, k2, p2, d2, ne2, h2, g2, v2⟩ := dec_parts n f hn
      rw [p2] at hl2 hx2 ⊢
      have := key (decide (m < 0)) (decide (n < 0)) l1 l2 (e + k1) (f + k2) d1 d2 hl hl2 (by omega) (by omega) hx hx2
      have e1 : dec (m * n) (e + f) = dec (sg (decide (m < 0) != decide (n < 0)) (val l1 * val l2)) (e + k1 + (f + k2)) := by
        have hm2 : m = sg (decide (m < 0)) (val l1) * 10 ^ k1 := by rw [← sg_mul, v1, sg_abs]
        have hn2 : n = sg (decide (n < 0)) (val l2) * 10 ^ k2 := by rw [← sg_mul, v2, sg_abs]
        have hmn : m * n = sg (decide (m < 0) != decide (n < 0)) (val l1 * val l2) * 10 ^ (k1 + k2) := by
          rw [sg_xor, p10_add]
          generalize sg (decide (m < 0)) (val l1) = u at *
          generalize sg (decide (n < 0)) (val l2) = v at *
          rw [hm2, hn2]; grind
        rw [hmn, dec_pow]
        congr 1
        omega
      rw [e1]
      exact this

theorem wf64 {n : Int} (h : (Lit.int .i64 n).wf = true) : -9223372036854775808 ≤ n ∧ n ≤ 9223372036854775807 := by
  have := (Go.Lit.wf_int_iff .i64 n).1 h
  simpa [IntKind.min, IntKind.max, IntKind.signed, IntKind.bits] using this


theorem tdiv_range (a b : Int) (hb : 0 < b) : (0 ≤ a → 0 ≤ Int.tdiv a b ∧ Int.tdiv a b ≤ a) ∧ (a ≤ 0 → a ≤ Int.tdiv a b ∧ Int.tdiv a b ≤ 0) := by
  have key : ∀ x : Int, 0 ≤ x → 0 ≤ Int.tdiv x b ∧ Int.tdiv x b ≤ x := by
    intro x hx
    rw [Int.tdiv_eq_ediv_of_nonneg hx]
    exact ⟨Int.ediv_nonneg hx (by omega), Int.ediv_le_self b hx⟩
  refine ⟨key a, fun ha => ?_⟩
  have := key (-a) (by omega)
  rw [Int.neg_tdiv] at this
  omega

theorem mulcheck (a b : Int) (ha : -9223372036854775808 ≤ a ∧ a ≤ 9223372036854775807) (hb : 1 ≤ b ∧ b ≤ 9223372036854775807) : (wrap64 (Int.tdiv (wrap64 (a * b)) b) == a) = fits (a * b) := by
  obtain ⟨P, hP⟩ : ∃ P, a * b = P := ⟨_, rfl⟩
  rw [hP]
  have hc : ∃ c q, wrap64 P = c ∧ c = P + 18446744073709551616 * q ∧ -9223372036854775808 ≤ c ∧ c ≤ 9223372036854775807 := by
    refine ⟨wrap64 P, -((P + 9223372036854775808) / 18446744073709551616), rfl, ?_⟩
    unfold wrap64; omega
  obtain ⟨c, q, hw, hcq, hc0, hc1⟩ := hc
  rw [hw]
  clear hw
  have hdm := Int.mul_tdiv_add_tmod c b
  have hr1 : Int.tmod c b < b := Int.tmod_lt_of_pos c (by omega)
  have hr2 : -b < Int.tmod c b := by
    have := Int.lt_tmod_of_pos c (show 0 < b by omega)
    omega
  have ht := tdiv_range c b (by omega)
  generalize hT : Int.tdiv c b = t at *
  generalize Int.tmod c b = r at *
  have ht2 : wrap64 t = t := w64 (by omega) (by omega)
  rw [ht2]
  clear ht2
  by_cases hf : fits P = true
  · rw [hf, beq_iff_eq]
    rw [fits_iff] at hf
    have hcP : c = a * b := by omega
    rw [← hT, hcP]
    exact Int.mul_tdiv_cancel a (by omega)
  · have hf2 : fits P = false := by simpa using hf
    rw [hf2, beq_eq_false_iff_ne]
    rw [fits_not] at hf2
    intro e
    subst e
    rw [Int.mul_comm b t, hP] at hdm
    omega

theorem mul10_ev (a : Int) (ha : -9223372036854775808 ≤ a ∧ a ≤ 9223372036854775807) :
    ∃ v, Ev (fun k => resource_int64MultiplyScale10.f k a) (v, fits (a * 10)) ∧ (fits (a * 10) = true → v = a * 10) := by
  have fin : fits (a * 10) = true → wrap64 (a * 10) = a * 10 := by rw [fits_iff]; intro h; exact w64 h.1 h.2
  unfold resource_int64MultiplyScale10.f
  by_cases h0 : a = 0
  · subst h0
    refine ⟨wrap64 (0 * 10), ifp rfl (Ev.step (fun k => resource_int64MultiplyScale10.j0.eq_2 ..) (ifp rfl (now ?_))), fin⟩
    rfl
  · by_cases h1 : a = 1
    · subst h1
      refine ⟨wrap64 (1 * 10), ifn (by omega) (Ev.step (fun k => resource_int64MultiplyScale10.j0.eq_2 ..) (ifp rfl (now ?_))), fin⟩
      rfl
    · by_cases h2 : a = -9223372036854775808
      · subst h2
        refine ⟨0, ifn (by omega) (Ev.step (fun k => resource_int64MultiplyScale10.j0.eq_2 ..) (ifn (by simp) (ifp rfl (now rfl)))), ?_⟩
        rw [fits_iff]; omega
      · refine ⟨wrap64 (a * 10), ifn h0 (Ev.step (fun k => resource_int64MultiplyScale10.j0.eq_2 ..) (ifn (by simpa using h1) (ifn h2 (now ?_)))), fin⟩
        rw [mulcheck a 10 ha (by omega)]

theorem mul100_ev (a : Int) (ha : -9223372036854775808 ≤ a ∧ a ≤ 9223372036854775807) :
    ∃ v, Ev (fun k => resource_int64MultiplyScale100.f k a) (v, fits (a * 100)) ∧ (fits (a * 100) = true → v = a * 100) := by
  have fin : fits (a * 100) = true → wrap64 (a * 100) = a * 100 := by rw [fits_iff]; intro h; exact w64 h.1 h.2
  unfold resource_int64MultiplyScale100.f
  by_cases h0 : a = 0
  · subst h0
    refine ⟨wrap64 (0 * 100), ifp rfl (Ev.step (fun k => resource_int64MultiplyScale100.j0.eq_2 ..) (ifp rfl (now ?_))), fin⟩
    rfl
  · by_cases h1 : a = 1
    · subst h1
      refine ⟨wrap64 (1 * 100), ifn (by omega) (Ev.step (fun k => resource_int64MultiplyScale100.j0.eq_2 ..) (ifp rfl (now ?_))), fin⟩
      rfl
    · by_cases h2 : a = -9223372036854775808
      · subst h2
        refine ⟨0, ifn (by omega) (Ev.step (fun k => resource_int64MultiplyScale100.j0.eq_2 ..) (ifn (by simp) (ifp rfl (now rfl)))), ?_⟩
        rw [fits_iff]; omega
      · refine ⟨wrap64 (a * 100), ifn h0 (Ev.step (fun k => resource_int64MultiplyScale100.j0.eq_2 ..) (ifn (by simpa using h1) (ifn h2 (now ?_)))), fin⟩
        rw [mulcheck a 100 ha (by omega)]

theorem mul1000_ev (a : Int) (ha : -9223372036854775808 ≤ a ∧ a ≤ 9223372036854775807) :
    ∃ v, Ev (fun k => resource_int64MultiplyScale1000.f k a) (v, fits (a * 1000)) ∧ (fits (a * 1000) = true → v = a * 1000) := by
  have fin : fits (a * 1000) = true → wrap64 (a * 1000) = a * 1000 := by rw [fits_iff]; intro h; exact w64 h.1 h.2
  unfold resource_int64MultiplyScale1000.f
  by_cases h0 : a = 0
  · subst h0
    refine ⟨wrap64 (0 * 1000), ifp rfl (Ev.step (fun k => resource_int64MultiplyScale1000.j0.eq_2 ..) (ifp rfl (now ?_))), fin⟩
    rfl
  · by_cases h1 : a = 1
    · subst h1
      refine ⟨wrap64 (1 * 1000), ifn (by omega) (Ev.step (fun k => resource_int64MultiplyScale1000.j0.eq_2 ..) (ifp rfl (now ?_))), fin⟩
      rfl
    · by_cases h2 : a = -9223372036854775808
      · subst h2
        refine ⟨0, ifn (by omega) (Ev.step (fun k => resource_int64MultiplyScale1000.j0.eq_2 ..) (ifn (by simp) (ifp rfl (now rfl)))), ?_⟩
        rw [fits_iff]; omega
      · refine ⟨wrap64 (a * 1000), ifn h0 (Ev.step (fun k => resource_int64MultiplyScale1000.j0.eq_2 ..) (ifn (by simpa using h1) (ifn h2 (now ?_)))), fin⟩
        rw [mulcheck a 1000 ha (by omega)]

theorem mulscale_ev (a b : Int) (ha : -9223372036854775808 ≤ a ∧ a ≤ 9223372036854775807) (hb : 2 ≤ b ∧ b ≤ 9223372036854775807) :
    ∃ v, Ev (fun k => resource_int64MultiplyScale.f k a b) (v, fits (a * b)) ∧ (fits (a * b) = true → v = a * b) := by
  have fin : fits (a * b) = true → wrap64 (a * b) = a * b := by rw [fits_iff]; intro h; exact w64 h.1 h.2
  unfold resource_int64MultiplyScale.f
  by_cases h0 : a = 0
  · subst h0
    refine ⟨wrap64 (0 * b), ifp rfl (Ev.step (fun k => resource_int64MultiplyScale.j0.eq_2 ..) (ifp rfl (now ?_))), fin⟩
    rw [show fits (0 * b) = true from by rw [fits_iff]; omega]
  · by_cases h1 : a = 1
    · subst h1
      refine ⟨wrap64 (1 * b), ifn (by omega) (Ev.step (fun k => resource_int64MultiplyScale.j0.eq_2 ..) (ifp rfl (now ?_))), fin⟩
      rw [show fits (1 * b) = true from by rw [fits_iff]; omega]
    · by_cases h2 : a = -9223372036854775808
      · subst h2
        have hf : fits (-9223372036854775808 * b) = false := by rw [fits_not]; omega
        refine ⟨0, ifn (by omega) (Ev.step (fun k => resource_int64MultiplyScale.j0.eq_2 ..) (ifn (by simp) (ifp rfl (ifn (by omega) (now ?_))))), ?_⟩
        · rw [hf]
        · rw [hf]; intro h; cases h
      · refine ⟨wrap64 (a * b), ifn h0 (Ev.step (fun k => resource_int64MultiplyScale.j0.eq_2 ..) (ifn (by simpa using h1) (ifn h2 (ifn (by omega) (now ?_))))), fin⟩
        rw [mulcheck a b ha (by omega)]

theorem fits_low (x : Int) (n : Nat) (h : fits (x * 10 ^ n) = true) : fits x = true := by
  rw [fits_iff] at h ⊢
  have hp := p10_mono (show 0 ≤ n by omega)
  simp only [Int.pow_zero] at hp
  by_cases hx : 0 ≤ x
  · have : x * 1 ≤ x * 10 ^ n := Int.mul_le_mul_of_nonneg_left hp hx
    omega
  · have : (-x) * 1 ≤ (-x) * 10 ^ n := Int.mul_le_mul_of_nonneg_left hp (by omega)
    simp only [Int.neg_mul] at this
    omega

theorem positive_l0 (s : Int) (hs : s ≤ 1073741824) (n : Nat) : ∀ (x i : Int), -9223372036854775808 ≤ x ∧ x ≤ 9223372036854775807 → 0 ≤ i → s - i = n →
    ∃ v, Ev (fun k => resource_positiveScaleInt64.l0 k s x i) (v, fits (x * 10 ^ n)) ∧ (fits (x * 10 ^ n) = true → v = x * 10 ^ n) := by
  induction n with
  | zero =>
    intro x i hx hi hn
    refine ⟨x, Ev.step (fun k => resource_positiveScaleInt64.l0.eq_2 ..) (ifn (by omega) (now ?_)), fun _ => by simp⟩
    rw [Int.pow_zero, Int.mul_one, (fits_iff x).2 hx]
  | succ n ih =>
    intro x i hx hi hn
    obtain ⟨v, hv, hvf⟩ := mulscale_ev x 10 hx (by omega)
    rw [show x * (10 : Int) ^ (n + 1) = x * 10 * 10 ^ n from by rw [p10_succ]; grind]
    by_cases hf : fits (x * 10) = true
    · have hv2 := hvf hf
      subst hv2
      rw [hf] at hv
      obtain ⟨v, hv3, hvf3⟩ := ih (x * 10) (i + 1) ((fits_iff _).1 hf) (by omega) (by omega)
      refine ⟨v, ?_, hvf3⟩
      refine Ev.step (fun k => resource_positiveScaleInt64.l0.eq_2 ..) (ifp (by omega) (hv.bind (ifp rfl ?_)))
      rw [w32 (x := i + 1) (by omega) (by omega)]
      exact hv3
    · have hf2 : fits (x * 10) = false := by simpa using hf
      have hf3 : fits (x * 10 * 10 ^ n) = false := by
        cases h : fits (x * 10 * 10 ^ n) with
        | false => rfl
        | true => exact absurd (fits_low _ _ h) hf
      rw [hf2] at hv
      refine ⟨0, ?_, fun h => by rw [hf3] at h; cases h⟩
      refine Ev.step (fun k => resource_positiveScaleInt64.l0.eq_2 ..) (ifp (by omega) (hv.bind (ifn (by simp) (now ?_))))
      rw [hf3]

/-- A number times ten to the power of s. -/
theorem positive_ev (a s : Int) (ha : -9223372036854775808 ≤ a ∧ a ≤ 9223372036854775807) (h0 : 0 ≤ s) (hs : s ≤ 1073741824) :
    ∃ v, Ev (fun k => resource_positiveScaleInt64.f k a s) (v, fits (a * 10 ^ s.toNat)) ∧ (fits (a * 10 ^ s.toNat) = true → v = a * 10 ^ s.toNat) := by
  unfold resource_positiveScaleInt64.f
  by_cases e0 : s = 0
  · subst e0
    refine ⟨a, ifp rfl (now ?_), fun _ => by simp⟩
    rw [show a * 10 ^ (0 : Int).toNat = a from by simp, (fits_iff a).2 ha]
  · by_cases e1 : s = 1
    · subst e1
      obtain ⟨v, hv, hf⟩ := mul10_ev a ha
      exact ⟨v, ifn (by omega) (ifp rfl (hv.bind (Ev.now _))), hf⟩
    · by_cases e2 : s = 2
      · subst e2
        obtain ⟨v, hv, hf⟩ := mul100_ev a ha
        exact ⟨v, ifn (by omega) (ifn (by omega) (ifp rfl (hv.bind (Ev.now _)))), hf⟩
      · by_cases e3 : s = 3
        · subst e3
          obtain ⟨v, hv, hf⟩ := mul1000_ev a ha
          exact ⟨v, ifn (by omega) (ifn (by omega) (ifn (by omega) (ifp rfl (hv.bind (Ev.now _))))), hf⟩
        · by_cases e6 : s = 6
          · subst e6
            obtain ⟨v, hv, hf⟩ := mulscale_ev a 1000000 ha (by omega)
            refine ⟨v, ?_, hf⟩
            refine ifn (by omega) (ifn (by omega) (ifn (by omega) ?_))
            exact ifn (by omega) (ifp rfl (hv.bind (Ev.now _)))
          · by_cases e9 : s = 9
            · subst e9
              obtain ⟨v, hv, hf⟩ := mulscale_ev a 1000000000 ha (by omega)
              refine ⟨v, ?_, hf⟩
              refine ifn (by omega) (ifn (by omega) (ifn (by omega) ?_))
              exact ifn (by omega) (ifn (by omega) (ifp rfl (hv.bind (Ev.now _))))
            · obtain ⟨v, hv, hf⟩ := positive_l0 s hs s.toNat a 0 ha (by omega) (by omega)
              refine ⟨v, ?_, hf⟩
              refine ifn e0 (ifn e1 (ifn e2 ?_))
              exact ifn e3 (ifn e6 (ifn e9 hv))

theorem pow10_eq (s : Int) (h0 : 0 ≤ s) (h1 : s ≤ 18) : resource_pow10Int64.f s = some (10 ^ s.toNat) := by
  have : s = 0 ∨ s = 1 ∨ s = 2 ∨ s = 3 ∨ s = 4 ∨ s = 5 ∨ s = 6 ∨ s = 7 ∨ s = 8 ∨ s = 9 ∨ s = 10 ∨ s = 11 ∨ s = 12 ∨ s = 13 ∨ s = 14 ∨ s = 15 ∨ s = 16 ∨ s = 17 ∨ s = 18 := by omega
  rcases this with rfl | rfl | rfl | rfl | rfl | rfl | rfl | rfl | rfl | rfl | rfl | rfl | rfl | rfl | rfl | rfl | rfl | rfl | rfl <;> decide


end Go.Proofs.Ytpchihkegmihiaa.LFnScaleTens
