/- Numbers by their decimal digits: decimals as one number times a power of ten. -/
namespace Go.Proofs.Ytmkpkpkcoieeiaa.Dec

/-! Numbers by their decimal digits, and decimals (a sign, digits, a power of ten) as one number times a power of ten. -/

theorem p10_pos (n : Nat) : (0 : Int) < 10 ^ n := Int.pow_pos (by decide)

theorem p10_succ (n : Nat) : (10 : Int) ^ (n + 1) = 10 * 10 ^ n := by rw [Int.pow_succ]; omega

theorem p10_add (m n : Nat) : (10 : Int) ^ (m + n) = 10 ^ m * 10 ^ n := by
  induction n with
  | zero => simp
  | succ n ih => rw [← Nat.add_assoc, p10_succ, p10_succ, ih]; grind

theorem p10_mono {m n : Nat} (h : m ≤ n) : (10 : Int) ^ m ≤ 10 ^ n := by
  obtain ⟨k, rfl⟩ := Nat.exists_eq_add_of_le h
  rw [p10_add]
  have h1 := p10_pos m
  have h2 := p10_pos k
  have h3 : (10 : Int) ^ m * 1 ≤ 10 ^ m * 10 ^ k := Int.mul_le_mul_of_nonneg_left (by omega) (by omega)
  omega

/-- The number that digits are, the greatest place first. -/
def val : List Int → Int
  | [] => 0
  | d :: l => d * 10 ^ l.length + val l

def Digits (l : List Int) : Prop := ∀ d ∈ l, 0 ≤ d ∧ d ≤ 9

theorem val_append (l m : List Int) : val (l ++ m) = val l * 10 ^ m.length + val m := by
  induction l with
  | nil => simp [val]
  | cons d l ih => simp only [List.cons_append, val, ih, List.length_append, p10_add]; grind

theorem val_snoc (l : List Int) (d : Int) : val (l ++ [d]) = 10 * val l + d := by
  rw [val_append]; simp [val]; omega

theorem Digits.cons {d : Int} {l : List Int} (h : Digits (d :: l)) : (0 ≤ d ∧ d ≤ 9) ∧ Digits l :=
  ⟨h d (by simp), fun x hx => h x (by simp [hx])⟩

theorem Digits.mk_cons {d : Int} {l : List Int} (h0 : 0 ≤ d) (h1 : d ≤ 9) (h : Digits l) : Digits (d :: l) := by
  intro x hx
  rcases List.mem_cons.1 hx with rfl | hx
  · exact ⟨h0, h1⟩
  · exact h x hx

theorem Digits.append {l m : List Int} (h : Digits l) (k : Digits m) : Digits (l ++ m) := by
  intro x hx
  rcases List.mem_append.1 hx with hx | hx
  · exact h x hx
  · exact k x hx

theorem Digits.left {l m : List Int} (h : Digits (l ++ m)) : Digits l := fun x hx => h x (by simp [hx])
theorem Digits.right {l m : List Int} (h : Digits (l ++ m)) : Digits m := fun x hx => h x (by simp [hx])
theorem Digits.nil : Digits [] := fun x hx => by simp at hx
theorem Digits.take {l : List Int} (h : Digits l) (n : Nat) : Digits (l.take n) := fun x hx => h x (List.mem_of_mem_take hx)
theorem Digits.drop {l : List Int} (h : Digits l) (n : Nat) : Digits (l.drop n) := fun x hx => h x (List.mem_of_mem_drop hx)

theorem val_bounds {l : List Int} (h : Digits l) : 0 ≤ val l ∧ val l < 10 ^ l.length := by
  induction l with
  | nil => simp [val]
  | cons d l ih =>
    obtain ⟨⟨h0, h1⟩, hl⟩ := h.cons
    obtain ⟨i0, i1⟩ := ih hl
    have hp := p10_pos l.length
    simp only [val, List.length_cons, p10_succ]
    have e0 : 0 ≤ d * 10 ^ l.length := Int.mul_nonneg h0 (by omega)
    have e1 : d * 10 ^ l.length ≤ 9 * 10 ^ l.length := Int.mul_le_mul_of_nonneg_right h1 (by omega)
    omega

theorem val_low {d : Int} {l : List Int} (h : Digits (d :: l)) (hd : d ≠ 0) : 10 ^ l.length ≤ val (d :: l) := by
  obtain ⟨⟨h0, h1⟩, hl⟩ := h.cons
  have := (val_bounds hl).1
  have e1 : 1 * 10 ^ l.length ≤ d * 10 ^ l.length := Int.mul_le_mul_of_nonneg_right (by omega) (by have := p10_pos l.length; omega)
  simp only [val]
  omega

/-- The digits of a natural number. -/
def digs (n : Nat) : List Int := if _h : n = 0 then [] else digs (n / 10) ++ [((n % 10 : Nat) : Int)]
termination_by n
decreasing_by omega

theorem digs_zero : digs 0 = [] := by rw [digs]; simp

theorem digs_pos {n : Nat} (h : n ≠ 0) : digs n = digs (n / 10) ++ [((n % 10 : Nat) : Int)] := by
  rw [digs]; simp [h]

theorem val_digs (n : Nat) : val (digs n) = n := by
  induction n using Nat.strongRecOn with
  | _ n ih =>
    by_cases h : n = 0
    · subst h; rw [digs_zero]; rfl
    · rw [digs_pos h, val_snoc, ih (n / 10) (by omega)]; omega

theorem digs_digits (n : Nat) : Digits (digs n) := by
  induction n using Nat.strongRecOn with
  | _ n ih =>
    by_cases h : n = 0
    · subst h; rw [digs_zero]; exact Digits.nil
    · rw [digs_pos h]
      exact (ih (n / 10) (by omega)).append (Digits.mk_cons (by omega) (by omega) Digits.nil)

theorem digs_head (n : Nat) : (digs n).head? ≠ some 0 := by
  induction n using Nat.strongRecOn with
  | _ n ih =>
    by_cases h : n = 0
    · subst h; rw [digs_zero]; simp
    · rw [digs_pos h]
      by_cases h2 : n / 10 = 0
      · rw [h2, digs_zero]; simp; omega
      · have := ih (n / 10) (by omega)
        have hne : digs (n / 10) ≠ [] := by rw [digs_pos h2]; simp
        rw [List.head?_append]
        cases hd : digs (n / 10) with
        | nil => exact absurd hd hne
        | cons a b => rw [hd] at this; simpa using this

theorem digs_val (l : List Int) (h : Digits l) (hh : l.head? ≠ some 0) : digs (val l).toNat = l := by
  generalize hn : l.length = n
  induction n generalizing l with
  | zero =>
    have : l = [] := List.length_eq_zero_iff.1 hn
    subst this
    simp [val, digs_zero]
  | succ n ih =>
    have hne : l ≠ [] := by intro e; subst e; simp at hn
    obtain ⟨m, d, rfl⟩ : ∃ m d, l = m ++ [d] := ⟨l.dropLast, l.getLast hne, (List.dropLast_concat_getLast hne).symm⟩
    have hm : m.length = n := by simpa using hn
    have hd := h.right d (by simp)
    have hb := val_bounds h.left
    rw [val_snoc]
    by_cases h0 : m = []
    · subst h0
      have hd0 : d ≠ 0 := by simpa using hh
      simp only [val, List.nil_append]
      rw [digs_pos (by omega)]
      have e1 : (10 * 0 + d).toNat / 10 = 0 := by omega
      rw [e1, digs_zero]
      simp; omega
    · have hmh : m.head? ≠ some 0 := by
        cases m with
        | nil => exact absurd rfl h0
        | cons a b => simpa using hh
      have i := ih m h.left hmh hm
      have hpos : 1 ≤ val m := by
        cases m with
        | nil => exact absurd rfl h0
        | cons a b =>
          have := val_low h.left (by simpa using hmh)
          have := p10_pos b.length
          omega
      rw [digs_pos (by omega)]
      have e1 : (10 * val m + d).toNat / 10 = (val m).toNat := by omega
      have e2 : (((10 * val m + d).toNat % 10 : Nat) : Int) = d := by omega
      rw [e1, e2, i]

/-- A number without its noughts behind, and how many they are. -/
def strip (n : Nat) : Nat × Nat := if h : n ≠ 0 ∧ n % 10 = 0 then ((strip (n / 10)).1, (strip (n / 10)).2 + 1) else (n, 0)
termination_by n
decreasing_by all_goals omega

theorem strip_ten {n : Nat} (h : n ≠ 0) : strip (10 * n) = ((strip n).1, (strip n).2 + 1) := by
  rw [strip]
  have : 10 * n ≠ 0 ∧ 10 * n % 10 = 0 := by omega
  rw [dif_pos this]
  have e : 10 * n / 10 = n := by omega
  rw [e]

theorem strip_one {n : Nat} (h : n % 10 ≠ 0) : strip n = (n, 0) := by
  rw [strip, dif_neg (by omega)]

theorem strip_spec (n : Nat) (h : n ≠ 0) : (strip n).1 % 10 ≠ 0 ∧ (strip n).1 * 10 ^ (strip n).2 = n := by
  induction n using Nat.strongRecOn with
  | _ n ih =>
    by_cases h1 : n % 10 = 0
    · have e : n = 10 * (n / 10) := by omega
      have hk : n / 10 ≠ 0 := by omega
      obtain ⟨i1, i2⟩ := ih (n / 10) (by omega) hk
      rw [e, strip_ten hk]
      refine ⟨i1, ?_⟩
      show _ * 10 ^ (_ + 1) = _
      rw [Nat.pow_succ]
      generalize (strip (n / 10)).1 = a at *
      generalize 10 ^ (strip (n / 10)).2 = b at *
      rw [← Nat.mul_assoc, i2]; omega
    · rw [strip_one h1]; simp [h1]

/-- The decimal that is m times ten to the power of e. -/
def dec (m e : Int) : Bool × List Int × Int :=
  if m = 0 then (false, [], 0) else (decide (m < 0), digs (strip m.natAbs).1, e + ((strip m.natAbs).2 : Int))

theorem dec_zero (e : Int) : dec 0 e = (false, [], 0) := by simp [dec]

theorem dec_ten (m e : Int) : dec (10 * m) e = dec m (e + 1) := by
  by_cases h : m = 0
  · subst h; simp [dec]
  · have h1 : (10 * m).natAbs = 10 * m.natAbs := by omega
    unfold dec
    rw [if_neg (by omega), if_neg h, h1, strip_ten (by omega)]
    have h2 : decide (10 * m < 0) = decide (m < 0) := by rw [decide_eq_decide]; omega
    rw [h2]
    congr 2
    simp
    omega

theorem dec_pow (m e : Int) (k : Nat) : dec (m * 10 ^ k) e = dec m (e + k) := by
  induction k generalizing e with
  | zero => simp
  | succ k ih =>
    rw [p10_succ, show m * (10 * 10 ^ k) = 10 * (m * 10 ^ k) from by grind, dec_ten, ih]
    congr 1
    omega

theorem last_mod (l : List Int) (h : Digits l) (hl : l.getLast? ≠ some 0) (hne : l ≠ []) : (val l).toNat % 10 ≠ 0 := by
  obtain ⟨m, d, rfl⟩ : ∃ m d, l = m ++ [d] := ⟨l.dropLast, l.getLast hne, (List.dropLast_concat_getLast hne).symm⟩
  have hd : d ≠ 0 := by simpa using hl
  have hr := h.right d (by simp)
  have hb := val_bounds h.left
  rw [val_snoc]
  omega

/-- Digits that neither begin nor end with 0, as they stand. -/
theorem dec_val (l : List Int) (e : Int) (neg : Bool) (h : Digits l) (hne : l ≠ []) (hh : l.head? ≠ some 0) (hl : l.getLast? ≠ some 0) :
    dec (if neg then -val l else val l) e = (neg, l, e) := by
  have h1 := last_mod l h hl hne
  have hb := val_bounds h
  have hpos : 0 < val l := by omega
  have h2 := digs_val l h hh
  unfold dec
  have e1 : (if neg then -val l else val l).natAbs = (val l).toNat := by cases neg <;> simp <;> omega
  rw [e1, strip_one h1, if_neg (by cases neg <;> simp <;> omega)]
  simp only [h2]
  have e2 : decide ((if neg = true then -val l else val l) < 0) = neg := by cases neg <;> simp <;> omega
  rw [e2]
  simp

/-- A decimal's parts. -/
theorem dec_parts (m e : Int) (hm : m ≠ 0) : ∃ (l : List Int) (k : Nat), dec m e = (decide (m < 0), l, e + k) ∧ Digits l ∧ l ≠ [] ∧ l.head? ≠ some 0 ∧ l.getLast? ≠ some 0 ∧ val l * 10 ^ k = m.natAbs := by
  obtain ⟨s1, s2⟩ := strip_spec m.natAbs (by omega)
  have hne : (strip m.natAbs).1 ≠ 0 := by omega
  refine ⟨digs (strip m.natAbs).1, (strip m.natAbs).2, by simp [dec, hm], digs_digits _, by rw [digs_pos hne]; simp, digs_head _, ?_, ?_⟩
  · rw [digs_pos hne]; simp; omega
  · rw [val_digs]
    have : (((strip m.natAbs).1 * 10 ^ (strip m.natAbs).2 : Nat) : Int) = (m.natAbs : Int) := by rw [s2]
    rw [← this]; simp

end Go.Proofs.Ytmkpkpkcoieeiaa.Dec

namespace Go.Proofs.Ytmkpkpkcoieeiaa.Dec

/-- The number that digits are, the least place first. -/
def rv : List Int → Int
  | [] => 0
  | d :: l => d + 10 * rv l

theorem rv_append (l m : List Int) : rv (l ++ m) = rv l + 10 ^ l.length * rv m := by
  induction l with
  | nil => simp [rv]
  | cons d l ih => simp only [List.cons_append, rv, ih, List.length_cons, p10_succ]; grind

theorem val_rev (l : List Int) : val l = rv l.reverse := by
  induction l with
  | nil => rfl
  | cons d l ih => simp only [val, List.reverse_cons, rv_append, ih, rv, List.length_reverse]; grind

theorem rv_drop (l : List Int) (i : Nat) : rv (l.drop i) = l.getD i 0 + 10 * rv (l.drop (i + 1)) := by
  by_cases h : i < l.length
  · rw [List.drop_eq_getElem_cons h]
    simp [rv, List.getD_eq_getElem?_getD, h]
  · rw [List.drop_eq_nil_of_le (by omega), List.drop_eq_nil_of_le (by omega)]
    simp [rv, List.getD_eq_getElem?_getD, List.getElem?_eq_none (by omega : l.length ≤ i)]

theorem rv_past (l : List Int) (i : Nat) (h : l.length ≤ i) : rv (l.drop i) = 0 := by
  rw [List.drop_eq_nil_of_le h]; rfl

theorem Digits.reverse {l : List Int} (h : Digits l) : Digits l.reverse := fun x hx => h x (by simpa using hx)

theorem Digits.getD {l : List Int} (h : Digits l) (i : Nat) : 0 ≤ l.getD i 0 ∧ l.getD i 0 ≤ 9 := by
  rw [List.getD_eq_getElem?_getD]
  by_cases hi : i < l.length
  · simp only [List.getElem?_eq_getElem hi, Option.getD_some]
    exact h _ (List.getElem_mem hi)
  · simp [List.getElem?_eq_none (by omega : l.length ≤ i)]

theorem getD_rev (l : List Int) (i : Nat) (h : i < l.length) : l.reverse.getD i 0 = l.getD (l.length - 1 - i) 0 := by
  rw [List.getD_eq_getElem?_getD, List.getD_eq_getElem?_getD, List.getElem?_reverse h]

/-- A number with a sign. -/
def sg (neg : Bool) (v : Int) : Int := if neg = true then -v else v

theorem val_set (l : List Int) (j : Nat) (v : Int) (h : j < l.length) : val (l.set j v) = val l + (v - l.getD j 0) * 10 ^ (l.length - 1 - j) := by
  induction l generalizing j with
  | nil => simp at h
  | cons d l ih =>
    cases j with
    | zero => simp [val]; grind
    | succ j =>
      have h' : j < l.length := by simpa using h
      simp only [List.set_cons_succ, val, List.length_set, ih j h', List.length_cons, List.getD_cons_succ]
      have : l.length + 1 - 1 - (j + 1) = l.length - 1 - j := by omega
      rw [this]; grind

theorem val_replicate_zero (n : Nat) : val (List.replicate n 0) = 0 := by
  induction n with
  | zero => rfl
  | succ n ih => simp [List.replicate_succ, val, ih]

theorem digits_replicate (n : Nat) : Digits (List.replicate n 0) := by
  intro x hx
  have := List.eq_of_mem_replicate hx
  omega

/-- How two rows of digits behind a point stand: -1, 0, 1. -/
def cmpPad : List Int → List Int → Int
  | [], [] => 0
  | x :: l, [] => if x = 0 then cmpPad l [] else if x < 0 then -1 else 1
  | [], y :: m => if 0 = y then cmpPad [] m else if 0 < y then -1 else 1
  | x :: l, y :: m => if x = y then cmpPad l m else if x < y then -1 else 1

/-- -1, 0, 1: how two numbers stand. -/
def cmp (a b : Int) : Int := if a < b then -1 else if a = b then 0 else 1

theorem cmp_scale {a b c : Int} (hc : 0 < c) : cmp (a * c) (b * c) = cmp a b := by
  unfold cmp
  have h1 : a * c < b * c ↔ a < b := Int.mul_lt_mul_right hc
  have h2 : a * c = b * c ↔ a = b := Int.mul_eq_mul_right_iff (by omega)
  simp only [h1, h2]

theorem cmp_step (x y P u v : Int) (hu0 : 0 ≤ u) (hu : u < P) (hv0 : 0 ≤ v) (hv : v < P) :
    cmp (x * P + u) (y * P + v) = if x = y then cmp u v else if x < y then -1 else 1 := by
  by_cases h : x = y
  · subst h
    rw [if_pos rfl]
    unfold cmp
    have h1 : x * P + u < x * P + v ↔ u < v := by omega
    have h2 : x * P + u = x * P + v ↔ u = v := by omega
    simp only [h1, h2]
  · rw [if_neg h]
    by_cases h2 : x < y
    · rw [if_pos h2]
      have h3 : (x + 1) * P ≤ y * P := Int.mul_le_mul_of_nonneg_right (by omega) (by omega)
      have h4 : (x + 1) * P = x * P + P := by grind
      unfold cmp
      rw [if_pos (by omega)]
    · rw [if_neg h2]
      have h3 : (y + 1) * P ≤ x * P := Int.mul_le_mul_of_nonneg_right (by omega) (by omega)
      have h4 : (y + 1) * P = y * P + P := by grind
      unfold cmp
      rw [if_neg (by omega), if_neg (by omega)]

theorem cmpPad_spec (l m : List Int) (hl : Digits l) (hm : Digits m) : cmpPad l m = cmp (val l * 10 ^ m.length) (val m * 10 ^ l.length) := by
  induction l generalizing m with
  | nil =>
    induction m with
    | nil => simp [cmpPad, val, cmp]
    | cons y m ih =>
      obtain ⟨hy, hm'⟩ := hm.cons
      have hb := val_bounds hm'
      have i := ih hm'
      simp only [val, List.length_nil, Int.zero_mul, Int.pow_zero, Int.mul_one] at i ⊢
      have := cmp_step 0 y (10 ^ m.length) 0 (val m) (by omega) (by have := p10_pos m.length; omega) hb.1 hb.2
      simp only [Int.zero_mul, Int.zero_add] at this
      rw [this]
      simp only [cmpPad, i]
  | cons x l ih =>
    obtain ⟨hx, hl'⟩ := hl.cons
    have hbl := val_bounds hl'
    cases m with
    | nil =>
      have i := ih [] hl' hm
      simp only [val, List.length_nil, Int.zero_mul, Int.pow_zero, Int.mul_one] at i ⊢
      have := cmp_step x 0 (10 ^ l.length) (val l) 0 hbl.1 hbl.2 (by omega) (by have := p10_pos l.length; omega)
      simp only [Int.zero_mul, Int.zero_add] at this
      rw [this]
      simp only [cmpPad, i]
    | cons y m =>
      obtain ⟨hy, hm'⟩ := hm.cons
      have hbm := val_bounds hm'
      have i := ih m hl' hm'
      have pa := p10_pos l.length
      have pb := p10_pos m.length
      have e1 : val (x :: l) * 10 ^ (y :: m).length = (x * (10 ^ l.length * 10 ^ m.length) + val l * 10 ^ m.length) * 10 := by
        simp only [val, List.length_cons, p10_succ]; grind
      have e2 : val (y :: m) * 10 ^ (x :: l).length = (y * (10 ^ l.length * 10 ^ m.length) + val m * 10 ^ l.length) * 10 := by
        simp only [val, List.length_cons, p10_succ]; grind
      rw [e1, e2, cmp_scale (by omega), cmp_step _ _ _ _ _ (Int.mul_nonneg hbl.1 (by omega)) (Int.mul_lt_mul_of_pos_right hbl.2 pb) (Int.mul_nonneg hbm.1 (by omega)) (by rw [Int.mul_comm (10 ^ l.length)]; exact Int.mul_lt_mul_of_pos_right hbm.2 pa), ← i]
      simp only [cmpPad]

theorem cmpPad_drop (a b : List Int) (i : Nat) (h : i < a.length ∨ i < b.length) :
    cmpPad (a.drop i) (b.drop i) = if a.getD i 0 = b.getD i 0 then cmpPad (a.drop (i + 1)) (b.drop (i + 1)) else if a.getD i 0 < b.getD i 0 then -1 else 1 := by
  by_cases ha : i < a.length
  · rw [List.drop_eq_getElem_cons ha]
    have ea : a.getD i 0 = a[i] := by rw [List.getD_eq_getElem?_getD, List.getElem?_eq_getElem ha]; rfl
    by_cases hb : i < b.length
    · rw [List.drop_eq_getElem_cons hb]
      have eb : b.getD i 0 = b[i] := by rw [List.getD_eq_getElem?_getD, List.getElem?_eq_getElem hb]; rfl
      rw [ea, eb]; simp only [cmpPad]
    · have eb : b.getD i 0 = 0 := by rw [List.getD_eq_getElem?_getD, List.getElem?_eq_none (by omega)]; rfl
      rw [List.drop_eq_nil_of_le (by omega : b.length ≤ i), List.drop_eq_nil_of_le (by omega : b.length ≤ i + 1), ea, eb]; simp only [cmpPad]
  · have hb : i < b.length := by omega
    have ea : a.getD i 0 = 0 := by rw [List.getD_eq_getElem?_getD, List.getElem?_eq_none (by omega)]; rfl
    have eb : b.getD i 0 = b[i] := by rw [List.getD_eq_getElem?_getD, List.getElem?_eq_getElem hb]; rfl
    rw [List.drop_eq_getElem_cons hb, List.drop_eq_nil_of_le (by omega : a.length ≤ i), List.drop_eq_nil_of_le (by omega : a.length ≤ i + 1), ea, eb]; simp only [cmpPad]

theorem p10_lt {m n : Nat} (h : (10 : Int) ^ m < 10 ^ n) : m < n := by
  apply Classical.byContradiction
  intro hc
  have := p10_mono (show n ≤ m by omega)
  omega

/-- How many digits a decimal has, and where they stand. -/
theorem dec_size (m e : Int) (N : Nat) (h : (m.natAbs : Int) < 10 ^ N) :
    (dec m e).2.1.length ≤ N ∧ (m ≠ 0 → e ≤ (dec m e).2.2 ∧ (dec m e).2.2 + (dec m e).2.1.length ≤ e + N) ∧ (m = 0 → (dec m e).2.2 = 0) := by
  by_cases hm : m = 0
  · subst hm; simp [dec_zero]
  · obtain ⟨l, k, hp, hd, hne, hh, hg, hv⟩ := dec_parts m e hm
    obtain ⟨a, r, rfl⟩ : ∃ x r, l = x :: r := by cases l with | nil => exact absurd rfl hne | cons x r => exact ⟨x, r, rfl⟩
    have hlow := val_low hd (by simpa using hh)
    have z1 : 10 ^ r.length * 10 ^ k ≤ val (a :: r) * 10 ^ k := Int.mul_le_mul_of_nonneg_right hlow (by have := p10_pos k; omega)
    rw [← p10_add, hv] at z1
    have z2 := p10_lt (Int.lt_of_le_of_lt z1 h)
    rw [hp]
    simp only [List.length_cons]
    exact ⟨by omega, fun _ => by omega, fun h => absurd h hm⟩

theorem dec_size_le (m e : Int) (N : Nat) (h : (m.natAbs : Int) < 10 ^ N) (he : 0 ≤ e) : (dec m e).2.1.length ≤ N ∧ 0 ≤ (dec m e).2.2 ∧ (dec m e).2.2 ≤ e + N := by
  obtain ⟨h1, h2, h3⟩ := dec_size m e N h
  by_cases hm : m = 0
  · have := h3 hm; omega
  · have := h2 hm; omega

end Go.Proofs.Ytmkpkpkcoieeiaa.Dec
