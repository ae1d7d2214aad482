/- Whole numbers of decimal digits: what a text of bytes tells, and what strconv's ParseInt and Atoi tell of it. -/
import Derived.Lib.ParseIntB
namespace Go.Proofs.YtjlmhfciidfjiaaDoor.Num
open Go.Lib

/-- A decimal digit. -/
def dig (c : UInt8) : Prop := 48 ≤ c.toNat ∧ c.toNat ≤ 57
instance (c : UInt8) : Decidable (dig c) := by unfold dig; infer_instance
/-- Digits alone. -/
def digs (l : List UInt8) : Prop := ∀ c ∈ l, dig c
instance (l : List UInt8) : Decidable (digs l) := by unfold digs; infer_instance
/-- The number of digits behind a number. -/
def val (acc : Nat) : List UInt8 → Nat
  | [] => acc
  | c :: r => val (acc * 10 + (c.toNat - 48)) r

theorem val_ge : ∀ (l : List UInt8) (acc : Nat), acc ≤ val acc l
  | [], _ => Nat.le_refl _
  | c :: r, acc => Nat.le_trans (by omega) (val_ge r (acc * 10 + (c.toNat - 48)))

theorem digs_cons {c : UInt8} {r : List UInt8} : digs (c :: r) ↔ dig c ∧ digs r := by
  unfold digs; simp

theorem pum_ok {M : Nat} (hM : M ≤ 18446744073709551615) : ∀ (l : List UInt8) (acc : Nat), digs l → val acc l ≤ M → parseUintM M acc l = .ok (val acc l)
  | [], _, _, _ => rfl
  | c :: r, acc, hd, hv => by
    obtain ⟨hc, hr⟩ := digs_cons.1 hd
    have hv' : val (acc * 10 + (c.toNat - 48)) r ≤ M := hv
    have h1 := val_ge r (acc * 10 + (c.toNat - 48))
    unfold dig at hc
    simp only [parseUintM]
    rw [if_pos hc, if_neg (by omega), if_neg (by omega)]
    exact pum_ok hM r _ hr hv'

theorem pum_eq {M : Nat} : ∀ (l : List UInt8) (acc u : Nat), acc ≤ M → parseUintM M acc l = .ok u → digs l ∧ val acc l = u ∧ u ≤ M
  | [], acc, u, ha, h => by
    simp only [parseUintM] at h
    injection h with h
    exact ⟨fun c hc => by simp at hc, h, by omega⟩
  | c :: r, acc, u, ha, h => by
    simp only [parseUintM] at h
    split at h
    · rename_i hc
      split at h
      · cases h
      · split at h
        · cases h
        · rename_i h2
          obtain ⟨h3, h4, h5⟩ := pum_eq r _ u (by omega) h
          exact ⟨digs_cons.2 ⟨hc, h3⟩, h4, h5⟩
    · cases h

/-- What stands behind a sign. -/
def body : List UInt8 → List UInt8
  | [] => []
  | c :: r => if c.toNat = 43 ∨ c.toNat = 45 then r else c :: r
/-- A minus ahead. -/
def neg : List UInt8 → Bool
  | [] => false
  | c :: _ => decide (c.toNat = 45)
/-- The number of a text, if it is digits behind one sign at most. -/
def num (l : List UInt8) : Int := if neg l then -((val 0 (body l) : Nat) : Int) else ((val 0 (body l) : Nat) : Int)
/-- The whole number that a text tells, from least to most. -/
def whole (least most : Int) (l : List UInt8) : Option Int :=
  if body l ≠ [] ∧ digs (body l) ∧ least ≤ num l ∧ num l ≤ most then some (num l) else none

theorem pib (B : Nat) (hB : B = 32 ∨ B = 64) (l : List UInt8) (v : Int) : parseIntB B l = .ok v ↔ whole (-(2 ^ (B - 1) : Nat)) ((2 ^ (B - 1) : Nat) - 1) l = some v := by
  have hM : 2 ^ B - 1 ≤ 18446744073709551615 := by rcases hB with rfl | rfl <;> decide
  have hP : 0 < 2 ^ (B - 1) := Nat.pos_of_ne_zero (by rcases hB with rfl | rfl <;> decide)
  have hMP : 2 ^ (B - 1) + 2 ^ (B - 1) = 2 ^ B := by rcases hB with rfl | rfl <;> decide
  cases l with
  | nil => simp [parseIntB, whole, body]
  | cons c r =>
    have hb : body (c :: r) = if c.toNat = 43 ∨ c.toNat = 45 then r else c :: r := rfl
    have hn : neg (c :: r) = decide (c.toNat = 45) := rfl
    unfold whole num
    rw [hn]
    simp only [parseIntB, ← hb]
    generalize body (c :: r) = b
    have key : ∀ u, parseUintB B b = .ok u ↔ (b ≠ [] ∧ digs b ∧ val 0 b = u ∧ u ≤ 2 ^ B - 1) := by
      intro u
      unfold parseUintB
      by_cases hne : b = []
      · rw [if_pos hne]; simp [hne]
      · rw [if_neg hne]
        constructor
        · intro h; exact ⟨hne, pum_eq b 0 u (by omega) h⟩
        · rintro ⟨_, h1, rfl, h3⟩; exact pum_ok hM b 0 h1 h3
    generalize hP2 : 2 ^ (B - 1) = P at hP hMP ⊢
    by_cases h45 : c.toNat = 45
    · simp only [h45, decide_true, if_true, not_true, false_and, if_false, true_and]
      cases hu : parseUintB B b with
      | ok u =>
        obtain ⟨h0, h1, h2, h3⟩ := (key u).1 hu
        by_cases hPu : P < u
        · simp only [if_pos hPu]
          rw [if_neg (by omega)]
          simp
        · simp only [if_neg hPu]
          rw [if_pos ⟨h0, h1, by omega, by omega⟩, h2]
          simp
      | range =>
        have : ¬ (b ≠ [] ∧ digs b ∧ -(P : Int) ≤ -((val 0 b : Nat) : Int) ∧ -((val 0 b : Nat) : Int) ≤ (P : Int) - 1) := fun ⟨h0, h1, h2, h3⟩ => by
          rw [(key (val 0 b)).2 ⟨h0, h1, rfl, by omega⟩] at hu; cases hu
        rw [if_neg this]; simp
      | _ =>
        have : ¬ (b ≠ [] ∧ digs b ∧ -(P : Int) ≤ -((val 0 b : Nat) : Int) ∧ -((val 0 b : Nat) : Int) ≤ (P : Int) - 1) := fun ⟨h0, h1, h2, h3⟩ => by
          rw [(key (val 0 b)).2 ⟨h0, h1, rfl, by omega⟩] at hu; cases hu
        rw [if_neg this]; simp
    · simp only [h45, decide_false, if_false, Bool.false_eq_true, not_false_eq_true, true_and, false_and]
      cases hu : parseUintB B b with
      | ok u =>
        obtain ⟨h0, h1, h2, h3⟩ := (key u).1 hu
        by_cases hPu : P ≤ u
        · simp only [if_pos hPu]
          rw [if_neg (by omega)]
          simp
        · simp only [if_neg hPu]
          rw [if_pos ⟨h0, h1, by omega, by omega⟩, h2]
          simp
      | range =>
        have : ¬ (b ≠ [] ∧ digs b ∧ -(P : Int) ≤ ((val 0 b : Nat) : Int) ∧ ((val 0 b : Nat) : Int) ≤ (P : Int) - 1) := fun ⟨h0, h1, h2, h3⟩ => by
          rw [(key (val 0 b)).2 ⟨h0, h1, rfl, by omega⟩] at hu; cases hu
        rw [if_neg this]; simp
      | _ =>
        have : ¬ (b ≠ [] ∧ digs b ∧ -(P : Int) ≤ ((val 0 b : Nat) : Int) ∧ ((val 0 b : Nat) : Int) ≤ (P : Int) - 1) := fun ⟨h0, h1, h2, h3⟩ => by
          rw [(key (val 0 b)).2 ⟨h0, h1, rfl, by omega⟩] at hu; cases hu
        rw [if_neg this]; simp

theorem p10_eq : ∀ (l : List UInt8) (acc : Nat), parseUint10 acc l = parseUintM 18446744073709551615 acc l
  | [], _ => rfl
  | c :: r, acc => by
    simp only [parseUint10, parseUintM]
    rw [p10_eq r]
    by_cases h : acc * 10 + (c.toNat - 48) < 18446744073709551616
    · rw [if_neg (by omega : ¬ 18446744073709551616 ≤ acc * 10 + (c.toNat - 48)), if_neg (by omega : ¬ 18446744073709551615 < acc * 10 + (c.toNat - 48))]
    · rw [if_pos (by omega : 18446744073709551616 ≤ acc * 10 + (c.toNat - 48)), if_pos (by omega : 18446744073709551615 < acc * 10 + (c.toNat - 48))]

theorem atoi_eq (l : List UInt8) : atoiAll l = parseIntB 64 l := by
  cases l with
  | nil => rfl
  | cons c r =>
    have e : ∀ b : List UInt8, parseMag b = parseUintB 64 b := fun b => by
      unfold parseMag parseUintB
      rw [p10_eq]
    simp only [atoiAll, parseIntB, e]
    rfl

theorem atoi_ok (l : List UInt8) (v : Int) : atoiAll l = .ok v ↔ whole (-9223372036854775808) 9223372036854775807 l = some v := by
  rw [atoi_eq]; exact pib 64 (.inr rfl) l v

theorem pi32_ok (l : List UInt8) (v : Int) : parseIntB 32 l = .ok v ↔ whole (-2147483648) 2147483647 l = some v := pib 32 (.inl rfl) l v

/-- The digits ahead. -/
def lead (l : List UInt8) : List UInt8 := l.takeWhile fun c => decide (dig c)

theorem lead_cons (c : UInt8) (r : List UInt8) : lead (c :: r) = if dig c then c :: lead r else [] := by
  unfold lead
  rw [List.takeWhile_cons]
  by_cases h : dig c <;> simp [h]

theorem lead_digs : ∀ l : List UInt8, digs (lead l)
  | [] => fun c hc => by simp [lead] at hc
  | c :: r => by
    rw [lead_cons]
    by_cases h : dig c
    · rw [if_pos h]; exact digs_cons.2 ⟨h, lead_digs r⟩
    · rw [if_neg h]; exact fun c hc => by simp at hc

theorem lead_all {l : List UInt8} (h : digs l) : lead l = l := by
  induction l with
  | nil => rfl
  | cons c r ih =>
    obtain ⟨hc, hr⟩ := digs_cons.1 h
    rw [lead_cons, if_pos hc, ih hr]

theorem pum_range {M : Nat} (hM : M ≤ 18446744073709551615) : ∀ (l : List UInt8) (acc : Nat), parseUintM M acc l = .range → M < val acc (lead l)
  | [], _, h => by simp [parseUintM] at h
  | c :: r, acc, h => by
    simp only [parseUintM] at h
    rw [lead_cons]
    split at h
    · rename_i hc
      rw [if_pos (show dig c from hc)]
      have h1 := val_ge (lead r) (acc * 10 + (c.toNat - 48))
      show M < val (acc * 10 + (c.toNat - 48)) (lead r)
      split at h
      · omega
      · split at h
        · omega
        · exact pum_range hM r _ h
    · cases h

theorem val_lt : ∀ (l : List UInt8) (acc : Nat), digs l → val acc l < (acc + 1) * 10 ^ l.length
  | [], acc, _ => by rw [show (10 : Nat) ^ ([] : List UInt8).length = 1 from rfl]; show acc < _; omega
  | c :: r, acc, h => by
    obtain ⟨hc, hr⟩ := digs_cons.1 h
    have := val_lt r (acc * 10 + (c.toNat - 48)) hr
    unfold dig at hc
    show val (acc * 10 + (c.toNat - 48)) r < _
    have h2 : acc * 10 + (c.toNat - 48) + 1 ≤ (acc + 1) * 10 := by omega
    have h3 := Nat.mul_le_mul_right (10 ^ r.length) h2
    have h4 : (acc + 1) * 10 * 10 ^ r.length = (acc + 1) * 10 ^ (c :: r).length := by
      rw [List.length_cons, Nat.pow_succ, Nat.mul_assoc, Nat.mul_comm 10]
    generalize 10 ^ (c :: r).length = P at h4 ⊢
    generalize 10 ^ r.length = Q at *
    omega

/-- Where Atoi tells that a number is too wide: the digits ahead are at least 2^63. -/
theorem atoi_range {l : List UInt8} (h : atoiAll l = .range) : 9223372036854775808 ≤ val 0 (lead (body l)) ∧ (neg l = true → 9223372036854775808 < val 0 (lead (body l))) := by
  rw [atoi_eq] at h
  cases l with
  | nil => simp [parseIntB] at h
  | cons c r =>
    have hb : body (c :: r) = if c.toNat = 43 ∨ c.toNat = 45 then r else c :: r := rfl
    have hn : neg (c :: r) = decide (c.toNat = 45) := rfl
    rw [hn]
    simp only [parseIntB, ← hb] at h
    generalize body (c :: r) = b at h
    split at h
    · cases h
    · rename_i hu
      unfold parseUintB at hu
      split at hu
      · cases hu
      · have := pum_range (by decide) b 0 hu
        exact ⟨by omega, fun _ => by omega⟩
    · rename_i u hu
      unfold parseUintB at hu
      split at hu
      · cases hu
      · obtain ⟨h1, h2, h3⟩ := pum_eq b 0 u (by omega) hu
        rw [lead_all h1]
        split at h
        · rename_i hc
          exact ⟨by omega, fun hx => absurd (by simpa using hx) hc.1⟩
        · split at h
          · exact ⟨by omega, fun _ => by omega⟩
          · cases h

end Go.Proofs.YtjlmhfciidfjiaaDoor.Num
