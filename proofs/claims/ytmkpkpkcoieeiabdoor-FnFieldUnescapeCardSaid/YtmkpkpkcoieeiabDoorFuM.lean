/- Texts that are UTF-8: what their signs are, byte by byte; a text unescaped, byte by byte. -/
import Derived.Lib.RuneLoops
import Derived.Lib.TrimU
import Derived.Stop.FmtQuoteTie
import Derived.Laws.RangeAny
import Derived.Laws.Cover4
import Derived.Laws.IdiomStrings
namespace Go.Proofs.YtmkpkpkcoieeiabDoor.FuM
open Go

abbrev L (s : ByteArray) : List UInt8 := s.data.toList
def rn (s : ByteArray) (i : Nat) : Nat := (Utf8.decode s i).1
def wd (s : ByteArray) (i : Nat) : Nat := (Utf8.decode s i).2
/-- The bytes of a sign. -/
def en (r : Nat) : List UInt8 := Lib.encodeRune (r : Int)
theorem L_length (s : ByteArray) : (L s).length = s.size := by rw [Array.length_toList]; rfl
theorem get_L (s : ByteArray) (i : Nat) (h : i < s.size) : (L s)[i]? = some (s[i]'h) := by
  rw [List.getElem?_eq_getElem (by rw [L_length]; exact h)]; rfl
theorem wd_pos (s : ByteArray) (i : Nat) : 1 ≤ wd s i := Lib.width_pos s i

theorem decN_kinds (n b0 b1 b2 b3 : Nat) : (Lib.decodeN n b0 b1 b2 b3).2 = 1 ∨ ((Lib.decodeN n b0 b1 b2 b3).2 = 2 ∧ 128 ≤ (Lib.decodeN n b0 b1 b2 b3).1) ∨ ((Lib.decodeN n b0 b1 b2 b3).2 = 3 ∧ 2048 ≤ (Lib.decodeN n b0 b1 b2 b3).1) ∨ ((Lib.decodeN n b0 b1 b2 b3).2 = 4 ∧ 65536 ≤ (Lib.decodeN n b0 b1 b2 b3).1) := by
  unfold Lib.decodeN
  split
  · exact Or.inl rfl
  split
  · split
    · rename_i h; exact Or.inr (Or.inl ⟨rfl, h⟩)
    · exact Or.inl rfl
  split
  · split
    · rename_i h; exact Or.inr (Or.inr (Or.inl ⟨rfl, h.1⟩))
    · exact Or.inl rfl
  split
  · split
    · rename_i h; exact Or.inr (Or.inr (Or.inr ⟨rfl, h.1⟩))
    · exact Or.inl rfl
  · exact Or.inl rfl
theorem kinds (s : ByteArray) (i : Nat) : wd s i = 1 ∨ (wd s i = 2 ∧ 128 ≤ rn s i) ∨ (wd s i = 3 ∧ 2048 ≤ rn s i) ∨ (wd s i = 4 ∧ 65536 ≤ rn s i) := by
  unfold wd rn
  rw [Lib.decode_at]
  exact decN_kinds _ _ _ _ _
theorem rn_le (s : ByteArray) (i : Nat) : rn s i ≤ 1114111 := Lib.rune_le s i
theorem en_length (r : Nat) : (en r).length = (Lib.encodeRuneZ (r : Int)).length := by simp [en, Lib.encodeRune]
theorem en_size (s : ByteArray) (i : Nat) : wd s i ≤ (en (rn s i)).length := by
  have h1 := kinds s i
  have h2 := rn_le s i
  rw [en_length]
  generalize wd s i = W at *
  generalize rn s i = R at *
  have h3 := (Lib.encodeRuneZ_length (R : Int)).1
  rcases h1 with rfl | ⟨rfl, h⟩ | ⟨rfl, h⟩ | ⟨rfl, h⟩
  · exact h3
  · by_cases h4 : R < 2048
    · rw [Lib.encodeRuneZ_two (by omega) (by omega)]; exact Nat.le_refl _
    · by_cases h5 : R < 55296 ∨ (57343 < R ∧ R ≤ 65535)
      · rw [Lib.encodeRuneZ_three (by omega)]; simp
      · by_cases h6 : 65536 ≤ R
        · rw [Lib.encodeRuneZ_four (by omega) (by omega)]; simp
        · rw [Lib.encodeRuneZ_bad (by omega)]; simp
  · by_cases h5 : R < 55296 ∨ (57343 < R ∧ R ≤ 65535)
    · rw [Lib.encodeRuneZ_three (by omega)]; exact Nat.le_refl _
    · by_cases h6 : 65536 ≤ R
      · rw [Lib.encodeRuneZ_four (by omega) (by omega)]; simp
      · rw [Lib.encodeRuneZ_bad (by omega)]; simp
  · rw [Lib.encodeRuneZ_four (by omega) (by omega)]; exact Nat.le_refl _
theorem en_low {r : Nat} (h : r < 128) : en r = [UInt8.ofNat r] := by
  unfold en Lib.encodeRune
  rw [Lib.encodeRuneZ_one (by omega) (by omega)]
  simp
theorem en_ne (r : Nat) : en r ≠ [] := by
  intro h
  have h1 := (Lib.encodeRuneZ_length (r : Int)).1
  rw [← en_length, h] at h1
  exact absurd h1 (by decide)
theorem en_high {r : Nat} (h : 128 ≤ r) (hr : r ≤ 1114111) : ∀ b ∈ en r, 128 ≤ b.toNat := by
  intro b hb
  unfold en Lib.encodeRune at hb
  obtain ⟨x, hx, rfl⟩ := List.mem_map.1 hb
  have hx2 := Lib.encodeRuneZ_byte (r : Int) x hx
  have hx3 : 128 ≤ x := by
    by_cases h4 : r < 2048
    · rw [Lib.encodeRuneZ_two (by omega) (by omega)] at hx
      simp only [List.mem_cons, List.not_mem_nil, or_false] at hx
      rcases hx with rfl | rfl <;> omega
    · by_cases h5 : r < 55296 ∨ (57343 < r ∧ r ≤ 65535)
      · rw [Lib.encodeRuneZ_three (by omega)] at hx
        simp only [List.mem_cons, List.not_mem_nil, or_false] at hx
        rcases hx with rfl | rfl | rfl <;> omega
      · by_cases h6 : 65536 ≤ r
        · rw [Lib.encodeRuneZ_four (by omega) (by omega)] at hx
          simp only [List.mem_cons, List.not_mem_nil, or_false] at hx
          rcases hx with rfl | rfl | rfl | rfl <;> omega
        · rw [Lib.encodeRuneZ_bad (by omega)] at hx
          simp only [List.mem_cons, List.not_mem_nil, or_false] at hx
          rcases hx with rfl | rfl | rfl <;> omega
  have h7 : x.toNat < 256 := by omega
  show 128 ≤ (UInt8.ofNat x.toNat).toNat
  rw [UInt8.toNat_ofNat_of_lt' h7]
  omega

abbrev rs (s : ByteArray) (f p : Nat) : List UInt8 := Lib.runesFrom s f p
theorem rs_step (s : ByteArray) (f p : Nat) (h : p < s.size) : rs s (f + 1) p = en (rn s p) ++ rs s f (p + wd s p) := by
  simp [rs, Lib.runesFrom, h, en, rn, wd]
theorem rs_end (s : ByteArray) (f p : Nat) (h : ¬ p < s.size) : rs s f p = [] := by
  cases f with
  | zero => rfl
  | succ f => simp [rs, Lib.runesFrom, h]
theorem rs_length (s : ByteArray) : ∀ (f p : Nat), s.size ≤ p + f → s.size - p ≤ (rs s f p).length
  | 0, p, h => by omega
  | f + 1, p, h => by
    by_cases hp : p < s.size
    · rw [rs_step s f p hp, List.length_append]
      have h1 := rs_length s f (p + wd s p) (by have := wd_pos s p; omega)
      have h2 := en_size s p
      omega
    · omega
/-- Whether a text is UTF-8. -/
def pt (s : ByteArray) : Bool := decide (rs s s.size 0 = L s)
/-- What is known of the place: the rest is read as it stands. -/
def ok (s : ByteArray) (f p : Nat) : Prop := s.size ≤ p + f ∧ p ≤ s.size ∧ rs s f p = (L s).drop p
theorem ok_start {s : ByteArray} (h : pt s = true) : ok s s.size 0 := ⟨by omega, by omega, by simpa [pt] using h⟩
theorem ok_step {s : ByteArray} {f p : Nat} (h : ok s f p) (hp : p < s.size) :
    ∃ g, f = g + 1 ∧ ok s g (p + wd s p) ∧ (L s).drop p = en (rn s p) ++ (L s).drop (p + wd s p) := by
  obtain ⟨h1, h2, h3⟩ := h
  obtain ⟨g, rfl⟩ : ∃ g, f = g + 1 := ⟨f - 1, by omega⟩
  have hw := wd_pos s p
  have he := en_size s p
  rw [rs_step s g p hp] at h3
  have hl := congrArg List.length h3
  rw [List.length_append, List.length_drop, L_length] at hl
  have hr := rs_length s g (p + wd s p) (by omega)
  have e1 : (en (rn s p)).length = wd s p := by omega
  have e2 : rs s g (p + wd s p) = (L s).drop (p + wd s p) := by
    have := congrArg (List.drop (en (rn s p)).length) h3
    rw [List.drop_left, List.drop_drop, e1] at this
    exact this
  refine ⟨g, rfl, ⟨by omega, by omega, e2⟩, ?_⟩
  rw [← h3, ← e2]

/-! ### A text unescaped -/
def sg (b : Nat) : Bool := b == 92 || b == 44 || b == 61
/-- Byte by byte, as the reference goes. -/
def ub : List UInt8 → Bool → List UInt8 → Option (List UInt8)
  | [], sl, acc => if sl then none else some acc
  | b :: t, true, acc => if sg b.toNat then ub t false (acc ++ [b]) else none
  | b :: t, false, acc => if b.toNat = 92 then ub t true acc else if b.toNat = 44 ∨ b.toNat = 61 then none else ub t false (acc ++ [b])
/-- Sign by sign, as the program goes. -/
def uv (s : ByteArray) : Nat → Nat → Bool → List UInt8 → Option (List UInt8)
  | 0, _, sl, acc => if sl then none else some acc
  | f + 1, p, sl, acc =>
    if p < s.size then
      (if sl then (if sg (rn s p) then uv s f (p + wd s p) false (acc ++ en (rn s p)) else none)
       else if rn s p = 92 then uv s f (p + wd s p) true acc
       else if rn s p = 44 ∨ rn s p = 61 then none
       else uv s f (p + wd s p) false (acc ++ en (rn s p)))
    else (if sl then none else some acc)
theorem uv_end (s : ByteArray) (f p : Nat) (sl : Bool) (acc : List UInt8) (h : ¬ p < s.size) : uv s f p sl acc = if sl then none else some acc := by
  cases f <;> simp [uv, h]
theorem sg_hi {n : Nat} (h : 128 ≤ n) : sg n = false := by
  simp only [sg, Bool.or_eq_false_iff, beq_eq_false_iff_ne]
  omega
theorem ub_high : ∀ (x t acc : List UInt8), (∀ b ∈ x, 128 ≤ b.toNat) → ub (x ++ t) false acc = ub t false (acc ++ x)
  | [], t, acc, _ => by simp
  | b :: x, t, acc, h => by
    have hb := h b (List.mem_cons_self ..)
    have h1 : ¬ b.toNat = 92 := by omega
    have h2 : ¬ (b.toNat = 44 ∨ b.toNat = 61) := by omega
    rw [List.cons_append]
    simp only [ub, if_neg h1, if_neg h2]
    rw [ub_high x t (acc ++ [b]) (fun c hc => h c (List.mem_cons_of_mem _ hc))]
    simp
theorem uv_ub (s : ByteArray) : ∀ (f p : Nat) (sl : Bool) (acc : List UInt8), ok s f p → uv s f p sl acc = ub ((L s).drop p) sl acc := by
  intro f
  induction f with
  | zero =>
    intro p sl acc h
    have hp : ¬ p < s.size := by have := h.1; omega
    rw [uv_end s 0 p sl acc hp, List.drop_of_length_le (by rw [L_length]; omega)]
    rfl
  | succ f ih =>
    intro p sl acc h
    by_cases hp : p < s.size
    · obtain ⟨g, hg, hk, hd⟩ := ok_step h hp
      obtain rfl : f = g := by omega
      have hle := rn_le s p
      rw [hd]
      unfold uv
      rw [if_pos hp]
      by_cases hlo : rn s p < 128
      · have e1 : (UInt8.ofNat (rn s p)).toNat = rn s p := UInt8.toNat_ofNat_of_lt' (Nat.lt_of_lt_of_le hlo (by decide))
        rw [en_low hlo, List.singleton_append]
        cases sl with
        | true =>
          simp only [ub, e1, if_true]
          rw [ih _ _ _ hk]
        | false =>
          simp only [ub, e1]
          rw [ih _ _ _ hk, ih _ _ _ hk]
          rfl
      · have hhi := en_high (r := rn s p) (by omega) hle
        have h1 : ¬ rn s p = 92 := by omega
        have h2 : ¬ (rn s p = 44 ∨ rn s p = 61) := by omega
        cases sl with
        | true =>
          rw [sg_hi (by omega : 128 ≤ rn s p)]
          cases he : en (rn s p) with
          | nil => exact absurd he (en_ne _)
          | cons b x =>
            rw [he] at hhi
            have := sg_hi (hhi b (List.mem_cons_self ..))
            simp [ub, this]
        | false =>
          rw [ub_high _ _ _ hhi, if_neg h1, if_neg h2, ih _ _ _ hk]
          rfl
    · rw [uv_end s _ p sl acc hp, List.drop_of_length_le (by rw [L_length]; omega)]
      rfl
/-- No sign among those from here on. -/
def nos (s : ByteArray) : Nat → Nat → Bool
  | 0, _ => true
  | f + 1, p => if p < s.size then !sg (rn s p) && nos s f (p + wd s p) else true
theorem nos_uv (s : ByteArray) : ∀ (f p : Nat) (acc : List UInt8), nos s f p = true → uv s f p false acc = some (acc ++ rs s f p)
  | 0, p, acc, _ => by simp [uv, rs, Lib.runesFrom]
  | f + 1, p, acc, h => by
    by_cases hp : p < s.size
    · simp only [nos, if_pos hp, Bool.and_eq_true, Bool.not_eq_true'] at h
      have h1 := h.1
      simp only [sg, Bool.or_eq_false_iff, beq_eq_false_iff_ne] at h1
      rw [rs_step s f p hp]
      unfold uv
      have h3 : ¬ (rn s p = 44 ∨ rn s p = 61) := fun e => e.elim h1.1.2 h1.2
      rw [if_pos hp, if_neg (by decide), if_neg h1.1.1, if_neg h3, nos_uv s f _ _ h.2]
      simp
    · rw [uv_end s _ p _ acc hp, rs_end s _ p hp]
      simp
/-- The signs escaped. -/
def esc : List UInt8 → List UInt8
  | [] => []
  | b :: t => if sg b.toNat then 92 :: b :: esc t else b :: esc t
theorem esc_append : ∀ (a b : List UInt8), esc (a ++ b) = esc a ++ esc b
  | [], b => rfl
  | x :: a, b => by
    rw [List.cons_append]
    simp only [esc, esc_append a b]
    split <;> rfl
theorem ub_esc : ∀ (l acc r : List UInt8) (sl : Bool), ub l sl acc = some r → esc r = esc acc ++ (if sl then [92] else []) ++ l
  | [], acc, r, sl, h => by
    cases sl
    · simp [ub] at h; subst h; simp
    · simp [ub] at h
  | b :: t, acc, r, true, h => by
    simp only [ub] at h
    split at h
    · rename_i hs
      have := ub_esc t (acc ++ [b]) r false h
      rw [this, esc_append]
      simp [esc, hs]
    · cases h
  | b :: t, acc, r, false, h => by
    simp only [ub] at h
    split at h
    · rename_i hs
      have := ub_esc t acc r true h
      rw [this]
      have : b = 92 := UInt8.toNat_inj.1 hs
      simp [this]
    · split at h
      · cases h
      · rename_i h1 h2
        have := ub_esc t (acc ++ [b]) r false h
        rw [this, esc_append]
        have hs : sg b.toNat = false := by
          simp only [sg, Bool.or_eq_false_iff, beq_eq_false_iff_ne]
          omega
        simp [esc, hs]
end Go.Proofs.YtmkpkpkcoieeiabDoor.FuM
