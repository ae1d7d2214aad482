/- Texts that are UTF-8: what their signs are, byte by byte; a text unescaped, byte by byte. -/
import Derived.Lib.RuneLoops
import Derived.Lib.TrimU
import Derived.Stop.FmtQuoteTie
import Derived.Laws.RangeAny
import Derived.Laws.Cover4
import Derived.Laws.IdiomStrings
import Derived.Lib.MapLaws
import Derived.Lib.TrimUEq
import Derived.Lib.TrimAscii
import Derived.Test.YtccdnmachpepcaaDoorWMore
import Derived.Lib.JoinLaws
import Derived.Lib.OthersKept
import Derived.LoopTactic
import Derived.Outline
import Derived.Test.YtccdnmachpepcaaDoorProg
import Derived.Lib.IndexBytes
namespace Go.Proofs.YtccdnmachpepcaaDoor.FuM
open Go

abbrev L (s : ByteArray) : List UInt8 := s.data.toList
def rn (s : ByteArray) (i : Nat) : Nat := (Utf8.decode s i).1
def wd (s : ByteArray) (i : Nat) : Nat := (Utf8.decode s i).2
/-- The bytes of a sign. -/
def en (r : Nat) : List UInt8 := Lib.encodeRune (r : Int)
theorem L_length (s : ByteArray) : (L s).length = s.size := by rw [Array.length_toList]; rfl
theorem get_L (s : ByteArray) (i : Nat) (h : i < s.size) : (L s)[i]? = some (s[i]'h) := by
  rw [List.getElem?_eq_getElem (by rw [L_length]; exact h)]; rfl
theorem wd_pos (s : ByteArray) (i : Nat) : 1 ≤ wd s i := Lib.width_pos s i

theorem decN_kinds (n b0 b1 b2 b3 : Nat) : (Lib.decodeN n b0 b1 b2 b3).2 = 1 ∨ ((Lib.decodeN n b0 b1 b2 b3).2 = 2 ∧ 128 ≤ (Lib.decodeN n b0 b1 b2 b3).1) ∨ ((Lib.decodeN n b0 b1 b2 b3).2 = 3 ∧ 2048 ≤ (Lib.decodeN n b0 b1 b2 b3).1) ∨ ((Lib.decodeN n b0 b1 b2 b3).2 = 4 ∧ 65536 ≤ (Lib.decodeN n b0 b1 b2 b3).1) := by
  unfold Lib.decodeN
  split
  · exact Or.inl rfl
  split
  · split
    · rename_i h; exact Or.inr (Or.inl ⟨rfl, h⟩)
    · exact Or.inl rfl
  split
  · split
    · rename_i h; exact Or.inr (Or.inr (Or.inl ⟨rfl, h.1⟩))
    · exact Or.inl rfl
  split
  · split
    · rename_i h; exact Or.inr (Or.inr (Or.inr ⟨rfl, h.1⟩))
    · exact Or.inl rfl
  · exact Or.inl rfl
theorem kinds (s : ByteArray) (i : Nat) : wd s i = 1 ∨ (wd s i = 2 ∧ 128 ≤ rn s i) ∨ (wd s i = 3 ∧ 2048 ≤ rn s i) ∨ (wd s i = 4 ∧ 65536 ≤ rn s i) := by
  unfold wd rn
  rw [Lib.decode_at]
  exact decN_kinds _ _ _ _ _
theorem rn_le (s : ByteArray) (i : Nat) : rn s i ≤ 1114111 := Lib.rune_le s i
theorem en_length (r : Nat) : (en r).length = (Lib.encodeRuneZ (r : Int)).length := by simp [en, Lib.encodeRune]
theorem en_size (s : ByteArray) (i : Nat) : wd s i ≤ (en (rn s i)).length := by
  have h1 := kinds s i
  have h2 := rn_le s i
  rw [en_length]
  generalize wd s i = W at *
  generalize rn s i = R at *
  have h3 := (Lib.encodeRuneZ_length (R : Int)).1
  rcases h1 with rfl | ⟨rfl, h⟩ | ⟨rfl, h⟩ | ⟨rfl, h⟩
  · exact h3
  · by_cases h4 : R < 2048
    · rw [Lib.encodeRuneZ_two (by omega) (by omega)]; exact Nat.le_refl _
    · by_cases h5 : R < 55296 ∨ (57343 < R ∧ R ≤ 65535)
      · rw [Lib.encodeRuneZ_three (by omega)]; simp
      · by_cases h6 : 65536 ≤ R
        · rw [Lib.encodeRuneZ_four (by omega) (by omega)]; simp
        · rw [Lib.encodeRuneZ_bad (by omega)]; simp
  · by_cases h5 : R < 55296 ∨ (57343 < R ∧ R ≤ 65535)
    · rw [Lib.encodeRuneZ_three (by omega)]; exact Nat.le_refl _
    · by_cases h6 : 65536 ≤ R
      · rw [Lib.encodeRuneZ_four (by omega) (by omega)]; simp
      · rw [Lib.encodeRuneZ_bad (by omega)]; simp
  · rw [Lib.encodeRuneZ_four (by omega) (by omega)]; exact Nat.le_refl _
theorem en_low {r : Nat} (h : r < 128) : en r = [UInt8.ofNat r] := by
  unfold en Lib.encodeRune
  rw [Lib.encodeRuneZ_one (by omega) (by omega)]
  simp
theorem en_ne (r : Nat) : en r ≠ [] := by
  intro h
  have h1 := (Lib.encodeRuneZ_length (r : Int)).1
  rw [← en_length, h] at h1
  exact absurd h1 (by decide)
theorem en_high {r : Nat} (h : 128 ≤ r) (hr : r ≤ 1114111) : ∀ b ∈ en r, 128 ≤ b.toNat := by
  intro b hb
  unfold en Lib.encodeRune at hb
  obtain ⟨x, hx, rfl⟩ := List.mem_map.1 hb
  have hx2 := Lib.encodeRuneZ_byte (r : Int) x hx
  have hx3 : 128 ≤ x := by
    by_cases h4 : r < 2048
    · rw [Lib.encodeRuneZ_two (by omega) (by omega)] at hx
      simp only [List.mem_cons, List.not_mem_nil, or_false] at hx
      rcases hx with rfl | rfl <;> omega
    · by_cases h5 : r < 55296 ∨ (57343 < r ∧ r ≤ 65535)
      · rw [Lib.encodeRuneZ_three (by omega)] at hx
        simp only [List.mem_cons, List.not_mem_nil, or_false] at hx
        rcases hx with rfl | rfl | rfl <;> omega
      · by_cases h6 : 65536 ≤ r
        · rw [Lib.encodeRuneZ_four (by omega) (by omega)] at hx
          simp only [List.mem_cons, List.not_mem_nil, or_false] at hx
          rcases hx with rfl | rfl | rfl | rfl <;> omega
        · rw [Lib.encodeRuneZ_bad (by omega)] at hx
          simp only [List.mem_cons, List.not_mem_nil, or_false] at hx
          rcases hx with rfl | rfl | rfl <;> omega
  have h7 : x.toNat < 256 := by omega
  show 128 ≤ (UInt8.ofNat x.toNat).toNat
  rw [UInt8.toNat_ofNat_of_lt' h7]
  omega

abbrev rs (s : ByteArray) (f p : Nat) : List UInt8 := Lib.runesFrom s f p
theorem rs_step (s : ByteArray) (f p : Nat) (h : p < s.size) : rs s (f + 1) p = en (rn s p) ++ rs s f (p + wd s p) := by
  simp [rs, Lib.runesFrom, h, en, rn, wd]
theorem rs_end (s : ByteArray) (f p : Nat) (h : ¬ p < s.size) : rs s f p = [] := by
  cases f with
  | zero => rfl
  | succ f => simp [rs, Lib.runesFrom, h]
theorem rs_length (s : ByteArray) : ∀ (f p : Nat), s.size ≤ p + f → s.size - p ≤ (rs s f p).length
  | 0, p, h => by omega
  | f + 1, p, h => by
    by_cases hp : p < s.size
    · rw [rs_step s f p hp, List.length_append]
      have h1 := rs_length s f (p + wd s p) (by have := wd_pos s p; omega)
      have h2 := en_size s p
      omega
    · omega
/-- Whether a text is UTF-8. -/
def pt (s : ByteArray) : Bool := decide (rs s s.size 0 = L s)
/-- What is known of the place: the rest is read as it stands. -/
def ok (s : ByteArray) (f p : Nat) : Prop := s.size ≤ p + f ∧ p ≤ s.size ∧ rs s f p = (L s).drop p
theorem ok_start {s : ByteArray} (h : pt s = true) : ok s s.size 0 := ⟨by omega, by omega, by simpa [pt] using h⟩
theorem ok_step {s : ByteArray} {f p : Nat} (h : ok s f p) (hp : p < s.size) :
    ∃ g, f = g + 1 ∧ ok s g (p + wd s p) ∧ (L s).drop p = en (rn s p) ++ (L s).drop (p + wd s p) := by
  obtain ⟨h1, h2, h3⟩ := h
  obtain ⟨g, rfl⟩ : ∃ g, f = g + 1 := ⟨f - 1, by omega⟩
  have hw := wd_pos s p
  have he := en_size s p
  rw [rs_step s g p hp] at h3
  have hl := congrArg List.length h3
  rw [List.length_append, List.length_drop, L_length] at hl
  have hr := rs_length s g (p + wd s p) (by omega)
  have e1 : (en (rn s p)).length = wd s p := by omega
  have e2 : rs s g (p + wd s p) = (L s).drop (p + wd s p) := by
    have := congrArg (List.drop (en (rn s p)).length) h3
    rw [List.drop_left, List.drop_drop, e1] at this
    exact this
  refine ⟨g, rfl, ⟨by omega, by omega, e2⟩, ?_⟩
  rw [← h3, ← e2]

/-! ### A text unescaped -/
def sg (b : Nat) : Bool := b == 92 || b == 44 || b == 61
/-- Byte by byte, as the reference goes. -/
def ub : List UInt8 → Bool → List UInt8 → Option (List UInt8)
  | [], sl, acc => if sl then none else some acc
  | b :: t, true, acc => if sg b.toNat then ub t false (acc ++ [b]) else none
  | b :: t, false, acc => if b.toNat = 92 then ub t true acc else if b.toNat = 44 ∨ b.toNat = 61 then none else ub t false (acc ++ [b])
/-- Sign by sign, as the program goes. -/
def uv (s : ByteArray) : Nat → Nat → Bool → List UInt8 → Option (List UInt8)
  | 0, _, sl, acc => if sl then none else some acc
  | f + 1, p, sl, acc =>
    if p < s.size then
      (if sl then (if sg (rn s p) then uv s f (p + wd s p) false (acc ++ en (rn s p)) else none)
       else if rn s p = 92 then uv s f (p + wd s p) true acc
       else if rn s p = 44 ∨ rn s p = 61 then none
       else uv s f (p + wd s p) false (acc ++ en (rn s p)))
    else (if sl then none else some acc)
theorem uv_end (s : ByteArray) (f p : Nat) (sl : Bool) (acc : List UInt8) (h : ¬ p < s.size) : uv s f p sl acc = if sl then none else some acc := by
  cases f <;> simp [uv, h]
theorem sg_hi {n : Nat} (h : 128 ≤ n) : sg n = false := by
  simp only [sg, Bool.or_eq_false_iff, beq_eq_false_iff_ne]
  omega
theorem ub_high : ∀ (x t acc : List UInt8), (∀ b ∈ x, 128 ≤ b.toNat) → ub (x ++ t) false acc = ub t false (acc ++ x)
  | [], t, acc, _ => by simp
  | b :: x, t, acc, h => by
    have hb := h b (List.mem_cons_self ..)
    have h1 : ¬ b.toNat = 92 := by omega
    have h2 : ¬ (b.toNat = 44 ∨ b.toNat = 61) := by omega
    rw [List.cons_append]
    simp only [ub, if_neg h1, if_neg h2]
    rw [ub_high x t (acc ++ [b]) (fun c hc => h c (List.mem_cons_of_mem _ hc))]
    simp
theorem uv_ub (s : ByteArray) : ∀ (f p : Nat) (sl : Bool) (acc : List UInt8), ok s f p → uv s f p sl acc = ub ((L s).drop p) sl acc := by
  intro f
  induction f with
  | zero =>
    intro p sl acc h
    have hp : ¬ p < s.size := by have := h.1; omega
    rw [uv_end s 0 p sl acc hp, List.drop_of_length_le (by rw [L_length]; omega)]
    rfl
  | succ f ih =>
    intro p sl acc h
    by_cases hp : p < s.size
    · obtain ⟨g, hg, hk, hd⟩ := ok_step h hp
      obtain rfl : f = g := by omega
      have hle := rn_le s p
      rw [hd]
      unfold uv
      rw [if_pos hp]
      by_cases hlo : rn s p < 128
      · have e1 : (UInt8.ofNat (rn s p)).toNat = rn s p := UInt8.toNat_ofNat_of_lt' (Nat.lt_of_lt_of_le hlo (by decide))
        rw [en_low hlo, List.singleton_append]
        cases sl with
        | true =>
          simp only [ub, e1, if_true]
          rw [ih _ _ _ hk]
        | false =>
          simp only [ub, e1]
          rw [ih _ _ _ hk, ih _ _ _ hk]
          rfl
      · have hhi := en_high (r := rn s p) (by omega) hle
        have h1 : ¬ rn s p = 92 := by omega
        have h2 : ¬ (rn s p = 44 ∨ rn s p = 61) := by omega
        cases sl with
        | true =>
          rw [sg_hi (by omega : 128 ≤ rn s p)]
          cases he : en (rn s p) with
          | nil => exact absurd he (en_ne _)
          | cons b x =>
            rw [he] at hhi
            have := sg_hi (hhi b (List.mem_cons_self ..))
            simp [ub, this]
        | false =>
          rw [ub_high _ _ _ hhi, if_neg h1, if_neg h2, ih _ _ _ hk]
          rfl
    · rw [uv_end s _ p sl acc hp, List.drop_of_length_le (by rw [L_length]; omega)]
      rfl
/-- No sign among those from here on. -/
def nos (s : ByteArray) : Nat → Nat → Bool
  | 0, _ => true
  | f + 1, p => if p < s.size then !sg (rn s p) && nos s f (p + wd s p) else true
theorem nos_uv (s : ByteArray) : ∀ (f p : Nat) (acc : List UInt8), nos s f p = true → uv s f p false acc = some (acc ++ rs s f p)
  | 0, p, acc, _ => by simp [uv, rs, Lib.runesFrom]
  | f + 1, p, acc, h => by
    by_cases hp : p < s.size
    · simp only [nos, if_pos hp, Bool.and_eq_true, Bool.not_eq_true'] at h
      have h1 := h.1
      simp only [sg, Bool.or_eq_false_iff, beq_eq_false_iff_ne] at h1
      rw [rs_step s f p hp]
      unfold uv
      have h3 : ¬ (rn s p = 44 ∨ rn s p = 61) := fun e => e.elim h1.1.2 h1.2
      rw [if_pos hp, if_neg (by decide), if_neg h1.1.1, if_neg h3, nos_uv s f _ _ h.2]
      simp
    · rw [uv_end s _ p _ acc hp, rs_end s _ p hp]
      simp
/-- The signs escaped. -/
def esc : List UInt8 → List UInt8
  | [] => []
  | b :: t => if sg b.toNat then 92 :: b :: esc t else b :: esc t
theorem esc_append : ∀ (a b : List UInt8), esc (a ++ b) = esc a ++ esc b
  | [], b => rfl
  | x :: a, b => by
    rw [List.cons_append]
    simp only [esc, esc_append a b]
    split <;> rfl
theorem ub_esc : ∀ (l acc r : List UInt8) (sl : Bool), ub l sl acc = some r → esc r = esc acc ++ (if sl then [92] else []) ++ l
  | [], acc, r, sl, h => by
    cases sl
    · simp [ub] at h; subst h; simp
    · simp [ub] at h
  | b :: t, acc, r, true, h => by
    simp only [ub] at h
    split at h
    · rename_i hs
      have := ub_esc t (acc ++ [b]) r false h
      rw [this, esc_append]
      simp [esc, hs]
    · cases h
  | b :: t, acc, r, false, h => by
    simp only [ub] at h
    split at h
    · rename_i hs
      have := ub_esc t acc r true h
      rw [this]
      have : b = 92 := UInt8.toNat_inj.1 hs
      simp [this]
    · split at h
      · cases h
      · rename_i h1 h2
        have := ub_esc t (acc ++ [b]) r false h
        rw [this, esc_append]
        have hs : sg b.toNat = false := by
          simp only [sg, Bool.or_eq_false_iff, beq_eq_false_iff_ne]
          omega
        simp [esc, hs]
end Go.Proofs.YtccdnmachpepcaaDoor.FuM

namespace Go.Proofs.YtccdnmachpepcaaDoor.FuV
open Go Go.Proofs.YtccdnmachpepcaaDoor.FuM

/-- A chunk that reads as one sign, whatever follows. -/
def Ch (x : List UInt8) (r : Nat) : Prop := x = en r ∧ x ≠ [] ∧ r ≤ 1114111 ∧ ∀ t, Lib.decodeL (x ++ t) = (r, x.length)
/-- A list of bytes that is UTF-8. -/
def VL (l : List UInt8) : Prop := ∃ xs : List (List UInt8), l = xs.flatten ∧ ∀ x ∈ xs, ∃ r, Ch x r
theorem VL.nil : VL [] := ⟨[], rfl, fun x h => by cases h⟩
theorem VL.cons {x t : List UInt8} {r : Nat} (h : Ch x r) (k : VL t) : VL (x ++ t) := by
  obtain ⟨xs, rfl, hx⟩ := k
  exact ⟨x :: xs, rfl, fun y hy => by
    rcases List.mem_cons.1 hy with rfl | hy
    · exact ⟨r, h⟩
    · exact hx y hy⟩
set_option maxRecDepth 100000 in
set_option maxHeartbeats 2000000 in
theorem loc (n n' b0 b1 b2 b3 c1 c2 c3 k : Nat) (hk : (Lib.decodeN n b0 b1 b2 b3).2 = k) (hn : 2 ≤ k) (hnn : k ≤ n') (e1 : c1 = b1) (e2 : 2 < k → c2 = b2) (e3 : 3 < k → c3 = b3) :
    Lib.decodeN n' b0 c1 c2 c3 = Lib.decodeN n b0 b1 b2 b3 := by
  subst e1
  rcases Lib.decodeN_shape n b0 c1 b2 b3 with ⟨c, e⟩ | ⟨c1', c2', c3', cv, e⟩ | ⟨c1', c2', c3', c4', cv, cs, e⟩ | ⟨c1', c2', c3', c4', c5', cv, cw, e⟩ | e
  · rw [e] at hk; simp only at hk; omega
  · rw [e] at hk ⊢
    simp only at hk
    subst hk
    unfold Lib.decodeN
    rw [if_neg (by omega), if_pos (by omega), if_pos (by omega)]
  · rw [e] at hk ⊢
    simp only at hk
    subst hk
    obtain rfl := e2 (by omega)
    unfold Lib.decodeN
    rw [if_neg (by omega), if_neg (by omega), if_pos (by omega), if_pos (by omega)]
  · rw [e] at hk ⊢
    simp only at hk
    subst hk
    obtain rfl := e2 (by omega)
    obtain rfl := e3 (by omega)
    unfold Lib.decodeN
    rw [if_neg (by omega), if_neg (by omega), if_neg (by omega), if_pos (by omega), if_pos (by omega)]
  · rw [e] at hk; simp only at hk; omega
theorem en_one {r : Nat} (h : (en r).length = 1) (hr : r ≤ 1114111) : r < 128 := by
  rw [en_length] at h
  by_cases h1 : r < 128
  · exact h1
  · by_cases h4 : r < 2048
    · rw [Lib.encodeRuneZ_two (by omega) (by omega)] at h; simp at h
    · by_cases h5 : r < 55296 ∨ (57343 < r ∧ r ≤ 65535)
      · rw [Lib.encodeRuneZ_three (by omega)] at h; simp at h
      · by_cases h6 : 65536 ≤ r
        · rw [Lib.encodeRuneZ_four (by omega) (by omega)] at h; simp at h
        · rw [Lib.encodeRuneZ_bad (by omega)] at h; simp at h
theorem getD_app (x t : List UInt8) (i : Nat) (h : i < x.length) : (x ++ t).getD i 0 = x.getD i 0 := by
  simp [List.getD, List.getElem?_append_left h]
theorem ch_of (x t0 : List UInt8) (r : Nat) (hx : x = en r) (hne : x ≠ []) (hr : r ≤ 1114111) (h : Lib.decodeL (x ++ t0) = (r, x.length)) : Ch x r := by
  refine ⟨hx, hne, hr, fun t => ?_⟩
  by_cases h1 : x.length = 1
  · have hr2 := en_one (by rw [← hx]; exact h1) hr
    have e : x = [UInt8.ofNat r] := by rw [hx, en_low hr2]
    rw [e]
    have e2 : (UInt8.ofNat r).toNat = r := by simp; omega
    have := Lib.decodeL_ascii (UInt8.ofNat r) t (by rw [e2]; exact hr2)
    rw [e2] at this
    exact this
  · have hl : 0 < x.length := List.length_pos_iff.2 hne
    have h2 : 2 ≤ x.length := by omega
    rw [← h, Lib.decodeL_N, Lib.decodeL_N]
    rw [Lib.decodeL_N] at h
    have hk := congrArg Prod.snd h
    simp only at hk
    rw [getD_app x t 0 hl, getD_app x t0 0 hl]
    rw [getD_app x t0 0 hl] at hk
    refine loc _ _ _ _ _ _ _ _ _ x.length hk h2 (by rw [List.length_append]; omega) ?_ (fun q => ?_) (fun q => ?_)
    · rw [getD_app x t 1 (by omega), getD_app x t0 1 (by omega)]
    · rw [getD_app x t 2 q, getD_app x t0 2 q]
    · rw [getD_app x t 3 q, getD_app x t0 3 q]
theorem vl_of_ok (s : ByteArray) : ∀ (f p : Nat), ok s f p → VL ((L s).drop p) := by
  intro f
  induction f with
  | zero =>
    intro p h
    rw [List.drop_eq_nil_of_le (by rw [L_length]; have := h.1; omega)]
    exact VL.nil
  | succ f ih =>
    intro p h
    by_cases hp : p < s.size
    · obtain ⟨g, hg, hok, he⟩ := ok_step h hp
      obtain rfl : f = g := by omega
      have hl := congrArg List.length he
      rw [List.length_append, List.length_drop, List.length_drop, L_length] at hl
      have h2 := hok.2.1
      have hen : (en (rn s p)).length = wd s p := by omega
      rw [he]
      refine VL.cons (ch_of _ ((L s).drop (p + wd s p)) (rn s p) rfl (en_ne _) (rn_le s p) ?_) (ih _ hok)
      rw [← he, Lib.decodeL_drop, hen]
      rfl
    · rw [List.drop_eq_nil_of_le (by rw [L_length]; omega)]
      exact VL.nil
theorem vl_of_pt {s : ByteArray} (h : pt s = true) : VL (L s) := by
  have := vl_of_ok s s.size 0 (ok_start h)
  simpa using this
theorem rs_of_vl (s : ByteArray) : ∀ (xs : List (List UInt8)) (f p : Nat), (∀ x ∈ xs, ∃ r, Ch x r) → (L s).drop p = xs.flatten → s.size ≤ p + f → rs s f p = (L s).drop p := by
  intro xs
  induction xs with
  | nil =>
    intro f p _ he _
    have hl := congrArg List.length he
    rw [List.length_drop, L_length] at hl
    simp only [List.flatten_nil, List.length_nil] at hl
    rw [rs_end s f p (by omega), he]
    rfl
  | cons x xs ih =>
    intro f p hx he hf
    obtain ⟨r, h1, h2, h3, h4⟩ := hx x (by simp)
    rw [List.flatten_cons] at he
    have hl := congrArg List.length he
    rw [List.length_drop, L_length, List.length_append] at hl
    have hpos : 0 < x.length := List.length_pos_iff.2 h2
    obtain ⟨g, rfl⟩ : ∃ g, f = g + 1 := ⟨f - 1, by omega⟩
    have hd := h4 xs.flatten
    rw [← he, Lib.decodeL_drop] at hd
    have e1 : rn s p = r := congrArg Prod.fst hd
    have e2 : wd s p = x.length := congrArg Prod.snd hd
    have e3 : (L s).drop (p + wd s p) = xs.flatten := by
      rw [e2, ← List.drop_drop, he, List.drop_left]
    rw [rs_step s g p (by omega), ih g (p + wd s p) (fun y hy => hx y (by simp [hy])) e3 (by omega), e3, he, e1, ← h1]
theorem pt_of_vl {s : ByteArray} (h : VL (L s)) : pt s = true := by
  obtain ⟨xs, he, hx⟩ := h
  have := rs_of_vl s xs s.size 0 hx (by simpa using he) (by omega)
  simpa [pt] using this
/-- Cut at a byte below 128. -/
theorem VL.cut {c : UInt8} (hc : c.toNat < 128) : ∀ (xs : List (List UInt8)) (a b : List UInt8), (∀ x ∈ xs, ∃ r, Ch x r) → xs.flatten = a ++ c :: b → VL a ∧ VL b := by
  intro xs
  induction xs with
  | nil => intro a b _ he; simp at he
  | cons x xs ih =>
    intro a b hx he
    obtain ⟨r, h1⟩ := hx x (by simp)
    rw [List.flatten_cons] at he
    have hxs : ∀ y ∈ xs, ∃ r, Ch y r := fun y hy => hx y (by simp [hy])
    rcases List.append_eq_append_iff.1 he with ⟨a', ha, hb⟩ | ⟨c', hc', hb⟩
    · obtain ⟨p, q⟩ := ih a' b hxs hb
      rw [ha]
      exact ⟨VL.cons h1 p, q⟩
    · cases c' with
      | nil =>
        simp only [List.nil_append, List.append_nil] at hb hc'
        obtain ⟨p, q⟩ := ih [] b hxs (by simpa using hb.symm)
        rw [← hc']
        refine ⟨?_, q⟩
        have := VL.cons h1 VL.nil
        simpa using this
      | cons d c' =>
        simp only [List.cons_append, List.cons.injEq] at hb
        obtain ⟨rfl, rfl⟩ := hb
        have hr : r < 128 := by
          refine Classical.byContradiction fun hn => ?_
          have := en_high (r := r) (by omega) h1.2.2.1 c (by rw [← h1.1, hc']; simp)
          omega
        have hxe : x = [UInt8.ofNat r] := by rw [h1.1, en_low hr]
        rw [hxe] at hc'
        have hl := congrArg List.length hc'
        simp only [List.length_cons, List.length_nil, List.length_append] at hl
        have ha : a = [] := List.length_eq_zero_iff.1 (by omega)
        have hcn : c' = [] := List.length_eq_zero_iff.1 (by omega)
        rw [ha, hcn]
        exact ⟨VL.nil, ⟨xs, rfl, hxs⟩⟩
theorem VL.split {c : UInt8} (hc : c.toNat < 128) {a b : List UInt8} (h : VL (a ++ c :: b)) : VL a ∧ VL b := by
  obtain ⟨xs, he, hx⟩ := h
  exact VL.cut hc xs a b hx he.symm
end Go.Proofs.YtccdnmachpepcaaDoor.FuV

set_option linter.unusedSimpArgs false
set_option linter.unusedVariables false
namespace Go.Proofs.YtccdnmachpepcaaDoor.FsP
open Go Go.Proofs.YtccdnmachpepcaaDoor.FuM Go.Proofs.YtccdnmachpepcaaDoor.FuV
/-- A text cut at its commas, but at those behind a backslash: the rest, whether a backslash stood ahead, the piece so far. -/
def goP : List UInt8 → Bool → List UInt8 → List (List UInt8)
  | [], _, cur => [cur]
  | b :: l, true, cur => goP l false (cur ++ [b])
  | b :: l, false, cur => if b = 92 then goP l true (cur ++ [b]) else if b = 44 then cur :: goP l false [] else goP l false (cur ++ [b])
theorem goP_slash (l cur : List UInt8) : goP (92 :: l) false cur = goP l true (cur ++ [92]) := by simp [goP]
theorem goP_comma (l cur : List UInt8) : goP (44 :: l) false cur = cur :: goP l false [] := by simp [goP]
theorem goP_plain {b : UInt8} (l cur : List UInt8) (h1 : ¬ b = 92) (h2 : ¬ b = 44) : goP (b :: l) false cur = goP l false (cur ++ [b]) := by simp [goP, h1, h2]
theorem goP_true (b : UInt8) (l cur : List UInt8) : goP (b :: l) true cur = goP l false (cur ++ [b]) := rfl
/-- Bytes from 128 on say nothing, but that a backslash ahead is used up. -/
theorem goP_high : ∀ (x : List UInt8) (l cur : List UInt8), (∀ b ∈ x, 128 ≤ b.toNat) → goP (x ++ l) false cur = goP l false (cur ++ x)
  | [], l, cur, _ => by simp
  | b :: x, l, cur, h => by
    have hb := h b (by simp)
    rw [List.cons_append, goP_plain _ _ (by rintro rfl; simp at hb) (by rintro rfl; simp at hb), goP_high x l _ (fun c hc => h c (by simp [hc]))]
    simp
theorem goP_high2 (x l cur : List UInt8) (sl : Bool) (hx : x ≠ []) (h : ∀ b ∈ x, 128 ≤ b.toNat) : goP (x ++ l) sl cur = goP l false (cur ++ x) := by
  cases sl with
  | false => exact goP_high x l cur h
  | true =>
    cases x with
    | nil => exact absurd rfl hx
    | cons b x =>
      rw [List.cons_append, goP_true, goP_high x l _ (fun c hc => h c (by simp [hc]))]
      simp
theorem goP_ne (l : List UInt8) : ∀ (sl : Bool) (cur : List UInt8), goP l sl cur ≠ [] := by
  induction l with
  | nil => intro sl cur h; cases h
  | cons b l ih =>
    intro sl cur
    cases sl with
    | true => rw [goP_true]; exact ih _ _
    | false =>
      unfold goP
      split
      · exact ih _ _
      · split
        · intro h; cases h
        · exact ih _ _
theorem goP_length (l : List UInt8) : ∀ (sl : Bool) (cur : List UInt8), (goP l sl cur).length ≤ l.length + 1 := by
  induction l with
  | nil => intro sl cur; exact Nat.le_refl _
  | cons b l ih =>
    intro sl cur
    cases sl with
    | true => rw [goP_true]; have := ih false (cur ++ [b]); rw [List.length_cons]; omega
    | false =>
      unfold goP
      split
      · have := ih true (cur ++ [b]); rw [List.length_cons]; omega
      · split
        · have := ih false []; rw [List.length_cons, List.length_cons]; omega
        · have := ih false (cur ++ [b]); rw [List.length_cons]; omega
/-- Each piece is a part of the text, of UTF-8 if that is. -/
theorem goP_vl (l : List UInt8) : ∀ (sl : Bool) (cur : List UInt8), VL (cur ++ l) → ∀ p ∈ goP l sl cur, VL p := by
  induction l with
  | nil =>
    intro sl cur h p hp
    have e : p = cur := by simpa [goP] using hp
    subst e
    simpa using h
  | cons b l ih =>
    intro sl cur h p hp
    have h' : VL ((cur ++ [b]) ++ l) := by simpa using h
    cases sl with
    | true => rw [goP_true] at hp; exact ih _ _ h' p hp
    | false =>
      unfold goP at hp
      split at hp
      · exact ih _ _ h' p hp
      · split at hp
        · rename_i hb
          subst hb
          obtain ⟨h1, h2⟩ := VL.split (by decide) h
          rcases List.mem_cons.1 hp with rfl | hp
          · exact h1
          · exact ih false [] (by simpa using h2) p hp
        · exact ih _ _ h' p hp
theorem goP_size (l : List UInt8) : ∀ (sl : Bool) (cur : List UInt8), ∀ p ∈ goP l sl cur, p.length ≤ cur.length + l.length := by
  induction l with
  | nil =>
    intro sl cur p hp
    have e : p = cur := by simpa [goP] using hp
    subst e
    simp
  | cons b l ih =>
    intro sl cur p hp
    cases sl with
    | true => rw [goP_true] at hp; have := ih _ _ p hp; simp at this ⊢; omega
    | false =>
      unfold goP at hp
      split at hp
      · have := ih _ _ p hp; simp at this ⊢; omega
      · split at hp
        · rcases List.mem_cons.1 hp with rfl | hp
          · simp
          · have := ih _ _ p hp; simp at this ⊢; omega
        · have := ih _ _ p hp; simp at this ⊢; omega
def pieces (s : ByteArray) : List ByteArray := if s.size = 0 then [] else (goP (L s) false []).map fun p => ⟨p.toArray⟩
theorem pieces_length (s : ByteArray) : (pieces s).length ≤ s.size + 1 := by
  unfold pieces
  split
  · simp
  · rw [List.length_map]; have := goP_length (L s) false []; rw [L_length] at this; exact this
theorem pieces_pt {s : ByteArray} (h : pt s = true) : ∀ p ∈ pieces s, pt p = true := by
  intro p hp
  unfold pieces at hp
  split at hp
  · cases hp
  · obtain ⟨q, hq, rfl⟩ := List.mem_map.1 hp
    exact pt_of_vl (goP_vl (L s) false [] (by simpa using vl_of_pt h) q hq)
theorem pieces_size (s : ByteArray) : ∀ p ∈ pieces s, p.size ≤ s.size := by
  intro p hp
  unfold pieces at hp
  split at hp
  · cases hp
  · obtain ⟨q, hq, rfl⟩ := List.mem_map.1 hp
    have := goP_size (L s) false [] q hq
    rw [L_length] at this
    show q.toArray.size ≤ s.size
    simpa using this
end Go.Proofs.YtccdnmachpepcaaDoor.FsP

set_option linter.unusedSimpArgs false
set_option linter.unusedVariables false
namespace Go.Proofs.YtccdnmachpepcaaDoor.FsS
open Go Go.RowKit Go.Proofs.YtccdnmachpepcaaDoor.FuM Go.Proofs.YtccdnmachpepcaaDoor.FuV Go.Proofs.YtccdnmachpepcaaDoor.FsP Go.Proofs.YtccdnmachpepcaaDoorW.PrintWords Go.Proofs.YtccdnmachpepcaaDoorW.PrintLast
/-- A made row with room alone. -/
theorem R_room {α : Type} (d : Kd α) (e : Nat) (w : World) (ok : Nat → Prop) (z : Array Value) (n : Nat) (hn : n ≤ maxLen) (h1 : d.sz = 1) (hok : ok w.heap.size) :
    d.R e (w.alloc (.cells (madeCells z n) e)) w.heap.size ok (.slice (some ⟨w.heap.size, 0, none⟩) 0 n) [] := by
  refine ⟨fun k hk => ?_, [], ⟨by simp, .inr ⟨w.heap.size, n, madeCells z n, rfl, Nat.le_refl _, heap_alloc_new w _, Nat.zero_le _, hn, by rw [size_madeCells, h1, Nat.mul_one], by simp⟩⟩, Reps.none _ _⟩
  have : w.heap.size = k := by simpa [Value.ownBlock] using hk
  exact this ▸ hok
theorem iter_other (w : World) (b : Nat) (s : ByteArray) (p k : Nat) (h : k ≠ b) : (w.iterAt b s p).heap[k]? = w.heap[k]? := by
  simp [World.iterAt, Array.getElem?_set, Ne.symm h]
/-- The bytes of a sign below 128. -/
theorem dec_low (s : ByteArray) (p : Nat) (hp : p < s.size) (h : rn s p < 128) : wd s p = 1 ∧ (L s).drop p = UInt8.ofNat (rn s p) :: (L s).drop (p + 1) := by
  have hl : p < (L s).length := by rw [L_length]; exact hp
  have hd := Lib.decodeL_drop s p
  rw [List.drop_eq_getElem_cons hl] at hd
  by_cases hb : ((L s)[p]).toNat < 128
  · rw [Lib.decodeL_ascii _ _ hb] at hd
    have e1 : rn s p = ((L s)[p]).toNat := (congrArg Prod.fst hd).symm
    have e2 : wd s p = 1 := (congrArg Prod.snd hd).symm
    refine ⟨e2, ?_⟩
    rw [List.drop_eq_getElem_cons hl, e1]
    congr 1
    simp
  · exfalso
    have hk := Lib.decodeN_shape (s.size - p) (s.get! p).toNat (s.get! (p + 1)).toNat (s.get! (p + 2)).toNat (s.get! (p + 3)).toNat
    have e0 : (s.get! p).toNat = ((L s)[p]).toNat := congrArg UInt8.toNat (Go.get_at s p hp)
    unfold rn at h
    rw [Lib.decode_at] at h
    rw [e0] at hk h
    rcases hk with ⟨c, e⟩ | ⟨c1, c2, c3, cv, e⟩ | ⟨c1, c2, c3, c4, cv, cs, e⟩ | ⟨c1, c2, c3, c4, c5, cv, cw, e⟩ | e
    all_goals (rw [e] at h; simp only at h; omega)
theorem dec_high (s : ByteArray) (p : Nat) (hp : p < s.size) (h : 128 ≤ rn s p) : p + wd s p ≤ s.size ∧ ∃ x, x ≠ [] ∧ (∀ b ∈ x, 128 ≤ b.toNat) ∧ x.length = wd s p ∧ (L s).drop p = x ++ (L s).drop (p + wd s p) := by
  have hl : p < (L s).length := by rw [L_length]; exact hp
  have hw := wd_pos s p
  have key : p + wd s p ≤ s.size ∧ ∀ k, k < wd s p → 128 ≤ (s.get! (p + k)).toNat := by
    unfold wd rn at *
    rw [Lib.decode_at] at *
    have hk := Lib.decodeN_shape (s.size - p) (s.get! p).toNat (s.get! (p + 1)).toNat (s.get! (p + 2)).toNat (s.get! (p + 3)).toNat
    rcases hk with ⟨c, e⟩ | ⟨c1, c2, c3, cv, e⟩ | ⟨c1, c2, c3, c4, cv, cs, e⟩ | ⟨c1, c2, c3, c4, c5, cv, cw, e⟩ | e
    all_goals rw [e] at h ⊢
    all_goals simp only at h ⊢
    · omega
    · refine ⟨by omega, fun k hk => ?_⟩
      rcases (show k = 0 ∨ k = 1 from by omega) with rfl | rfl <;> (try rw [Nat.add_zero]) <;> omega
    · refine ⟨by omega, fun k hk => ?_⟩
      rcases (show k = 0 ∨ k = 1 ∨ k = 2 from by omega) with rfl | rfl | rfl <;> (try rw [Nat.add_zero]) <;> omega
    · refine ⟨by omega, fun k hk => ?_⟩
      rcases (show k = 0 ∨ k = 1 ∨ k = 2 ∨ k = 3 from by omega) with rfl | rfl | rfl | rfl <;> (try rw [Nat.add_zero]) <;> omega
    · refine ⟨by omega, fun k hk => ?_⟩
      obtain rfl : k = 0 := by omega
      rw [Nat.add_zero]
      refine Classical.byContradiction fun hb => ?_
      have := Lib.decodeN_ascii (s.size - p) (s.get! p).toNat (s.get! (p + 1)).toNat (s.get! (p + 2)).toNat (s.get! (p + 3)).toNat (by omega)
      rw [this] at e
      have := congrArg Prod.fst e
      simp only at this
      omega
  refine ⟨key.1, ((L s).drop p).take (wd s p), ?_, ?_, ?_, ?_⟩
  · intro e
    have := congrArg List.length e
    rw [List.length_take, List.length_drop, L_length, List.length_nil] at this
    omega
  · intro b hb
    obtain ⟨k, hk⟩ := List.getElem?_of_mem hb
    rw [List.getElem?_take] at hk
    split at hk
    · rename_i hkw
      rw [List.getElem?_drop] at hk
      have h1 := key.2 k hkw
      have h2 : p + k < s.size := by omega
      rw [get_L s (p + k) h2] at hk
      have g2 : s.get! (p + k) = s[p + k]'h2 := Go.get_at s (p + k) h2
      rw [g2] at h1
      rw [← Option.some.inj hk]
      exact h1
    · cases hk
  · rw [List.length_take, List.length_drop, L_length]; omega
  · rw [← List.drop_drop, List.take_append_drop]
/-- One sign of the walk over the pieces. -/
theorem goP_step (s : ByteArray) (p : Nat) (hp : p < s.size) (sl : Bool) (cur : List UInt8) :
    goP ((L s).drop p) sl cur = if sl = false ∧ rn s p = 44 then cur :: goP ((L s).drop (p + wd s p)) false [] else goP ((L s).drop (p + wd s p)) (!sl && decide (rn s p = 92)) (cur ++ ((L s).drop p).take (wd s p)) := by
  by_cases h : rn s p < 128
  · obtain ⟨e1, e2⟩ := dec_low s p hp h
    rw [e1, e2]
    simp only [List.take_succ_cons, List.take_zero]
    have hb : ∀ n : Nat, n < 128 → (UInt8.ofNat (rn s p) = UInt8.ofNat n ↔ rn s p = n) := by
      intro n hn
      constructor
      · intro e
        have := congrArg UInt8.toNat e
        simp at this
        omega
      · intro e; rw [e]
    cases sl with
    | true => simp [goP_true]
    | false =>
      by_cases h1 : rn s p = 92
      · rw [h1]; simp [goP]
      · by_cases h2 : rn s p = 44
        · rw [h2]; simp [goP]
        · rw [goP_plain _ _ (fun e => h1 ((hb 92 (by omega)).1 e)) (fun e => h2 ((hb 44 (by omega)).1 e))]
          simp [h1, h2]
  · obtain ⟨h1, x, hx, hh, hxl, he⟩ := dec_high s p hp (by omega)
    have n1 : ¬ rn s p = 44 := by omega
    have n2 : ¬ rn s p = 92 := by omega
    rw [he, goP_high2 x _ cur sl hx hh, if_neg (fun q => n1 q.2)]
    have e3 : (x ++ (L s).drop (p + wd s p)).take (wd s p) = x := by rw [← hxl, List.take_left]
    rw [e3]
    simp [n2]
end Go.Proofs.YtccdnmachpepcaaDoor.FsS

set_option linter.unusedSimpArgs false
set_option linter.unusedVariables false
namespace Go.Proofs.YtccdnmachpepcaaDoor.FsT
open Go Go.RowKit Go.Proofs.YtccdnmachpepcaaDoor.FuM Go.Proofs.YtccdnmachpepcaaDoor.FuV Go.Proofs.YtccdnmachpepcaaDoor.FsP Go.Proofs.YtccdnmachpepcaaDoor.FsS Go.Proofs.YtccdnmachpepcaaDoorW.PrintWords Go.Proofs.YtccdnmachpepcaaDoorW.PrintLast
def ok1 (g : Nat) (k : Nat) : Prop := k ≠ g
abbrev Row (w : World) (base : Nat) (ok : Nat → Prop) (v : Value) (l : List ByteArray) : Prop := Kd.string.R 9 w base ok v l
theorem goP_split (s : ByteArray) (p q st : Nat) (h1 : st ≤ p) (h2 : p ≤ q) (hq : q ≤ s.size) : ((L s).drop st).take (p - st) ++ ((L s).drop p).take (q - p) = ((L s).drop st).take (q - st) := by
  have e : (L s).drop p = ((L s).drop st).drop (p - st) := by rw [List.drop_drop]; congr 1; omega
  rw [e, ← List.take_add]
  congr 1
  omega
def B (l : List UInt8) : ByteArray := ⟨l.toArray⟩
theorem ext_B (s : ByteArray) (st p : Nat) : s.extract st p = B (((L s).drop st).take (p - st)) := by
  unfold B
  have : (s.extract st p).data.toList = ((L s).drop st).take (p - st) := Lib.extract_data s st p
  rw [← this]
theorem ext_B2 (s : ByteArray) (st : Nat) : s.extract st s.size = B ((L s).drop st) := by
  have : (s.extract st s.size).data.toList = (L s).drop st := Lib.extract_to_end s st
  unfold B
  rw [← this]
theorem pieces_B (s : ByteArray) (h : ¬ s.size = 0) : pieces s = (goP (L s) false []).map B := by unfold pieces; rw [if_neg h]; rfl
set_option maxHeartbeats 6400000 in
set_option maxRecDepth 100000 in
theorem split_calls (s : ByteArray) (hs : s.size ≤ 1099511627776) (w : World) :
    Calls Tryd.prog 25 #[.string s] w fun e w' => ∃ v : Value, e = .returned v ∧ Row w' w.heap.size (fun _ => True) v (pieces s) ∧ Below w.heap.size w w' := by
  by_cases h0 : s.size = 0
  · have hp : pieces s = [] := by unfold pieces; rw [if_pos h0]
    have h0b : ((s.size : Int) == 0) = true := by rw [h0]; rfl
    rw [hp]
    clear hp
    replace h0 := Aside0.mk h0
    go_enter Tryd.func25, Tryd.ntmps25
    go_wp2_with fail
    go_ret
    exact ⟨_, rfl, Kd.R_nil _ _ _ _ _, Below.refl _ _⟩
  have h0b : ((s.size : Int) == 0) = false := beq_eq_false_iff_ne.mpr (by omega)
  have hmk : (Instr.makeSlice 43 (.int .i64 0) (.int .i64 1)).run Tryd.prog w = .ok (.slice (some ⟨w.heap.size, 0, none⟩) 0 1) (w.alloc (.cells (madeCells #[.string ⟨#[]⟩] 1) 9)) :=
    run_make_room (P := Tryd.prog) 43 9 (.string ⟨#[]⟩) 16 Tryd.underlying43 (by kernel_rfl) rfl .i64 .i64 1 (by omega) (by omega) w
  obtain ⟨w1, hw1⟩ : ∃ w1, w1 = w.alloc (.cells (madeCells #[.string ⟨#[]⟩] 1) 9) := ⟨_, rfl⟩
  have hs1 : w1.heap.size = w.heap.size + 1 := by rw [hw1]; simp
  have hR1 : Row w1 w.heap.size (ok1 w1.heap.size) (.slice (some ⟨w.heap.size, 0, none⟩) 0 1) [] := by
    rw [hs1, hw1]
    exact R_room Kd.string _ w _ _ 1 (by decide) rfl (by unfold ok1; omega)
  have hB1 : Below w.heap.size w w1 := by rw [hw1]; exact below_alloc (Below.refl _ _) _
  rw [← hw1] at hmk
  clear hw1
  replace hs1 := Aside0.mk hs1
  replace hR1 := Aside0.mk hR1
  replace hB1 := Aside0.mk hB1
  replace h0 := Aside0.mk h0
  go_enter Tryd.func25, Tryd.ntmps25
  go_wp2_with fail
  clear hmk
  go_loopw [3, 4, 5] (fun v st sl wr => ∃ (pos stn : Nat) (b : Bool) (out : List ByteArray), st = .int .i64 (stn : Int) ∧ sl = .bool b ∧ pos ≤ s.size ∧ stn ≤ pos ∧ out.length ≤ pos ∧ Aside0 (wr.heap[w1.heap.size]? = some (.stringIter s pos)) ∧ Aside0 (Below w.heap.size w wr) ∧ Aside0 (Row wr w.heap.size (ok1 w1.heap.size) v out) ∧ Aside0 (out ++ (goP ((L s).drop pos) b (((L s).drop stn).take (pos - stn))).map B = (goP (L s) false []).map B)) (fun _ _ _ wr => s.size - wr.iterPos w1.heap.size)
  case atStart =>
    exact ⟨0, 0, false, [], rfl, rfl, by omega, by omega, by simp, ⟨World.iter_heap w1 s 0⟩, ⟨below_alloc hB1.out _⟩, ⟨Kd.R_below hR1.out (below_alloc (Below.refl _ _) _)⟩, ⟨by simp⟩⟩
  case round =>
    obtain ⟨pos, stn, b, out, rfl, rfl, hps, hsp, hol, hit, hB, hR, hG⟩ := hrel
    obtain ⟨A, cp, rfl⟩ := Kd.R_slice hR.out
    by_cases hp : pos < s.size
    · have hnx : ∀ ty, (Instr.next (.pointer (some ⟨w1.heap.size, 0, none⟩)) true ty).run Tryd.prog wr = _ := fun ty => Lib.run_next_any_at wr w1.heap.size s pos ty hit.out hp
      have hsz : w1.heap.size < wr.heap.size := (Array.getElem?_eq_some_iff.1 hit.out).1
      have hw := wd_pos s pos
      have hwe : pos + wd s pos ≤ s.size := by
        by_cases h : rn s pos < 128
        · rw [(dec_low s pos hp h).1]; omega
        · exact (dec_high s pos hp (by omega)).1
      obtain ⟨W2, hW2⟩ : ∃ W2, W2 = wr.iterAt w1.heap.size s (pos + (Utf8.decode s pos).2) := ⟨_, rfl⟩
      have hit2 : W2.heap[w1.heap.size]? = some (.stringIter s (pos + wd s pos)) := by rw [hW2]; exact Lib.iterAt_heap wr _ s pos _ hit.out
      have hB2 : Below w.heap.size w W2 := by rw [hW2]; exact Lib.below_iterAt hB.out (by rw [hs1.out]; omega) s _
      have hR2 : Row W2 w.heap.size (ok1 w1.heap.size) (.slice A out.length cp) out := by rw [hW2]; exact Kd.R_move hR.out (fun k hk => iter_other _ _ _ _ _ hk)
      have hsz2 : w1.heap.size < W2.heap.size := (Array.getElem?_eq_some_iff.1 hit2).1
      rw [← hW2] at hnx
      obtain ⟨c, hc⟩ : ∃ c, c = rn s pos := ⟨_, rfl⟩
      have hc2 : (Utf8.decode s pos).1 = c := hc.symm
      rw [hc2] at hnx
      have hst := goP_step s pos hp b (((L s).drop stn).take (pos - stn))
      have hcur := goP_split s pos (pos + wd s pos) stn hsp (by omega) hwe
      rw [show pos + wd s pos - pos = wd s pos from by omega] at hcur
      rw [hcur, ← hc] at hst
      have hG2 := hG.out
      rw [hst] at hG2
      have hit0 := Aside0.mk hit.out
      clear hst hcur hG hit hB hR
      replace hG2 := Aside0.mk hG2
      replace hW2 := Aside0.mk hW2
      replace hit2 := Aside0.mk hit2
      replace hB2 := Aside0.mk hB2
      replace hR2 := Aside0.mk hR2
      replace hc := Aside0.mk hc
      replace hc2 := Aside0.mk hc2
      have q1 : (0 : Int) ≤ (stn : Int) := by omega
      have q2 : (stn : Int) ≤ (pos : Int) := by omega
      have q3 : (pos : Int) ≤ (s.size : Int) := by omega
      have hw2 := Aside0.mk hw
      have hlt := Aside0.mk hsz2
      have hol2 := Aside0.mk (show out.length ≤ 1099511627776 by omega)
      have hol3 := Aside0.mk hol
      have hwe2 := Aside0.mk hwe
      have hsp2 := Aside0.mk hsp
      clear hw hsz2 hol hwe hsz
      cases b with
      | true =>
        go_wp2_with fail
        go_roundw
        case rel => exact ⟨pos + wd s pos, stn, false, out, rfl, rfl, hwe2.out, by have := hsp2.out; omega, by have := hol3.out; omega, hit2, hB2, hR2, ⟨by simpa using hG2.out⟩⟩
        case measure =>
          have h3 := hw2.out
          have h4 := hit2.out
          simp only [World.iterPos, h4, hit0.out]
          omega
      | false =>
        by_cases h92 : c = 92
        · have e92 : ((c : Int) == 92) = true := by rw [h92]; rfl
          have hG3 := hG2.out
          rw [if_neg (by rw [h92]; simp), h92] at hG3
          replace hG3 := Aside0.mk hG3
          replace h92 := Aside0.mk h92
          go_wp2_with fail
          go_roundw
          case rel => exact ⟨pos + wd s pos, stn, true, out, rfl, rfl, hwe2.out, by have := hsp2.out; omega, by have := hol3.out; omega, hit2, hB2, hR2, ⟨by simpa using hG3.out⟩⟩
          case measure =>
            have h3 := hw2.out
            have h4 := hit2.out
            simp only [World.iterPos, h4, hit0.out]
            omega
        · have e92 : ((c : Int) == 92) = false := beq_eq_false_iff_ne.mpr (by omega)
          by_cases h44 : c = 44
          · have e44 : ((c : Int) == 44) = true := by rw [h44]; rfl
            have hG3 := hG2.out
            rw [if_pos ⟨rfl, h44⟩] at hG3
            replace hG3 := Aside0.mk hG3
            have hl44 : wd s pos = 1 := (dec_low s pos hp (by rw [← hc.out, h44]; omega)).1
            replace hl44 := Aside0.mk hl44
            replace h44 := Aside0.mk h44
            replace h92 := Aside0.mk h92
            clear hG2
            go_wp2_with (first | ((with_reducible refine gate_builtin (b := .append) (xs := #[.tmp 26, .tmp 31]) rfl ?_); at_builtin; refine Kd.R_append Kd.string (w0 := w) w.heap.size rfl (.tmp 26) (.tmp 31) 43 9 (.string ⟨#[]⟩) 16 rfl Tryd.underlying43 (by kernel_rfl) rfl (by decide) (by omega) (.slice A out.length cp) out (s.extract stn pos) [.string (s.extract stn pos)] (ok1 w1.heap.size) (fun _ => False) rfl rfl ?aP (fun _ hk => hk.elim) ?aF ?aO ?aB ?aS ?aL ?_; (case aP => exact rfl); (case aB => exact hB2.out); (case aF => exact (fun k hk => by have := hlt.out; unfold ok1; omega)); (case aO => exact hR2.out); (case aS => exact below_size hB2.out); (case aL => have := hol2.out; omega); intro v2 w2 ho hb hg hat))
            have hne : some w1.heap.size ≠ (Value.slice A out.length cp).ownBlock := fun e => (hR2.out.1 w1.heap.size e.symm) rfl
            have hit3 := Aside0.mk ((hg.block w1.heap.size hlt.out hne).trans hit2.out)
            replace ho := Aside0.mk ho
            replace hb := Aside0.mk hb
            clear hg hat hne
            go_wp2_with fail
            go_roundw
            case rel => exact ⟨pos + 1, pos + 1, false, out ++ [s.extract stn pos], by go_num, rfl, by have := hwe2.out; have := hl44.out; omega, by omega, by have := hol3.out; simp; omega, ⟨by have := hit3.out; rw [hl44.out] at this; exact this⟩, hb, ho, ⟨by have h := hG3.out; rw [hl44.out] at h; rw [ext_B]; simpa using h⟩⟩
            case measure =>
              have h3 := hl44.out
              have h4 := hit3.out
              simp only [World.iterPos, h4, hit0.out]
              omega
          · have e44 : ((c : Int) == 44) = false := beq_eq_false_iff_ne.mpr (by omega)
            have hG3 := hG2.out
            rw [if_neg (fun q => h44 q.2), decide_eq_false h92] at hG3
            replace hG3 := Aside0.mk hG3
            replace h44 := Aside0.mk h44
            replace h92 := Aside0.mk h92
            go_wp2_with fail
            go_roundw
            case rel => exact ⟨pos + wd s pos, stn, false, out, rfl, rfl, hwe2.out, by have := hsp2.out; omega, by have := hol3.out; omega, hit2, hB2, hR2, ⟨by simpa using hG3.out⟩⟩
            case measure =>
              have h3 := hw2.out
              have h4 := hit2.out
              simp only [World.iterPos, h4, hit0.out]
              omega
    · obtain rfl : pos = s.size := by omega
      have hnx : ∀ ty, (Instr.next (.pointer (some ⟨w1.heap.size, 0, none⟩)) true ty).run Tryd.prog wr = _ := fun ty => Lib.run_next_end_at wr w1.heap.size s s.size ty hit.out (by omega)
      have hlt := Aside0.mk (Array.getElem?_eq_some_iff.1 hit.out).1
      have hol2 := Aside0.mk (show out.length ≤ 1099511627776 by omega)
      have hG2 := hG.out
      rw [List.drop_eq_nil_of_le (by rw [L_length]; exact Nat.le_refl _), List.take_of_length_le (by rw [List.length_drop, L_length]; exact Nat.le_refl _)] at hG2
      have hfin : out ++ [s.extract stn s.size] = pieces s := by
        rw [pieces_B s h0.out, ← hG2, ext_B2]
        simp [goP]
      replace hfin := Aside0.mk hfin
      have q1 : (0 : Int) ≤ (stn : Int) := by omega
      have q2 : (stn : Int) ≤ (s.size : Int) := by omega
      clear hG hG2 hit hol hsp
      go_wp2_with (first | ((with_reducible refine gate_builtin (b := .append) (xs := #[.tmp 35, .tmp 39]) rfl ?_); at_builtin; refine Kd.R_append Kd.string (w0 := w) w.heap.size rfl (.tmp 35) (.tmp 39) 43 9 (.string ⟨#[]⟩) 16 rfl Tryd.underlying43 (by kernel_rfl) rfl (by decide) (by omega) (.slice A out.length cp) out (s.extract stn s.size) [.string (s.extract stn s.size)] (ok1 w1.heap.size) (fun _ => False) rfl rfl ?aP (fun _ hk => hk.elim) ?aF ?aO ?aB ?aS ?aL ?_; (case aP => exact rfl); (case aB => exact hB.out); (case aF => exact (fun k hk => by have := hlt.out; unfold ok1; omega)); (case aO => exact hR.out); (case aS => exact below_size hB.out); (case aL => have := hol2.out; omega); intro v2 w2 ho hb hg hat))
      replace ho := Aside0.mk ho
      replace hb := Aside0.mk hb
      clear hg hat
      go_wp2_with fail
      go_ret
      exact ⟨_, rfl, by rw [← hfin.out]; exact Kd.R_mono ho.out (fun _ _ => trivial), hb.out⟩
end Go.Proofs.YtccdnmachpepcaaDoor.FsT
