/- Numbers as bytes, seven bits a byte, the lowest first: their lengths, their bytes, what is read of them. -/
import Derived.Laws.BitsAllLaws
import Derived.Laws.BitsLemmas
import Derived.RowKit
namespace Go.Proofs.YtmkpkpkcoieeiabDoor.IsM
open Go

/-- A number's bytes. -/
def vb (v : Nat) : List Nat := if h : v < 128 then [v] else (v % 128 + 128) :: vb (v / 128)
termination_by v
decreasing_by omega
theorem vb_lt {v : Nat} (h : v < 128) : vb v = [v] := by rw [vb, dif_pos h]
theorem vb_ge {v : Nat} (h : ¬ v < 128) : vb v = (v % 128 + 128) :: vb (v / 128) := by rw [vb, dif_neg h]
def vl (v : Nat) : Nat := (vb v).length
theorem vl_lt {v : Nat} (h : v < 128) : vl v = 1 := by rw [vl, vb_lt h]; rfl
theorem vl_ge {v : Nat} (h : ¬ v < 128) : vl v = vl (v / 128) + 1 := by rw [vl, vb_ge h]; rfl
theorem vl_pos (v : Nat) : 0 < vl v := by
  by_cases h : v < 128
  · rw [vl_lt h]; omega
  · rw [vl_ge h]; omega
/-- The byte at a place. -/
def by_ (v j : Nat) : Nat := if v / 128 ^ (j + 1) = 0 then v / 128 ^ j % 128 else v / 128 ^ j % 128 + 128
theorem div_pow (v j : Nat) : v / 128 ^ (j + 1) = v / 128 / 128 ^ j := by
  rw [Nat.pow_succ, Nat.mul_comm, Nat.div_div_eq_div_mul]
theorem vb_get : ∀ (j v : Nat), j < vl v → (vb v)[j]? = some (by_ v j)
  | 0, v, _ => by
    unfold by_
    by_cases h : v < 128
    · rw [vb_lt h, if_pos (by simp; omega)]; simp; omega
    · rw [vb_ge h, if_neg (by simp; omega)]; simp
  | j + 1, v, hj => by
    by_cases h : v < 128
    · rw [vl_lt h] at hj; omega
    · rw [vl_ge h] at hj
      rw [vb_ge h, List.getElem?_cons_succ, vb_get j (v / 128) (by omega)]
      unfold by_
      rw [div_pow v (j + 1), div_pow v j]
theorem vl_end : ∀ (j v : Nat), j < vl v → (v / 128 ^ (j + 1) = 0 ↔ j + 1 = vl v)
  | 0, v, _ => by
    by_cases h : v < 128
    · rw [vl_lt h]; simp; omega
    · rw [vl_ge h]; have := vl_pos (v / 128); simp; omega
  | j + 1, v, hj => by
    by_cases h : v < 128
    · rw [vl_lt h] at hj; omega
    · rw [vl_ge h] at hj ⊢
      rw [div_pow, vl_end j (v / 128) (by omega)]
      omega
theorem vl_le : ∀ (m v : Nat), v < 128 ^ (m + 1) → vl v ≤ m + 1
  | 0, v, h => by rw [vl_lt (by omega)]; omega
  | m + 1, v, h => by
    by_cases h1 : v < 128
    · rw [vl_lt h1]; omega
    · rw [vl_ge h1]
      have : v / 128 < 128 ^ (m + 1) := by
        rw [Nat.div_lt_iff_lt_mul (by omega)]
        rw [Nat.pow_succ] at h
        exact h
      have := vl_le m (v / 128) this
      omega
theorem vl_10 {v : Nat} (h : v < 18446744073709551616) : vl v ≤ 10 := vl_le 9 v (by omega)
theorem by_lt (v j : Nat) : by_ v j < 256 := by unfold by_; split <;> omega
theorem by_mod (v j : Nat) : by_ v j % 128 = v / 128 ^ j % 128 := by unfold by_; split <;> omega
theorem by_end {v j : Nat} (h : j < vl v) : by_ v j < 128 ↔ j + 1 = vl v := by
  rw [← vl_end j v h]; unfold by_
  split
  · rename_i h1; simp [h1]; omega
  · rename_i h1; simp [h1]
theorem acc_step (v j : Nat) : v % 128 ^ j ||| ((v / 128 ^ j % 128) <<< (7 * j)) = v % 128 ^ (j + 1) := by
  have e : (128 : Nat) ^ j = 2 ^ (7 * j) := by rw [Nat.pow_mul]
  have h1 : v % 128 ^ j < 2 ^ (7 * j) := by rw [← e]; exact Nat.mod_lt _ (Nat.pow_pos (by omega))
  rw [Nat.or_comm, ← Nat.shiftLeft_add_eq_or_of_lt h1, Nat.shiftLeft_eq, ← e, Nat.pow_succ, Nat.mod_mul]
  rw [Nat.mul_comm, Nat.add_comm]
theorem acc_end {v j : Nat} (h : j < vl v) (he : j + 1 = vl v) : v % 128 ^ (j + 1) = v := by
  have := (vl_end j v h).2 he
  rw [Nat.mod_eq_of_lt]
  rwa [Nat.div_eq_zero_iff_lt (Nat.pow_pos (by omega))] at this

/-- A value's bytes: field 1, field 2, field 3. -/
def wire (x y : Nat) (s : List Nat) : List Nat := [8] ++ vb x ++ [16] ++ vb y ++ [26] ++ vb s.length ++ s
def p1 (x : Nat) : Nat := 1 + vl x
def p2 (x y : Nat) : Nat := p1 x + 1 + vl y
def p3 (x y : Nat) (n : Nat) : Nat := p2 x y + 1 + vl n
theorem wire_length (x y : Nat) (s : List Nat) : (wire x y s).length = p3 x y s.length + s.length := by
  simp [wire, p1, p2, p3, vl]; omega
theorem wire_0 (x y : Nat) (s : List Nat) : (wire x y s)[0]? = some 8 := by simp [wire]
theorem get_mid {α : Type} {a b c : List α} {j : Nat} (h : j < b.length) : (a ++ b ++ c)[a.length + j]? = b[j]? := by
  rw [List.append_assoc, List.getElem?_append_right (by omega), Nat.add_sub_cancel_left, List.getElem?_append_left h]
theorem wire_x (x y : Nat) (s : List Nat) (j : Nat) (h : j < vl x) : (wire x y s)[1 + j]? = some (by_ x j) := by
  have := get_mid (a := [8]) (b := vb x) (c := [16] ++ vb y ++ [26] ++ vb s.length ++ s) h
  rw [vb_get j x h] at this
  rw [← this]; simp [wire]
theorem wire_1 (x y : Nat) (s : List Nat) : (wire x y s)[p1 x]? = some 16 := by
  have := get_mid (a := [8] ++ vb x) (b := [16]) (c := vb y ++ [26] ++ vb s.length ++ s) (j := 0) (by simp)
  rw [← show (some 16 : Option Nat) = [16][0]? from rfl] at this
  rw [← this, p1, vl]; simp [wire, Nat.add_comm]
theorem wire_y (x y : Nat) (s : List Nat) (j : Nat) (h : j < vl y) : (wire x y s)[p1 x + 1 + j]? = some (by_ y j) := by
  have := get_mid (a := [8] ++ vb x ++ [16]) (b := vb y) (c := [26] ++ vb s.length ++ s) h
  rw [vb_get j y h] at this
  rw [← this, p1, vl]; simp [wire, Nat.add_comm]
theorem wire_2 (x y : Nat) (s : List Nat) : (wire x y s)[p2 x y]? = some 26 := by
  have := get_mid (a := [8] ++ vb x ++ [16] ++ vb y) (b := [26]) (c := vb s.length ++ s) (j := 0) (by simp)
  rw [← show (some 26 : Option Nat) = [26][0]? from rfl] at this
  rw [show p2 x y = ([8] ++ vb x ++ [16] ++ vb y).length + 0 by simp [p2, p1, vl]; omega, show wire x y s = [8] ++ vb x ++ [16] ++ vb y ++ [26] ++ (vb s.length ++ s) by simp [wire]]
  exact this
theorem wire_z (x y : Nat) (s : List Nat) (j : Nat) (h : j < vl s.length) : (wire x y s)[p2 x y + 1 + j]? = some (by_ s.length j) := by
  have := get_mid (a := [8] ++ vb x ++ [16] ++ vb y ++ [26]) (b := vb s.length) (c := s) h
  rw [vb_get j s.length h] at this
  rw [show p2 x y + 1 + j = ([8] ++ vb x ++ [16] ++ vb y ++ [26]).length + j by simp [p2, p1, vl]; omega, show wire x y s = [8] ++ vb x ++ [16] ++ vb y ++ [26] ++ vb s.length ++ s by simp [wire]]
  exact this
theorem wire_s (x y : Nat) (s : List Nat) : (wire x y s).drop (p3 x y s.length) = s := by
  have : wire x y s = ([8] ++ vb x ++ [16] ++ vb y ++ [26] ++ vb s.length) ++ s := rfl
  rw [this, List.drop_left']
  simp [p1, p2, p3, vl]; omega
end Go.Proofs.YtmkpkpkcoieeiabDoor.IsM
