/- Strings as lists of bytes: lengths, cuts, sums, one byte; the first place of a byte. -/
import Derived.Test.YtccdnmachpepcaaDoorEv
import Derived.Lib.IndexBytes
import Derived.Lib.SmallJoins
import Derived.Lib.Strings
import Derived.WideShapes
namespace Go.Proofs.YtccdnmachpepcaaDoor.Str
open Go.RowKit Go.Proofs.YtccdnmachpepcaaDoorW.PrintWords Go.Proofs.YtccdnmachpepcaaDoor.EvL

/-- A string's bytes. -/
def L (s : ByteArray) : List UInt8 := s.data.toList

theorem L_inj {a b : ByteArray} (h : L a = L b) : a = b := Go.WideShapes.bytes_inj h
theorem size_L (s : ByteArray) : s.size = (L s).length := by unfold L; simp
theorem L_append (a b : ByteArray) : L (a ++ b) = L a ++ L b := by unfold L; exact Go.Joins.data_append a b
theorem L_extract (s : ByteArray) (a b : Nat) : L (s.extract a b) = ((L s).drop a).take (b - a) := by unfold L; exact Lib.extract_data s a b
theorem L_upto (s : ByteArray) (b : Nat) : L (s.extract 0 b) = (L s).take b := by rw [L_extract]; simp
theorem L_from (s : ByteArray) (a : Nat) : L (s.extract a s.size) = (L s).drop a := by unfold L; exact Lib.extract_to_end s a
theorem L_mk (l : List UInt8) : L (⟨l.toArray⟩ : ByteArray) = l := by unfold L; simp
theorem L_nil : L (⟨#[]⟩ : ByteArray) = [] := rfl
theorem size_nil : (⟨#[]⟩ : ByteArray).size = 0 := rfl
theorem L_of (s : ByteArray) : s = ⟨(L s).toArray⟩ := L_inj (L_mk (L s)).symm
theorem toList_L (s : ByteArray) : s.toList = L s := by unfold L; exact ByteArray.toList_eq s

theorem bt_L (s : ByteArray) (i : Nat) (h : i < (L s).length) : bt s (i : Int) = (((L s)[i]'h).toNat : Int) := by
  unfold bt
  rw [dif_pos (by rw [size_L]; simpa using h)]
  rfl

theorem byte_eq {a b : UInt8} : ((a.toNat : Int) = (b.toNat : Int)) ↔ a = b := by
  constructor
  · intro h; exact UInt8.toNat_inj.1 (by omega)
  · rintro rfl; rfl

/-- The first place of a byte; -1: none. -/
def place (l : List UInt8) (c : UInt8) : Int := if c ∈ l then (l.idxOf c : Int) else -1

theorem idx_cons {a c : UInt8} (l : List UInt8) (h : ¬ a = c) : (a :: l).idxOf c = l.idxOf c + 1 := by
  have hb : (a == c) = false := by simpa using h
  rw [List.idxOf_cons, hb]; rfl

theorem place_cons (a : UInt8) (l : List UInt8) (c : UInt8) : place (a :: l) c = if a = c then 0 else if place l c = -1 then -1 else place l c + 1 := by
  unfold place
  by_cases h : a = c
  · subst h; simp
  · have h2 : ¬ c = a := fun e => h e.symm
    rw [idx_cons l h]
    by_cases hm : c ∈ l
    · have h3 : ¬ ((l.idxOf c : Int) = -1) := by omega
      simp only [List.mem_cons, h2, false_or, hm, if_true, h, if_false, h3]
      omega
    · simp [h, h2, hm]

theorem place_neg {l : List UInt8} {c : UInt8} (h : c ∉ l) : place l c = -1 := by unfold place; rw [if_neg h]

theorem place_split {l m : List UInt8} {c : UInt8} (h : c ∉ l) : place (l ++ c :: m) c = (l.length : Int) := by
  induction l with
  | nil => simp [place_cons]
  | cons a l ih =>
    have h1 : ¬ a = c := fun e => h (by simp [e])
    have h2 : c ∉ l := fun e => h (by simp [e])
    rw [List.cons_append, place_cons, if_neg h1, ih h2, if_neg (by omega)]
    simp

theorem place_cases (l : List UInt8) (c : UInt8) : (c ∉ l ∧ place l c = -1) ∨ ∃ a b, l = a ++ c :: b ∧ c ∉ a ∧ place l c = (a.length : Int) := by
  by_cases h : c ∈ l
  · obtain ⟨a, b, e, hn⟩ := List.mem_iff_append.1 h |> fun ⟨a, b, e⟩ => (⟨l.take (l.idxOf c), l.drop (l.idxOf c + 1), by
        have hlt := List.idxOf_lt_length_of_mem h
        have := List.getElem_idxOf hlt
        conv => lhs; rw [← List.take_append_drop (l.idxOf c) l, List.drop_eq_getElem_cons hlt, this], by
        intro hm
        obtain ⟨i, hi, he⟩ := List.mem_iff_getElem.1 hm
        rw [List.length_take] at hi
        have h2 := List.not_of_lt_findIdx (p := (· == c)) (xs := l) (i := i) (by unfold List.idxOf at hi; omega)
        rw [List.getElem_take] at he
        simp [he] at h2⟩ : ∃ a b, l = a ++ c :: b ∧ c ∉ a)
    exact .inr ⟨a, b, e, hn, by rw [e]; exact place_split hn⟩
  · exact .inl ⟨h, place_neg h⟩

theorem place_ge (l : List UInt8) (c : UInt8) : -1 ≤ place l c := by unfold place; split <;> omega

theorem place_shift (i : Nat) (p : Int) (h : -1 ≤ p) : (if (if p = -1 then -1 else p + 1) = -1 then -1 else (i : Int) + (if p = -1 then -1 else p + 1)) = if p = -1 then -1 else ((i + 1 : Nat) : Int) + p := by
  by_cases h1 : p = -1
  · simp [h1]
  · rw [if_neg h1, if_neg h1, if_neg (by omega)]; omega

theorem split_unique {a b a' b' : List UInt8} {c : UInt8} (h : a ++ c :: b = a' ++ c :: b') (ha : c ∉ a) (ha' : c ∉ a') : a = a' ∧ b = b' := by
  have e1 := place_split (m := b) ha
  rw [h, place_split ha'] at e1
  have hl : a.length = a'.length := by omega
  have := List.append_inj h hl
  exact ⟨this.1, by simpa using this.2⟩

end Go.Proofs.YtccdnmachpepcaaDoor.Str
