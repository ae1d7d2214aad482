/- A value read back from its bytes, cut anywhere: a reading of the bytes alone says the same as the place of the cut. -/
import Derived.Test.YtmkpkpkcoieeiabDoorIsF
set_option linter.unusedVariables false
namespace Go.Proofs.YtmkpkpkcoieeiabDoor.IsD
open Go Go.RowKit Go.Proofs.YtmkpkpkcoieeiabDoorW.PrintWords Go.Proofs.YtmkpkpkcoieeiabDoor.IsM Go.Proofs.YtmkpkpkcoieeiabDoor.IsB Go.Proofs.YtmkpkpkcoieeiabDoor.IsP Go.Proofs.YtmkpkpkcoieeiabDoor.IsU Go.Proofs.YtmkpkpkcoieeiabDoor.IsF
/-- A number at the head of bytes. -/
def rdv : List Int → Option (Nat × List Int)
  | [] => none
  | b :: r => if b < 128 then some (b.toNat, r) else (rdv r).map fun q => (b.toNat - 128 + 128 * q.1, q.2)
theorem rdv_vi : ∀ (m v : Nat), v ≤ m → ∀ R, rdv (vi v ++ R) = some (v, R) := by
  intro m
  induction m with
  | zero =>
    intro v hm R
    obtain rfl : v = 0 := by omega
    rw [vi_lt (by omega)]; rfl
  | succ m ih =>
    intro v hm R
    by_cases h : v < 128
    · rw [vi_lt h]; show (if (v : Int) < 128 then _ else _) = _; rw [if_pos (by omega)]; simp
    · rw [vi_ge h]
      show (if (((v % 128 + 128 : Nat) : Int)) < 128 then _ else (rdv (vi (v / 128) ++ R)).map _) = _
      rw [if_neg (by omega), ih (v / 128) (by omega)]
      simp; omega
theorem rdv_cut : ∀ (m v : Nat), v ≤ m → ∀ j, j < vl v → rdv ((vi v).take j) = none := by
  intro m
  induction m with
  | zero =>
    intro v hm j hj
    rw [vl_lt (by omega)] at hj
    obtain rfl : j = 0 := by omega
    rfl
  | succ m ih =>
    intro v hm j hj
    cases j with
    | zero => rfl
    | succ j =>
      by_cases h : v < 128
      · rw [vl_lt h] at hj; omega
      · rw [vl_ge h] at hj
        rw [vi_ge h, List.take_succ_cons]
        show (if (((v % 128 + 128 : Nat) : Int)) < 128 then _ else (rdv ((vi (v / 128)).take j)).map _) = _
        rw [if_neg (by omega), ih (v / 128) (by omega) j (by omega)]; rfl
def txt (l : List Int) : ByteArray := ⟨(l.map fun x => x.toNat.toUInt8).toArray⟩
theorem txt_bytes (S : ByteArray) : txt (bytesOf S) = S := by
  cases S with
  | mk d =>
    unfold txt bytesOf
    congr 1
    apply Array.ext'
    simp
    exact (List.map_congr_left (g := id) (fun a _ => by simp)).trans (List.map_id _)
def d3 (T I : Int) (r : List Int) : Option (Int × Int × ByteArray) := match rdv r with
  | none => none
  | some (z, q) => if q.length = z then some (T, I, txt q) else none
def d2 (T : Int) (r : List Int) : Option (Int × Int × ByteArray) := match rdv r with
  | none => none
  | some (y, []) => some (T, IntKind.i32.wrap (y : Int), E0)
  | some (y, _ :: q) => d3 T (IntKind.i32.wrap (y : Int)) q
def d1 (r : List Int) : Option (Int × Int × ByteArray) := match rdv r with
  | none => none
  | some (x, []) => some (IntKind.i64.wrap (x : Int), 0, E0)
  | some (x, _ :: q) => d2 (IntKind.i64.wrap (x : Int)) q
/-- A value of bytes; none: an error. -/
def dec : List Int → Option (Int × Int × ByteArray)
  | [] => some (0, 0, E0)
  | _ :: r => d1 r
theorem WL_eq (x y : Nat) (S : ByteArray) : WL x y S = 8 :: (vi x ++ 16 :: (vi y ++ 26 :: (vi S.size ++ bytesOf S))) := by
  simp [WL, wire, vi, bytesOf]
theorem take_app {α : Type} (a b : List α) (n : Nat) (h : a.length ≤ n) : (a ++ b).take n = a ++ b.take (n - a.length) := by
  rw [List.take_append, List.take_of_length_le h]
theorem dec_eq (x y : Nat) (S : ByteArray) (n : Nat) (hn : n ≤ p3 x y S.size + S.size) : dec ((WL x y S).take n) = Res x y (S.data.toList.map (·.toNat)) S n := by
  have hl : (S.data.toList.map (·.toNat)).length = S.size := by simp
  have a1 := vl_pos x
  have a2 := vl_pos y
  have a3 := vl_pos S.size
  rw [WL_eq]
  rcases Nat.eq_zero_or_pos n with h0 | h0
  · subst h0; simp [dec, Res]
  obtain ⟨m, rfl⟩ : ∃ m, n = m + 1 := ⟨n - 1, by omega⟩
  rw [List.take_succ_cons]
  show d1 _ = _
  unfold d1
  by_cases h1 : m < vl x
  · rw [List.take_append_of_le_length (by rw [vi_length]; omega), rdv_cut x x (Nat.le_refl _) m h1, res_0 (by omega) (by unfold p1; omega)]
  rw [take_app _ _ _ (by rw [vi_length]; omega), vi_length, rdv_vi x x (Nat.le_refl _)]
  rcases Nat.eq_or_lt_of_le (Nat.le_of_not_lt h1) with h2 | h2
  · rw [← h2, Nat.sub_self]
    simp only [List.take_zero]
    unfold Res
    rw [if_neg (by omega), if_pos (by unfold p1; omega)]
  obtain ⟨m2, hm2⟩ : ∃ m2, m - vl x = m2 + 1 := ⟨m - vl x - 1, by omega⟩
  rw [hm2, List.take_succ_cons]
  show d2 _ _ = _
  unfold d2
  by_cases h3 : m2 < vl y
  · rw [List.take_append_of_le_length (by rw [vi_length]; omega), rdv_cut y y (Nat.le_refl _) m2 h3, res_1 (by unfold p1; omega) (by unfold p2 p1; omega)]
  rw [take_app _ _ _ (by rw [vi_length]; omega), vi_length, rdv_vi y y (Nat.le_refl _)]
  rcases Nat.eq_or_lt_of_le (Nat.le_of_not_lt h3) with h4 | h4
  · rw [← h4, Nat.sub_self]
    simp only [List.take_zero]
    unfold Res
    rw [if_neg (by omega), if_neg (by unfold p1; omega), if_pos (by unfold p2 p1; omega)]
  obtain ⟨m3, hm3⟩ : ∃ m3, m2 - vl y = m3 + 1 := ⟨m2 - vl y - 1, by omega⟩
  rw [hm3, List.take_succ_cons]
  show d3 _ _ _ = _
  unfold d3
  by_cases h5 : m3 < vl S.size
  · rw [List.take_append_of_le_length (by rw [vi_length]; omega), rdv_cut S.size S.size (Nat.le_refl _) m3 h5, res_2 (by unfold p2 p1; omega) (by rw [hl]; unfold p3 p2 p1; omega)]
  rw [take_app _ _ _ (by rw [vi_length]; omega), vi_length, rdv_vi S.size S.size (Nat.le_refl _)]
  simp only []
  rw [List.length_take, bytesOf_length]
  by_cases h6 : m3 - vl S.size < S.size
  · rw [if_neg (by omega), res_2 (by unfold p2 p1; omega) (by rw [hl]; unfold p3 p2 p1; omega)]
  · rw [if_pos (by omega), List.take_of_length_le (by rw [bytesOf_length]; omega), txt_bytes]
    unfold Res
    rw [hl, if_neg (by omega), if_neg (by unfold p1; omega), if_neg (by unfold p2 p1; omega), if_pos (by unfold p3 p2 p1 at *; omega)]
end Go.Proofs.YtmkpkpkcoieeiabDoor.IsD
