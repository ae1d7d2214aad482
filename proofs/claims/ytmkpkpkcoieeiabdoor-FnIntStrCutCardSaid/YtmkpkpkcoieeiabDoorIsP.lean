/- The printed encoders in plain words: how long a number is, where its bytes are laid, the reference's bytes. -/
import Derived.Test.YtmkpkpkcoieeiabDoorIsB
import Derived.Test.YtmkpkpkcoieeiabDoorXIsx1
import Derived.Lib.ItoaNum
namespace Go.Proofs.YtmkpkpkcoieeiabDoor.IsP
open Go Go.RowKit Go.Proofs.YtmkpkpkcoieeiabDoor.IsM Go.Proofs.YtmkpkpkcoieeiabDoor.IsB Go.Proofs.YtmkpkpkcoieeiabDoor.XIs Go.Proofs.YtmkpkpkcoieeiabDoorW.PrintWords

theorem vl_hi (v : Nat) : v < 128 ^ vl v := by
  have h := vl_pos v
  have := (vl_end (vl v - 1) v (by omega)).2 (by omega)
  rw [show vl v - 1 + 1 = vl v by omega, Nat.div_eq_zero_iff_lt (Nat.pow_pos (by omega))] at this
  exact this
theorem vl_lo (v : Nat) (h : 1 < vl v) : 128 ^ (vl v - 1) ≤ v := by
  by_cases h1 : v < 128 ^ (vl v - 1)
  · have := (vl_end (vl v - 1 - 1) v (by omega)).1 (by rw [show vl v - 1 - 1 + 1 = vl v - 1 by omega]; exact Nat.div_eq_of_lt h1)
    omega
  · omega
theorem pow7 (m : Nat) : (128 : Nat) ^ m = 2 ^ (7 * m) := by rw [Nat.pow_mul]
theorem bl (v : Nat) (hv : v < 18446744073709551616) : (Lib.bitLen (v ||| 1) + 6) / 7 = vl v := by
  have hp := vl_pos v
  have h1 : v ≤ v ||| 1 := Nat.left_le_or
  have h0 : (v ||| 1) ≠ 0 := by
    have : 1 ≤ v ||| 1 := Nat.right_le_or
    omega
  have hx : v ||| 1 < 2 ^ 64 := Nat.or_lt_two_pow hv (by omega)
  obtain ⟨b1, b2, b3⟩ := Lib.bitLenAux_bounds 64 (v ||| 1) hx h0
  change 1 ≤ Lib.bitLen (v ||| 1) at b1
  change 2 ^ (Lib.bitLen (v ||| 1) - 1) ≤ v ||| 1 at b2
  change v ||| 1 < 2 ^ Lib.bitLen (v ||| 1) at b3
  have hh := vl_hi v
  rw [pow7] at hh
  have hh2 : v ||| 1 < 2 ^ (7 * vl v) := Nat.or_lt_two_pow hh (by
    have : 2 ^ 1 ≤ 2 ^ (7 * vl v) := Nat.pow_le_pow_right (by omega) (by omega)
    omega)
  have c1 : Lib.bitLen (v ||| 1) - 1 < 7 * vl v := (Nat.pow_lt_pow_iff_right (by omega)).1 (Nat.lt_of_le_of_lt b2 hh2)
  by_cases hm : 1 < vl v
  · have hl := vl_lo v hm
    rw [pow7] at hl
    have c2 : 7 * (vl v - 1) < Lib.bitLen (v ||| 1) := (Nat.pow_lt_pow_iff_right (a := 2) (by omega)).1 (by omega)
    omega
  · omega
theorem or1 (v : Nat) (hv : v < 18446744073709551616) : bits .or .u64 (v : Int) 1 = ((v ||| 1 : Nat) : Int) := Go.u64_or_nat v 1 hv (by omega)
theorem bl64 (v : Nat) (hv : v < 18446744073709551616) : Lib.bitLen (v ||| 1) ≤ 64 := by
  have hx : v ||| 1 < 2 ^ 64 := Nat.or_lt_two_pow hv (by omega)
  exact Lib.bitLen_le (v ||| 1) 64 (by omega) (by first | omega | exact hx)
theorem sov_ev (k v : Nat) (hv : v < 18446744073709551616) : intstr_sovGenerated.f k (v : Int) = some ((vl v : Nat) : Int) := by
  have hx : v ||| 1 < 2 ^ 64 := Nat.or_lt_two_pow hv (by omega)
  have hb := bl v hv
  have hb64 := bl64 v hv
  unfold intstr_sovGenerated.f bits_Len64.f
  rw [or1 v hv, if_pos ⟨by omega, by omega⟩, Int.toNat_natCast]
  show some (wrap64 (Int.tdiv (wrap64 ((Lib.bitLen (v ||| 1) : Int) + 6)) 7)) = _
  have e : wrap64 ((Lib.bitLen (v ||| 1) : Int) + 6) = ((Lib.bitLen (v ||| 1) + 6 : Nat) : Int) := by unfold wrap64; omega
  rw [e, Int.tdiv_eq_ediv_of_nonneg (by omega), show (((Lib.bitLen (v ||| 1) + 6 : Nat) : Int)) / 7 = (((Lib.bitLen (v ||| 1) + 6) / 7 : Nat) : Int) by omega, hb]
  clear e
  have := vl_10 hv
  congr 1
  unfold wrap64; omega
/-- A number's bytes as the program has them. -/
def vi (v : Nat) : List Int := (vb v).map (fun b : Nat => (b : Int))
theorem vi_length (v : Nat) : (vi v).length = vl v := by simp [vi, vl]
theorem vi_lt {v : Nat} (h : v < 128) : vi v = [(v : Int)] := by simp [vi, vb_lt h]
theorem vi_ge {v : Nat} (h : ¬ v < 128) : vi v = ((v % 128 + 128 : Nat) : Int) :: vi (v / 128) := by simp [vi, vb_ge h]
/-- A list in which others stand from a place on. -/
def spl (x : List Int) (p : Nat) (l : List Int) : List Int := x.take p ++ l ++ x.drop (p + l.length)
theorem spl_cons (x : List Int) (p : Nat) (b : Int) (l : List Int) (h : p < x.length) : spl (x.set p b) (p + 1) l = spl x p (b :: l) := by
  unfold spl
  rw [List.drop_set_of_lt (by omega), List.take_set, List.take_add_one, List.getElem?_eq_getElem h]
  simp only [Option.toList_some, List.length_cons]
  rw [List.set_append_right _ _ (by simp; omega)]
  simp [Nat.min_eq_left (Nat.le_of_lt h)]
  congr 1
  omega
theorem spl_one (x : List Int) (p : Nat) (b : Int) (h : p < x.length) : x.set p b = spl x p [b] := by
  rw [← spl_cons x p b [] h]; simp [spl]
theorem len_spl (x : List Int) (p : Nat) (l : List Int) (h : p + l.length ≤ x.length) : (spl x p l).length = x.length := by simp [spl]; omega
theorem and127u (v : Nat) (hv : v < 18446744073709551616) : bits .and .u64 (v : Int) 127 = ((v % 128 : Nat) : Int) := by
  have := Go.u64_and_nat v 127 hv (by omega)
  rw [show ((127 : Nat) : Int) = 127 from rfl] at this
  rw [this, show (127 : Nat) = 2 ^ 7 - 1 from rfl, Nat.and_two_pow_sub_one_eq_mod]
theorem or128 (b : Nat) (hb : b < 128) : bits .or .u64 (b : Int) 128 = ((b + 128 : Nat) : Int) := by
  have := Go.u64_or_nat b 128 (by omega) (by omega)
  rw [show ((128 : Nat) : Int) = 128 from rfl] at this
  rw [this]
  have e := Nat.shiftLeft_add_eq_or_of_lt (a := 1) (i := 7) (b := b) hb
  rw [show 1 <<< 7 = 128 from rfl] at e
  rw [Nat.or_comm, ← e]; congr 1; omega
theorem enc_l0 : ∀ (m v : Nat), v ≤ m → v < 18446744073709551616 → ∀ (x0 : List Int) (p : Nat) (x7 : Int), p + vl v ≤ x0.length → x0.length ≤ 1099511627776 → ∃ k, intstr_encodeVarintGenerated.l0 k x0 (p : Int) (v : Int) x7 = some (x7, spl x0 p (vi v)) := by
  intro m
  induction m with
  | zero =>
    intro v hm hv x0 p x7 hp hl
    obtain rfl : v = 0 := by omega
    rw [vl_lt (by omega)] at hp
    refine ⟨1, ?_⟩
    unfold intstr_encodeVarintGenerated.l0
    rw [if_neg (by omega), if_pos (by omega), if_pos (by omega), vi_lt (by omega), ← spl_one _ _ _ (by omega)]
    simp
  | succ m ih =>
    intro v hm hv x0 p x7 hp hl
    by_cases h : v < 128
    · rw [vl_lt h] at hp
      refine ⟨1, ?_⟩
      unfold intstr_encodeVarintGenerated.l0
      rw [if_neg (by omega), if_pos (by omega), if_pos (by omega), vi_lt h, ← spl_one _ _ _ (by omega), Int.toNat_natCast, show (v : Int) % 256 = (v : Int) by omega]
    · rw [vl_ge h] at hp
      obtain ⟨k, hk⟩ := ih (v / 128) (by omega) (by omega) (x0.set p ((v % 128 + 128 : Nat) : Int)) (p + 1) x7 (by rw [List.length_set]; omega) (by rw [List.length_set]; omega)
      refine ⟨k + 1, ?_⟩
      unfold intstr_encodeVarintGenerated.l0
      rw [if_pos (by omega), if_pos (by omega), if_pos (by have := vl_pos (v / 128); omega), and127u v hv, or128 _ (Nat.mod_lt _ (by omega)), Int.toNat_natCast,
        show (((v % 128 + 128 : Nat) : Int)) % 256 = ((v % 128 + 128 : Nat) : Int) by omega, show wrap64 ((p : Int) + 1) = ((p + 1 : Nat) : Int) by unfold wrap64; omega, show (v : Int) / 128 = ((v / 128 : Nat) : Int) by omega, hk,
        spl_cons _ _ _ _ (by have := vl_pos (v / 128); omega), vi_ge h]
theorem enc_ev (v p : Nat) (hv : v < 18446744073709551616) (x0 : List Int) (hp : p + vl v ≤ x0.length) (hl : x0.length ≤ 1099511627776) :
    ∃ k, intstr_encodeVarintGenerated.f k x0 ((p + vl v : Nat) : Int) (v : Int) = some ((p : Int), spl x0 p (vi v)) := by
  obtain ⟨k, hk⟩ := enc_l0 v v (Nat.le_refl _) hv x0 p (p : Int) hp hl
  refine ⟨k, ?_⟩
  unfold intstr_encodeVarintGenerated.f
  rw [sov_ev k v hv]
  show intstr_encodeVarintGenerated.l0 k x0 (wrap64 (((p + vl v : Nat) : Int) - ((vl v : Nat) : Int))) (v : Int) (wrap64 (((p + vl v : Nat) : Int) - ((vl v : Nat) : Int))) = _
  rw [show wrap64 (((p + vl v : Nat) : Int) - ((vl v : Nat) : Int)) = (p : Int) by unfold wrap64; omega]
  exact hk
theorem var_l0 : ∀ (m v : Nat), v ≤ m → v < 18446744073709551616 → ∀ acc : List Int, acc.length + vl v ≤ 1099511627776 → ∃ k, spec_Varint.l0 k (v : Int) acc = some (acc ++ vi v) := by
  intro m
  induction m with
  | zero =>
    intro v hm hv acc ha
    obtain rfl : v = 0 := by omega
    refine ⟨1, ?_⟩
    unfold spec_Varint.l0
    rw [if_neg (by omega), if_pos (by rw [vl_lt (by omega)] at ha; omega), vi_lt (by omega)]
    simp
  | succ m ih =>
    intro v hm hv acc ha
    by_cases h : v < 128
    · refine ⟨1, ?_⟩
      unfold spec_Varint.l0
      rw [if_neg (by omega), if_pos (by rw [vl_lt h] at ha; omega), vi_lt h, show (v : Int) % 256 = (v : Int) by omega]
    · rw [vl_ge h] at ha
      obtain ⟨k, hk⟩ := ih (v / 128) (by omega) (by omega) (acc ++ [((v % 128 + 128 : Nat) : Int)]) (by rw [List.length_append]; simp; omega)
      refine ⟨k + 1, ?_⟩
      unfold spec_Varint.l0
      rw [if_pos (by omega), if_pos (by omega), Int.tmod_eq_emod_of_nonneg (by omega), Int.tdiv_eq_ediv_of_nonneg (by omega),
        show ((v : Int) % 128 + 128) % 256 = ((v % 128 + 128 : Nat) : Int) by omega, show IntKind.u64.wrap ((v : Int) / 128) = ((v / 128 : Nat) : Int) by rw [IntKind.wrap_u64]; omega, hk, vi_ge h, List.append_assoc]
      rfl
theorem var_ev (v : Nat) (hv : v < 18446744073709551616) : ∃ k, spec_Varint.f k (v : Int) = some (vi v) := by
  have := vl_10 hv
  obtain ⟨k, hk⟩ := var_l0 v v (Nat.le_refl _) hv [] (by simp; omega)
  exact ⟨k, by simpa [spec_Varint.f] using hk⟩
end Go.Proofs.YtmkpkpkcoieeiabDoor.IsP
