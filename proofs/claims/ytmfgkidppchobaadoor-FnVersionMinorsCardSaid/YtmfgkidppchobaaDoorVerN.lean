/- Versions: the reference's text of two numbers is the program's. -/
import Derived.Test.YtmfgkidppchobaaDoorVerE
import Derived.Test.YtmfgkidppchobaaDoorXFnVersionMinorsx1
set_option linter.unusedSimpArgs false
set_option linter.unusedVariables false
namespace Go.Proofs.YtmfgkidppchobaaDoor.VerN
open Go.RowKit Go.Proofs.YtmfgkidppchobaaDoorW.PrintWords Go.Proofs.YtmfgkidppchobaaDoorW.PrintLast Go.Proofs.YtmfgkidppchobaaDoor.XFnVersionMinors Go.Proofs.YtmfgkidppchobaaDoor.Ver2 Go.Proofs.YtmfgkidppchobaaDoor.Ver3
theorem uint_f : ∀ (j n : Nat), n < 10 ^ (j + 1) → n < 18446744073709551616 → spec_VerUintText.f (j + 1) (n : Int) = some (digs n) := by
 have dg : ∀ n : Nat, (IntKind.u64.wrap (48 + (Int.tmod (n : Int) 10))) % 256 = ((48 + n % 10 : Nat) : Int) := by
  intro n
  have e : Int.tmod (n : Int) 10 = ((n % 10 : Nat) : Int) := by rw [Int.tmod_eq_emod_of_nonneg (by omega)]; omega
  rw [e, IntKind.wrap_u64]; omega
 have small : ∀ (k n : Nat), n < 10 → spec_VerUintText.f (k + 1) (n : Int) = some (digs n) := by
  intro k n h
  simp only [spec_VerUintText.f, Option.bind_some, dg]
  rw [if_pos (by omega), show n % 10 = n by omega]
  unfold digs
  rw [Lib.decDigits_one h]
  rfl
 intro j
 induction j with
 | zero => intro n h1 h2; exact small 0 n (by omega)
 | succ j ih =>
  intro n h1 h2
  by_cases h : n < 10
  ·exact small (j + 1) n h
  ·have e : IntKind.u64.wrap (Int.tdiv (n : Int) 10) = ((n / 10 : Nat) : Int) := by
    rw [Int.tdiv_eq_ediv_of_nonneg (by omega), IntKind.wrap_u64]; omega
   have hr : spec_VerUintText.f (j + 1 + 1) (n : Int) = ((spec_VerUintText.f (j + 1) ((n / 10 : Nat) : Int)).bind fun t104 => (if t104.size + (strOfNums [((48 + n % 10 : Nat) : Int)]).size ≤ 9223372036854775807 then (some (t104 ++ (strOfNums [((48 + n % 10 : Nat) : Int)]))) else (none))) := by
    conv => lhs; unfold spec_VerUintText.f
    simp only [Option.bind_some, dg, e]
    rw [if_neg (by omega)]
   rw [hr, ih (n / 10) (by rw [Nat.pow_succ] at h1; omega) (by omega)]
   have hl := dd_le (n / 10) (by omega)
   have hs : (digs (n / 10)).size = (Lib.decDigits (n / 10)).length := by unfold digs; exact List.size_toArray
   have z1 : (strOfNums [((48 + n % 10 : Nat) : Int)]).size = 1 := rfl
   simp only [Option.bind_some]
   rw [if_pos (by rw [z1, hs]; omega)]
   congr 1
   unfold digs
   have e2 : Lib.decDigits n = Lib.decDigits (n / 10) ++ [UInt8.ofNat (48 + n % 10)] := by
    rw [Lib.decDigits, dif_neg h]
   rw [e2]
   apply ByteArray.ext
   apply Array.ext'
   have one : (strOfNums [((48 + n % 10 : Nat) : Int)]).data.toList = [UInt8.ofNat (48 + n % 10)] := rfl
   rw [ByteArray.data_append, Array.toList_append, one]
theorem text_f (M m : Nat) (hM : M < 18446744073709551616) (hm : m < 18446744073709551616) : spec_Version_Text.f 24 [(M : Int), (m : Int)] false ⟨#[]⟩ ⟨#[]⟩ = some (text [(M : Int), (m : Int)] ⟨#[]⟩ ⟨#[]⟩) := by
 have p20 : ∀ x : Nat, x < 18446744073709551616 → x < 10 ^ 20 := fun x h => by
  have : (10 : Nat) ^ 20 = 100000000000000000000 := by decide
  omega
 have u1 : ∀ k, 20 ≤ k → ∀ x : Nat, x < 18446744073709551616 → spec_VerUintText.f k (x : Int) = some (digs x) := by
  intro k hk x hx
  obtain ⟨j, rfl⟩ : ∃ j, k = j + 1 := ⟨k - 1, by omega⟩
  exact uint_f j x (Nat.lt_of_lt_of_le (p20 x hx) (Nat.pow_le_pow_right (by decide) (by omega))) hx
 have hsz : ∀ x : Nat, x < 18446744073709551616 → (digs x).size ≤ 20 := fun x hx => by
  have := dd_le x hx
  unfold digs
  exact Nat.le_trans (Nat.le_of_eq List.size_toArray) this
 have z1 : (⟨#[46]⟩ : ByteArray).size = 1 := rfl
 have z0 : (⟨#[]⟩ : ByteArray).size = 0 := rfl
 have sM := hsz M hM
 have sm := hsz m hm
 unfold spec_Version_Text.f
 rw [show (24 : Nat) = 23 + 1 from rfl]
 unfold spec_Version_Text.l0
 rw [if_pos (by simp), if_neg (by omega), if_pos (by omega), show rd [(M : Int), (m : Int)] 0 = (M : Int) from rfl, u1 23 (by omega) M hM]
 simp only [Option.bind_some]
 rw [if_pos (by rw [z0]; omega), show wrap64 (0 + 1) = 1 by unfold wrap64; omega, show (23 : Nat) = 22 + 1 from rfl]
 unfold spec_Version_Text.l0
 rw [if_pos (by simp), if_pos (by omega), if_pos (by rw [ByteArray.size_append, z0]; omega), if_pos (by omega), show rd [(M : Int), (m : Int)] 1 = (m : Int) from rfl, u1 22 (by omega) m hm]
 simp only [Option.bind_some]
 rw [if_pos (by rw [ByteArray.size_append, ByteArray.size_append, z0, z1]; omega), show wrap64 (1 + 1) = 2 by unfold wrap64; omega, show (22 : Nat) = 21 + 1 from rfl]
 unfold spec_Version_Text.l0
 have tl : (⟨#[]⟩ : ByteArray).toList = [] := by rw [ByteArray.toList_eq]
 rw [if_neg (by simp), if_pos tl, if_pos tl]
 congr 1
 have e1 : (text [(M : Int), (m : Int)] ⟨#[]⟩ ⟨#[]⟩).data.toList = Lib.decDigits M ++ [46] ++ Lib.decDigits m := by
  have hne : Lib.decDigits M ≠ [] := fun h => by have := dd_pos M; rw [h] at this; simp at this
  have h1 : nt [(M : Int), (m : Int)] = Lib.decDigits M ++ [46] ++ Lib.decDigits m := by
   have h0 : nt [(M : Int)] = Lib.decDigits M := rfl
   rw [show [(M : Int), (m : Int)] = [(M : Int)] ++ [(m : Int)] from rfl, nt_snoc, h0, if_neg hne]
   rfl
  show nt [(M : Int), (m : Int)] ++ (if (⟨#[]⟩ : ByteArray).toList = [] then [] else _) ++ (if (⟨#[]⟩ : ByteArray).toList = [] then [] else _) = _
  rw [if_pos tl, if_pos tl, h1, List.append_nil, List.append_nil]
 apply ByteArray.ext
 apply Array.ext'
 rw [e1]
 simp only [ByteArray.data_append, Array.toList_append]
 rfl
end Go.Proofs.YtmfgkidppchobaaDoor.VerN

