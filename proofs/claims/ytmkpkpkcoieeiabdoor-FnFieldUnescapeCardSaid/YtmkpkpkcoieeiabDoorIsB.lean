/- A number gathered seven bits at a time: each step over its bits, in three kinds of numbers. -/
import Derived.Test.YtmkpkpkcoieeiabDoorIsM
import Derived.Laws.Bits64
namespace Go.Proofs.YtmkpkpkcoieeiabDoor.IsB
open Go Go.RowKit Go.Proofs.YtmkpkpkcoieeiabDoor.IsM

theorem wrap_cong (k : IntKind) (a b : Int) (h : a % 2 ^ k.bits = b % 2 ^ k.bits) : k.wrap a = k.wrap b := by
  unfold IntKind.wrap
  rw [h]
theorem wrap_mod (k : IntKind) (a : Int) : k.wrap a % 2 ^ k.bits = a % 2 ^ k.bits := by
  unfold IntKind.wrap
  simp only []
  split
  · rw [Int.sub_emod, Int.emod_self, Int.sub_zero, Int.emod_emod, Int.emod_emod]
  · exact Int.emod_emod _ _
theorem ofInt_wrap (k : IntKind) (a : Nat) : BitVec.ofInt k.bits (k.wrap (a : Int)) = BitVec.ofNat k.bits a := by
  apply BitVec.eq_of_toNat_eq
  rw [BitVec.toNat_ofInt, BitVec.toNat_ofNat]
  have e : ((2 ^ k.bits : Nat) : Int) = 2 ^ k.bits := by simp
  rw [e, wrap_mod, ← e]
  omega
theorem or_wrap (k : IntKind) (a b : Nat) : bits .or k (k.wrap (a : Int)) (k.wrap (b : Int)) = k.wrap ((a ||| b : Nat) : Int) := by
  unfold bits
  simp only [ofInt_wrap]
  apply wrap_cong
  rw [BitVec.toNat_or, BitVec.toNat_ofNat, BitVec.toNat_ofNat, ← Nat.or_mod_two_pow]
  have e : ((2 ^ k.bits : Nat) : Int) = 2 ^ k.bits := by simp
  rw [← e, Int.natCast_emod, Int.emod_emod]
theorem and127 (b : Nat) (h : b < 256) : bits .and .u8 (b : Int) 127 = ((b % 128 : Nat) : Int) := by
  have := Go.u8_and_nat b 127 h (by omega)
  rw [show ((127 : Nat) : Int) = 127 from rfl] at this
  rw [this, show (127 : Nat) = 2 ^ 7 - 1 from rfl, Nat.and_two_pow_sub_one_eq_mod]
theorem mul_pow (b sh : Nat) : ((b : Int)) * 2 ^ sh = ((b <<< sh : Nat) : Int) := by rw [Nat.shiftLeft_eq]; simp
/-- The step, of a kind of at least 32 bits. -/
theorem step (k : IntKind) (v j : Nat) (hs : ∀ b : Nat, b < 128 → k.wrap (b : Int) = (b : Int)) :
    bits .or k (k.wrap ((v % 128 ^ j : Nat) : Int)) (k.wrap (k.wrap (bits .and .u8 ((by_ v j : Nat) : Int) 127) * 2 ^ (7 * j))) = k.wrap ((v % 128 ^ (j + 1) : Nat) : Int) := by
  rw [and127 _ (by_lt v j), by_mod, hs _ (Nat.mod_lt _ (by omega)), mul_pow, or_wrap, acc_step]
theorem small64 (b : Nat) (h : b < 128) : IntKind.i64.wrap (b : Int) = (b : Int) := by rw [IntKind.wrap_i64]; omega
theorem smallu (b : Nat) (h : b < 128) : IntKind.u64.wrap (b : Int) = (b : Int) := by rw [IntKind.wrap_u64]; omega
theorem small32 (b : Nat) (h : b < 128) : IntKind.i32.wrap (b : Int) = (b : Int) := by rw [IntKind.wrap_i32]; omega
theorem w64 (n : Int) : wrap64 n = IntKind.i64.wrap n := by rw [IntKind.wrap_i64]; rfl
theorem w32 (n : Int) : wrap32 n = IntKind.i32.wrap n := by rw [IntKind.wrap_i32]; rfl
/-- What is gathered behind j bytes. -/
def acc64 (v j : Nat) : Int := IntKind.i64.wrap ((v % 128 ^ j : Nat) : Int)
def acc32 (v j : Nat) : Int := IntKind.i32.wrap ((v % 128 ^ j : Nat) : Int)
def accU (v j : Nat) : Int := IntKind.u64.wrap ((v % 128 ^ j : Nat) : Int)
theorem step64 (v j : Nat) : bits .or .i64 (acc64 v j) (wrap64 (wrap64 (bits .and .u8 ((by_ v j : Nat) : Int) 127) * 2 ^ (7 * j))) = acc64 v (j + 1) := by
  rw [w64, w64]; exact step .i64 v j small64
theorem step32 (v j : Nat) : bits .or .i32 (acc32 v j) (wrap32 (wrap32 (bits .and .u8 ((by_ v j : Nat) : Int) 127) * 2 ^ (7 * j))) = acc32 v (j + 1) := by
  rw [w32, w32]; exact step .i32 v j small32
theorem stepU (v j : Nat) : bits .or .u64 (accU v j) (IntKind.u64.wrap (IntKind.u64.wrap (bits .and .u8 ((by_ v j : Nat) : Int) 127) * 2 ^ (7 * j))) = accU v (j + 1) := step .u64 v j smallu
theorem shl_min (c : Int) (sh : Nat) : wrap32 (c * 2 ^ min sh 32) = wrap32 (c * 2 ^ sh) := by
  by_cases h : sh ≤ 32
  · rw [Nat.min_eq_left h]
  · rw [Nat.min_eq_right (by omega), w32, w32]
    apply wrap_cong
    have e : sh = (sh - 32) + 32 := by omega
    show c * 2 ^ 32 % 2 ^ 32 = c * 2 ^ sh % 2 ^ 32
    rw [e, Int.pow_add, ← Int.mul_assoc, Int.mul_emod_left, Int.mul_emod_left]
theorem step32m (v j : Nat) : bits .or .i32 (acc32 v j) (wrap32 (wrap32 (bits .and .u8 ((by_ v j : Nat) : Int) 127) * 2 ^ min (7 * j) 32)) = acc32 v (j + 1) := by
  rw [shl_min]; exact step32 v j
theorem lt_u (n : Nat) (h : n ≤ 2147483647) : n < 18446744073709551616 := by omega
theorem w64n (n : Nat) (h : n ≤ 2147483647) : wrap64 (n : Int) = (n : Int) := by unfold wrap64; omega
theorem acc64_0 (v : Nat) : acc64 v 0 = 0 := by simp [acc64, Nat.mod_one]; rfl
theorem acc32_0 (v : Nat) : acc32 v 0 = 0 := by simp [acc32, Nat.mod_one]; rfl
theorem accU_0 (v : Nat) : accU v 0 = 0 := by simp [accU, Nat.mod_one]; rfl
theorem acc64_end {v j : Nat} (h : j < vl v) (he : j + 1 = vl v) : acc64 v (j + 1) = IntKind.i64.wrap (v : Int) := by unfold acc64; rw [acc_end h he]
theorem acc32_end {v j : Nat} (h : j < vl v) (he : j + 1 = vl v) : acc32 v (j + 1) = IntKind.i32.wrap (v : Int) := by unfold acc32; rw [acc_end h he]
theorem accU_end {v j : Nat} (h : j < vl v) (he : j + 1 = vl v) (hv : v < 18446744073709551616) : accU v (j + 1) = (v : Int) := by unfold accU; rw [acc_end h he, IntKind.wrap_u64]; omega
end Go.Proofs.YtmkpkpkcoieeiabDoor.IsB
