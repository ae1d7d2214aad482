/- Whole numbers of decimal digits: what a text of bytes tells, and what strconv's ParseInt and Atoi tell of it. -/
import Derived.Lib.ParseIntB
namespace Go.Proofs.YtmfgkidppchobaaDoor.Num
open Go.Lib
def dig (c : UInt8) : Prop := 48 ≤ c.toNat ∧ c.toNat ≤ 57
instance (c : UInt8) : Decidable (dig c) := by unfold dig; infer_instance
def digs (l : List UInt8) : Prop := ∀ c ∈ l, dig c
instance (l : List UInt8) : Decidable (digs l) := by unfold digs; infer_instance
def val (acc : Nat) : List UInt8 → Nat
 | [] => acc
 | c :: r => val (acc * 10 + (c.toNat - 48)) r
theorem digs_cons {c : UInt8} {r : List UInt8} : digs (c :: r) ↔ dig c ∧ digs r := by
 unfold digs; simp
def body : List UInt8 → List UInt8
 | [] => []
 | c :: r => if c.toNat = 43 ∨ c.toNat = 45 then r else c :: r
def neg : List UInt8 → Bool
 | [] => false
 | c :: _ => decide (c.toNat = 45)
theorem val_lt : ∀ (l : List UInt8) (acc : Nat), digs l → val acc l < (acc + 1) * 10 ^ l.length
 | [], acc, _ => by rw [show (10 : Nat) ^ ([] : List UInt8).length = 1 from rfl]; show acc < _; omega
 | c :: r, acc, h => by
  obtain ⟨hc, hr⟩ := digs_cons.1 h
  have := val_lt r (acc * 10 + (c.toNat - 48)) hr
  unfold dig at hc
  show val (acc * 10 + (c.toNat - 48)) r < _
  have h2 : acc * 10 + (c.toNat - 48) + 1 ≤ (acc + 1) * 10 := by omega
  have h3 := Nat.mul_le_mul_right (10 ^ r.length) h2
  have h4 : (acc + 1) * 10 * 10 ^ r.length = (acc + 1) * 10 ^ (c :: r).length := by
   rw [List.length_cons, Nat.pow_succ, Nat.mul_assoc, Nat.mul_comm 10]
  generalize 10 ^ (c :: r).length = P at h4 ⊢
  generalize 10 ^ r.length = Q at *
  omega
end Go.Proofs.YtmfgkidppchobaaDoor.Num

