/- Whole numbers of decimal digits: what a text of bytes tells, and what strconv's ParseInt and Atoi tell of it. -/
import Derived.Lib.ParseIntB
namespace Go.Proofs.YtmfgkidppchobaaDoor.Num
open Go.Lib
def dig (c : UInt8) : Prop := 48 ≤ c.toNat ∧ c.toNat ≤ 57
instance (c : UInt8) : Decidable (dig c) := by unfold dig; infer_instance
def digs (l : List UInt8) : Prop := ∀ c ∈ l, dig c
instance (l : List UInt8) : Decidable (digs l) := by unfold digs; infer_instance
def val (acc : Nat) : List UInt8 → Nat
 | [] => acc
 | c :: r => val (acc * 10 + (c.toNat - 48)) r
theorem val_ge : ∀ (l : List UInt8) (acc : Nat), acc ≤ val acc l
 | [], _ => Nat.le_refl _
 | c :: r, acc => Nat.le_trans (by omega) (val_ge r (acc * 10 + (c.toNat - 48)))
theorem digs_cons {c : UInt8} {r : List UInt8} : digs (c :: r) ↔ dig c ∧ digs r := by
 unfold digs; simp
theorem pum_ok {M : Nat} (hM : M ≤ 18446744073709551615) : ∀ (l : List UInt8) (acc : Nat), digs l → val acc l ≤ M → parseUintM M acc l = .ok (val acc l)
 | [], _, _, _ => rfl
 | c :: r, acc, hd, hv => by
  obtain ⟨hc, hr⟩ := digs_cons.1 hd
  have hv' : val (acc * 10 + (c.toNat - 48)) r ≤ M := hv
  have h1 := val_ge r (acc * 10 + (c.toNat - 48))
  unfold dig at hc
  simp only [parseUintM]
  rw [if_pos hc, if_neg (by omega), if_neg (by omega)]
  exact pum_ok hM r _ hr hv'
def body : List UInt8 → List UInt8
 | [] => []
 | c :: r => if c.toNat = 43 ∨ c.toNat = 45 then r else c :: r
def neg : List UInt8 → Bool
 | [] => false
 | c :: _ => decide (c.toNat = 45)
end Go.Proofs.YtmfgkidppchobaaDoor.Num

