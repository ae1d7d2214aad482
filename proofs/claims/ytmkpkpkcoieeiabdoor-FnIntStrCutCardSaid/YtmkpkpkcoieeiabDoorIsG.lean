/- The thin package's reading of bytes that are a value's, cut anywhere. -/
import Derived.Test.YtmkpkpkcoieeiabDoorIsD
import Derived.Test.YtmkpkpkcoieeiabDoorIsW
namespace Go.Proofs.YtmkpkpkcoieeiabDoor.IsG
open Go Go.RowKit Go.Proofs.YtmkpkpkcoieeiabDoorW.PrintWords Go.Proofs.YtmkpkpkcoieeiabDoor.IsM Go.Proofs.YtmkpkpkcoieeiabDoor.IsU Go.Proofs.YtmkpkpkcoieeiabDoor.IsF Go.Proofs.YtmkpkpkcoieeiabDoor.IsE
/-- Bytes that some value's bytes begin with. -/
def Pre (l : List Int) : Prop := ∃ t i S, VIn t i S ∧ l = (WL (nx t) (nx i) S).take l.length
noncomputable instance (l : List Int) : Decidable (Pre l) := Classical.propDecidable _
instance (t i : Int) (S : ByteArray) : Decidable (VIn t i S) := by unfold VIn; infer_instance
theorem unm (A : Option Addr) (c : Nat) (l : List Int) (w : World) (hr : (Kd.int .u8).C w A l.length l) (hc : l.length ≤ c) (hV : VE w) (hp : Pre l) :
    Calls Tryd.prog 16 #[.slice A l.length c] w fun e w' => UEnd (IsD.dec l) e ∧ Below w.heap.size w w' := by
  obtain ⟨t, i, S, hv, hl⟩ := hp
  have hN := nums_of hv
  have hle := le_of hN
  have hlen : l.length ≤ p3 (nx t) (nx i) S.size + S.size := by
    have h := congrArg List.length hl
    rw [List.length_take, WL_length] at h
    omega
  have hd : IsD.dec l = Res (nx t) (nx i) (S.data.toList.map (·.toNat)) S l.length := by
    rw [← IsD.dec_eq _ _ _ _ hlen, ← hl]
  rw [hd]
  exact implUnm A c l (nx t) (nx i) S w hr hc hV hN.2.2.1 hN.2.2.2.1 hv.2.2.2.2 hl (by omega)
end Go.Proofs.YtmkpkpkcoieeiabDoor.IsG
