/- A text of this session: the functions of the law FnKindForAny, by a program that calls the kit's print and lays this session's own contracts of single functions beside. -/
import Derived.Test.YtehgokciafpnbaaProg
import Derived.Below
import Derived.Deep.Draws
import Derived.Deep.AppendLies
import Derived.Maps.AppendAt
import Derived.OwnWalk
import Derived.Laws.BytesArg
import Derived.Laws.MakeOwn
import Derived.Laws.OwnMore
import Derived.Deep.OwnRows
import Derived.Tactics
import Derived.Lib.ConvBytes
import Derived.Laws.Slices
import Derived.WalkKit
import Derived.KernelRfl
import Derived.RowKit3
import Derived.Deep.LoopGhost
import Derived.Deep.QuietTactic
import Derived.BigQuiet
import Derived.WideLaws
import Derived.Deep.DeepCutAuto
import Derived.Deep.CutBlock
import Derived.Deep.RegionHeld3
import Derived.Laws.Rows
import Derived.Lib.AppendStr
import Derived.ArgAppend
import Derived.Laws.IdiomCopy
import Derived.OrdersHeld
import Derived.Laws.BitsLemmas
import Derived.RowKit
import Derived.Test.YtehgokciafpnbaaWWords
import Derived.Test.YtehgokciafpnbaaWLast
import Derived.Test.YtehgokciafpnbaaWTab
import Derived.Test.YtehgokciafpnbaaWFour
import Derived.Test.YtehgokciafpnbaaWQPut
import Derived.Test.YtehgokciafpnbaaWApart
import Derived.Test.YtehgokciafpnbaaWArr
import Derived.Test.YtehgokciafpnbaaWZeros
import Derived.Test.YtehgokciafpnbaaWFoot
import Derived.Test.YtehgokciafpnbaaWKept
import Derived.Test.YtehgokciafpnbaaWShare
import Derived.Test.YtehgokciafpnbaaWN
import Derived.Test.YtehgokciafpnbaaWFootNe
import Derived.Test.YtehgokciafpnbaaWAt
import Derived.Test.YtehgokciafpnbaaWEqStruct
import Derived.Test.YtehgokciafpnbaaWRepsOne
import Derived.Test.YtehgokciafpnbaaWInv
import Derived.Test.YtehgokciafpnbaaWInvWords
import Derived.Test.YtehgokciafpnbaaWGuard
import Derived.Test.YtehgokciafpnbaaWNEv
import Derived.Test.YtehgokciafpnbaaWMore
namespace Go.Proofs.Ytehgokciafpnbaa.XFnKindForAny
open Go.RowKit Go.Proofs.YtehgokciafpnbaaW.PrintWords Go.Proofs.YtehgokciafpnbaaW.PrintLast Go.Proofs.YtehgokciafpnbaaW.PrintMore
attribute [local go_sem] max2_int min2_int max_two min_two max_three min_three max_four min_four   -- for this text's walks alone
set_option linter.unusedVariables false
set_option linter.unusedSimpArgs false



def errW : Option Int → Value
  | none => .nilIface
  | some c => .iface 0 (.int .i64 c)
theorem errW_none : errW none = .nilIface := rfl
theorem errW_some (c : Int) : errW (some c) = .iface 0 (.int .i64 c) := rfl

theorem info44 : (Try.prog.info? 44).map (fun i => (i.zero, i.size, i.bytes)) = some (some (.agg #[(.string ⟨#[]⟩), (.string ⟨#[]⟩)]), 2, 32) := by kernel_rfl
theorem info51 : (Try.prog.info? 51).map (fun i => (i.zero, i.size, i.bytes)) = some (some (.agg #[(.string ⟨#[]⟩), (.string ⟨#[]⟩), (.string ⟨#[]⟩)]), 3, 48) := by kernel_rfl
-- the values' own types
/-! #### struct type 26 -/
structure S26 where
  f0 : ByteArray
  f1 : ByteArray
  f2 : ByteArray
def z26 : S26 := ⟨(⟨#[]⟩ : ByteArray), (⟨#[]⟩ : ByteArray), (⟨#[]⟩ : ByteArray)⟩
def k26 : Kd S26 := Kd.iso (Kd.pair Kd.string (Kd.pair Kd.string Kd.string)) (fun x : S26 => (x.f0, x.f1, x.f2))
theorem k26_open {w : World} {x : S26} {cs : List Value} (h : k26.K w x cs) : cs = [.string x.f0, .string x.f1, .string x.f2] := by
  obtain ⟨_, _, rfl, rfl, ⟨_, _, rfl, rfl, rfl⟩⟩ := h
  exact rfl
theorem k26_openM {w : World} {base : Nat} {ok : Nat → Prop} {x : S26} {cs : List Value} (h : k26.M w base ok x cs) : cs = [.string x.f0, .string x.f1, .string x.f2] := by
  obtain ⟨_, _, rfl, rfl, ⟨_, _, rfl, rfl, rfl⟩⟩ := h
  exact rfl
theorem k26_mk (w : World) (x : S26)  : k26.K w x [.string x.f0, .string x.f1, .string x.f2] := ⟨[.string x.f0], [.string x.f1, .string x.f2], rfl, rfl, ⟨[.string x.f1], [.string x.f2], rfl, rfl, rfl⟩⟩
theorem k26_mkM (w : World) (base : Nat) (ok : Nat → Prop) (x : S26)  : k26.M w base ok x [.string x.f0, .string x.f1, .string x.f2] := ⟨[.string x.f0], [.string x.f1, .string x.f2], rfl, rfl, ⟨[.string x.f1], [.string x.f2], rfl, rfl, rfl⟩⟩
def rd_T26 (xs : List S26) (i : Int) : S26 := xs.getD i.toNat z26
theorem at_T26 {w : World} {A : Option Addr} {n : Nat} {xs : List S26} (h : Kd.C k26 w A n xs) (i : Int) (h0 : 0 ≤ i) (h1 : i < n) : ∃ ad , A = some ad ∧ w.cell? (ad.add (i.toNat * 3)) = some (.string (rd_T26 xs i).f0) ∧ w.cell? ⟨(ad.add (i.toNat * 3)).block, (ad.add (i.toNat * 3)).off + 1, none⟩ = some (.string (rd_T26 xs i).f1) ∧ w.cell? ⟨(ad.add (i.toNat * 3)).block, (ad.add (i.toNat * 3)).off + 2, none⟩ = some (.string (rd_T26 xs i).f2) := by
  obtain ⟨ad, c, e, _, hK, hc0⟩ := Kd.C_get h z26 i h0 h1
  have hc : ∀ j u, c[j]? = some u → w.cell? (ad.add (i.toNat * 3 + j)) = some u := hc0
  obtain rfl := k26_open hK
  exact ⟨ad, e, hc 0 _ rfl, by rw [← add_field _ _ 1 (by omega)]; exact hc 1 _ rfl, by rw [← add_field _ _ 2 (by omega)]; exact hc 2 _ rfl⟩

/-! #### struct type 51 -/
structure S51 where
  f0 : ByteArray
  f1 : ByteArray
  f2 : ByteArray
def z51 : S51 := ⟨(⟨#[]⟩ : ByteArray), (⟨#[]⟩ : ByteArray), (⟨#[]⟩ : ByteArray)⟩
def k51 : Kd S51 := Kd.iso (Kd.pair Kd.string (Kd.pair Kd.string Kd.string)) (fun x : S51 => (x.f0, x.f1, x.f2))
theorem k51_open {w : World} {x : S51} {cs : List Value} (h : k51.K w x cs) : cs = [.string x.f0, .string x.f1, .string x.f2] := by
  obtain ⟨_, _, rfl, rfl, ⟨_, _, rfl, rfl, rfl⟩⟩ := h
  exact rfl
theorem k51_openM {w : World} {base : Nat} {ok : Nat → Prop} {x : S51} {cs : List Value} (h : k51.M w base ok x cs) : cs = [.string x.f0, .string x.f1, .string x.f2] := by
  obtain ⟨_, _, rfl, rfl, ⟨_, _, rfl, rfl, rfl⟩⟩ := h
  exact rfl
theorem k51_mk (w : World) (x : S51)  : k51.K w x [.string x.f0, .string x.f1, .string x.f2] := ⟨[.string x.f0], [.string x.f1, .string x.f2], rfl, rfl, ⟨[.string x.f1], [.string x.f2], rfl, rfl, rfl⟩⟩
theorem k51_mkM (w : World) (base : Nat) (ok : Nat → Prop) (x : S51)  : k51.M w base ok x [.string x.f0, .string x.f1, .string x.f2] := ⟨[.string x.f0], [.string x.f1, .string x.f2], rfl, rfl, ⟨[.string x.f1], [.string x.f2], rfl, rfl, rfl⟩⟩
def rd_T51 (xs : List S51) (i : Int) : S51 := xs.getD i.toNat z51
theorem at_T51 {w : World} {A : Option Addr} {n : Nat} {xs : List S51} (h : Kd.C k51 w A n xs) (i : Int) (h0 : 0 ≤ i) (h1 : i < n) : ∃ ad , A = some ad ∧ w.cell? (ad.add (i.toNat * 3)) = some (.string (rd_T51 xs i).f0) ∧ w.cell? ⟨(ad.add (i.toNat * 3)).block, (ad.add (i.toNat * 3)).off + 1, none⟩ = some (.string (rd_T51 xs i).f1) ∧ w.cell? ⟨(ad.add (i.toNat * 3)).block, (ad.add (i.toNat * 3)).off + 2, none⟩ = some (.string (rd_T51 xs i).f2) := by
  obtain ⟨ad, c, e, _, hK, hc0⟩ := Kd.C_get h z51 i h0 h1
  have hc : ∀ j u, c[j]? = some u → w.cell? (ad.add (i.toNat * 3 + j)) = some u := hc0
  obtain rfl := k51_open hK
  exact ⟨ad, e, hc 0 _ rfl, by rw [← add_field _ _ 1 (by omega)]; exact hc 1 _ rfl, by rw [← add_field _ _ 2 (by omega)]; exact hc 2 _ rfl⟩

/-! #### struct type 44 -/
structure S44 where
  f0 : ByteArray
  f1 : ByteArray
def z44 : S44 := ⟨(⟨#[]⟩ : ByteArray), (⟨#[]⟩ : ByteArray)⟩
def k44 : Kd S44 := Kd.iso (Kd.pair Kd.string Kd.string) (fun x : S44 => (x.f0, x.f1))
theorem k44_open {w : World} {x : S44} {cs : List Value} (h : k44.K w x cs) : cs = [.string x.f0, .string x.f1] := by
  obtain ⟨_, _, rfl, rfl, rfl⟩ := h
  exact rfl
theorem k44_openM {w : World} {base : Nat} {ok : Nat → Prop} {x : S44} {cs : List Value} (h : k44.M w base ok x cs) : cs = [.string x.f0, .string x.f1] := by
  obtain ⟨_, _, rfl, rfl, rfl⟩ := h
  exact rfl
theorem k44_mk (w : World) (x : S44)  : k44.K w x [.string x.f0, .string x.f1] := ⟨[.string x.f0], [.string x.f1], rfl, rfl, rfl⟩
theorem k44_mkM (w : World) (base : Nat) (ok : Nat → Prop) (x : S44)  : k44.M w base ok x [.string x.f0, .string x.f1] := ⟨[.string x.f0], [.string x.f1], rfl, rfl, rfl⟩
def rd_T44 (xs : List S44) (i : Int) : S44 := xs.getD i.toNat z44
theorem at_T44 {w : World} {A : Option Addr} {n : Nat} {xs : List S44} (h : Kd.C k44 w A n xs) (i : Int) (h0 : 0 ≤ i) (h1 : i < n) : ∃ ad , A = some ad ∧ w.cell? (ad.add (i.toNat * 2)) = some (.string (rd_T44 xs i).f0) ∧ w.cell? ⟨(ad.add (i.toNat * 2)).block, (ad.add (i.toNat * 2)).off + 1, none⟩ = some (.string (rd_T44 xs i).f1) := by
  obtain ⟨ad, c, e, _, hK, hc0⟩ := Kd.C_get h z44 i h0 h1
  have hc : ∀ j u, c[j]? = some u → w.cell? (ad.add (i.toNat * 2 + j)) = some u := hc0
  obtain rfl := k44_open hK
  exact ⟨ad, e, hc 0 _ rfl, by rw [← add_field _ _ 1 (by omega)]; exact hc 1 _ rfl⟩

end Go.Proofs.Ytehgokciafpnbaa.XFnKindForAny
