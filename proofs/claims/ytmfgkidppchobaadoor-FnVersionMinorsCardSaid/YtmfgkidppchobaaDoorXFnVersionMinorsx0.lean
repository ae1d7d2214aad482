/- A text of this session: the functions of the law FnVersionMinors, by a program that calls the kit's print and lays this session's own contracts of single functions beside. -/
import Derived.Test.YtmfgkidppchobaaDoorProg
import Derived.Below
import Derived.Deep.Draws
import Derived.Deep.AppendLies
import Derived.Maps.AppendAt
import Derived.OwnWalk
import Derived.Laws.BytesArg
import Derived.Laws.MakeOwn
import Derived.Laws.OwnMore
import Derived.Deep.OwnRows
import Derived.Tactics
import Derived.Lib.ConvBytes
import Derived.Laws.Slices
import Derived.WalkKit
import Derived.KernelRfl
import Derived.RowKit3
import Derived.Deep.LoopGhost
import Derived.Deep.QuietTactic
import Derived.BigQuiet
import Derived.WideLaws
import Derived.Deep.DeepCutAuto
import Derived.Deep.CutBlock
import Derived.Deep.RegionHeld3
import Derived.Laws.Rows
import Derived.Lib.AppendStr
import Derived.ArgAppend
import Derived.Laws.IdiomCopy
import Derived.OrdersHeld
import Derived.Laws.BitsLemmas
import Derived.RowKit
import Derived.RegionTactic
import Derived.ChangeAlike
import Derived.LoopTactic
import Derived.Outline
import Derived.Test.YtmfgkidppchobaaDoorNum
import Derived.Test.YtmfgkidppchobaaDoorVars
import Derived.Test.YtmfgkidppchobaaDoorShelf
import Derived.Laws.Cover1
import Derived.Test.YtmfgkidppchobaaDoorVerE
import Derived.Test.YtmfgkidppchobaaDoorVerF
import Derived.Test.YtmfgkidppchobaaDoorWWords
import Derived.Test.YtmfgkidppchobaaDoorWLast
import Derived.Test.YtmfgkidppchobaaDoorWTab
import Derived.Test.YtmfgkidppchobaaDoorWFour
import Derived.Test.YtmfgkidppchobaaDoorWQPut
import Derived.Test.YtmfgkidppchobaaDoorWApart
import Derived.Test.YtmfgkidppchobaaDoorWArr
import Derived.Test.YtmfgkidppchobaaDoorWZeros
import Derived.Test.YtmfgkidppchobaaDoorWFoot
import Derived.Test.YtmfgkidppchobaaDoorWKept
import Derived.Test.YtmfgkidppchobaaDoorWShare
import Derived.Test.YtmfgkidppchobaaDoorWN
import Derived.Test.YtmfgkidppchobaaDoorWFootNe
import Derived.Test.YtmfgkidppchobaaDoorWAt
import Derived.Test.YtmfgkidppchobaaDoorWEqStruct
import Derived.Test.YtmfgkidppchobaaDoorWRepsOne
import Derived.Test.YtmfgkidppchobaaDoorWInv
import Derived.Test.YtmfgkidppchobaaDoorWInvWords
import Derived.Test.YtmfgkidppchobaaDoorWGuard
import Derived.Test.YtmfgkidppchobaaDoorWNEv
import Derived.Test.YtmfgkidppchobaaDoorWMore
namespace Go.Proofs.YtmfgkidppchobaaDoor.XFnVersionMinors
open Go.Proofs.YtmfgkidppchobaaDoor.Ver5 Go.RowKit Go.Proofs.YtmfgkidppchobaaDoorW.PrintWords Go.Proofs.YtmfgkidppchobaaDoorW.PrintLast Go.Proofs.YtmfgkidppchobaaDoorW.PrintMore
attribute [local go_sem] max2_int min2_int max_two min_two max_three min_three max_four min_four
set_option linter.unusedVariables false
set_option linter.unusedSimpArgs false
def errW : Option Int → Value
 | none => .nilIface
 | some c => .iface 0 (.int .i64 c)
theorem errW_none : errW none = .nilIface := rfl
theorem errW_some (c : Int) : errW (some c) = .iface 0 (.int .i64 c) := rfl
structure S46 where
 f0 : Bool
 f1 : (List Int)
 f2 : ByteArray
 f3 : ByteArray
 f4 : ByteArray
 f5 : Int
 f6 : Int
 f7 : Int
def z46 : S46 := ⟨false, ([] : List Int), (⟨#[]⟩ : ByteArray), (⟨#[]⟩ : ByteArray), (⟨#[]⟩ : ByteArray), (0 : Int), (0 : Int), (0 : Int)⟩
def k46 : Kd S46 := Kd.iso (Kd.pair Kd.bool (Kd.pair (Kd.slice 36 (Kd.int .u64)) (Kd.pair Kd.string (Kd.pair Kd.string (Kd.pair Kd.string (Kd.pair (Kd.int .u64) (Kd.pair (Kd.int .u64) (Kd.int .u64)))))))) (fun x : S46 => (x.f0, x.f1, x.f2, x.f3, x.f4, x.f5, x.f6, x.f7))
theorem k46_open {w : World} {x : S46} {cs : List Value} (h : k46.K w x cs) : ∃ A1 c1, cs = [.bool x.f0, .slice A1 x.f1.length c1, .string x.f2, .string x.f3, .string x.f4, .int .u64 x.f5, .int .u64 x.f6, .int .u64 x.f7] ∧ x.f1.length ≤ c1 ∧ (Kd.int .u64).C w A1 x.f1.length x.f1 := by
 obtain ⟨_, _, rfl, rfl, ⟨_, _, rfl, ⟨A1, c1, rfl, l1, g1⟩, ⟨_, _, rfl, rfl, ⟨_, _, rfl, rfl, ⟨_, _, rfl, rfl, ⟨_, _, rfl, rfl, ⟨_, _, rfl, rfl, rfl⟩⟩⟩⟩⟩⟩⟩ := h
 exact ⟨A1, c1, rfl, l1, g1⟩
theorem k46_openM {w : World} {base : Nat} {ok : Nat → Prop} {x : S46} {cs : List Value} (h : k46.M w base ok x cs) : ∃ v1, cs = [.bool x.f0, v1, .string x.f2, .string x.f3, .string x.f4, .int .u64 x.f5, .int .u64 x.f6, .int .u64 x.f7] ∧ (Kd.int .u64).R 36 w base ok v1 x.f1 := by
 obtain ⟨_, _, rfl, rfl, ⟨_, _, rfl, ⟨v1, rfl, g1⟩, ⟨_, _, rfl, rfl, ⟨_, _, rfl, rfl, ⟨_, _, rfl, rfl, ⟨_, _, rfl, rfl, ⟨_, _, rfl, rfl, rfl⟩⟩⟩⟩⟩⟩⟩ := h
 exact ⟨v1, rfl, g1⟩
theorem k46_mkM (w : World) (base : Nat) (ok : Nat → Prop) (x : S46) {v1 : Value} (g1 : (Kd.int .u64).R 36 w base ok v1 x.f1) : k46.M w base ok x [.bool x.f0, v1, .string x.f2, .string x.f3, .string x.f4, .int .u64 x.f5, .int .u64 x.f6, .int .u64 x.f7] := ⟨[.bool x.f0], [v1, .string x.f2, .string x.f3, .string x.f4, .int .u64 x.f5, .int .u64 x.f6, .int .u64 x.f7], rfl, rfl, ⟨[v1], [.string x.f2, .string x.f3, .string x.f4, .int .u64 x.f5, .int .u64 x.f6, .int .u64 x.f7], rfl, ⟨v1, rfl, g1⟩, ⟨[.string x.f2], [.string x.f3, .string x.f4, .int .u64 x.f5, .int .u64 x.f6, .int .u64 x.f7], rfl, rfl, ⟨[.string x.f3], [.string x.f4, .int .u64 x.f5, .int .u64 x.f6, .int .u64 x.f7], rfl, rfl, ⟨[.string x.f4], [.int .u64 x.f5, .int .u64 x.f6, .int .u64 x.f7], rfl, rfl, ⟨[.int .u64 x.f5], [.int .u64 x.f6, .int .u64 x.f7], rfl, rfl, ⟨[.int .u64 x.f6], [.int .u64 x.f7], rfl, rfl, rfl⟩⟩⟩⟩⟩⟩⟩
def rd_T46 (xs : List S46) (i : Int) : S46 := xs.getD i.toNat z46
theorem at_T46 {w : World} {A : Option Addr} {n : Nat} {xs : List S46} (h : Kd.C k46 w A n xs) (i : Int) (h0 : 0 ≤ i) (h1 : i < n) : ∃ ad A1 c1, A = some ad ∧ w.cell? (ad.add (i.toNat * 8)) = some (.bool (rd_T46 xs i).f0) ∧ w.cell? ⟨(ad.add (i.toNat * 8)).block, (ad.add (i.toNat * 8)).off + 1, none⟩ = some (.slice A1 (rd_T46 xs i).f1.length c1) ∧ w.cell? ⟨(ad.add (i.toNat * 8)).block, (ad.add (i.toNat * 8)).off + 2, none⟩ = some (.string (rd_T46 xs i).f2) ∧ w.cell? ⟨(ad.add (i.toNat * 8)).block, (ad.add (i.toNat * 8)).off + 3, none⟩ = some (.string (rd_T46 xs i).f3) ∧ w.cell? ⟨(ad.add (i.toNat * 8)).block, (ad.add (i.toNat * 8)).off + 4, none⟩ = some (.string (rd_T46 xs i).f4) ∧ w.cell? ⟨(ad.add (i.toNat * 8)).block, (ad.add (i.toNat * 8)).off + 5, none⟩ = some (.int .u64 (rd_T46 xs i).f5) ∧ w.cell? ⟨(ad.add (i.toNat * 8)).block, (ad.add (i.toNat * 8)).off + 6, none⟩ = some (.int .u64 (rd_T46 xs i).f6) ∧ w.cell? ⟨(ad.add (i.toNat * 8)).block, (ad.add (i.toNat * 8)).off + 7, none⟩ = some (.int .u64 (rd_T46 xs i).f7) ∧ (rd_T46 xs i).f1.length ≤ c1 ∧ (Kd.int .u64).C w A1 (rd_T46 xs i).f1.length (rd_T46 xs i).f1 := by
 obtain ⟨ad, c, e, _, hK, hc0⟩ := Kd.C_get h z46 i h0 h1
 have hc : ∀ j u, c[j]? = some u → w.cell? (ad.add (i.toNat * 8 + j)) = some u := hc0
 obtain ⟨A1, c1, rfl, l1, g1⟩ := k46_open hK
 exact ⟨ad, A1, c1, e, hc 0 _ rfl, by rw [← add_field _ _ 1 (by omega)]; exact hc 1 _ rfl, by rw [← add_field _ _ 2 (by omega)]; exact hc 2 _ rfl, by rw [← add_field _ _ 3 (by omega)]; exact hc 3 _ rfl, by rw [← add_field _ _ 4 (by omega)]; exact hc 4 _ rfl, by rw [← add_field _ _ 5 (by omega)]; exact hc 5 _ rfl, by rw [← add_field _ _ 6 (by omega)]; exact hc 6 _ rfl, by rw [← add_field _ _ 7 (by omega)]; exact hc 7 _ rfl, l1, g1⟩
structure S42 where
 f0 : Int
 f1 : Int
 f2 : Int
 f3 : ByteArray
def z42 : S42 := ⟨(0 : Int), (0 : Int), (0 : Int), (⟨#[]⟩ : ByteArray)⟩
def k42 : Kd S42 := Kd.iso (Kd.pair (Kd.int .i64) (Kd.pair (Kd.int .u64) (Kd.pair (Kd.int .i64) Kd.string))) (fun x : S42 => (x.f0, x.f1, x.f2, x.f3))
theorem k42_open {w : World} {x : S42} {cs : List Value} (h : k42.K w x cs) : cs = [.int .i64 x.f0, .int .u64 x.f1, .int .i64 x.f2, .string x.f3] := by
 obtain ⟨_, _, rfl, rfl, ⟨_, _, rfl, rfl, ⟨_, _, rfl, rfl, rfl⟩⟩⟩ := h
 exact rfl
theorem k42_mkM (w : World) (base : Nat) (ok : Nat → Prop) (x : S42)  : k42.M w base ok x [.int .i64 x.f0, .int .u64 x.f1, .int .i64 x.f2, .string x.f3] := ⟨[.int .i64 x.f0], [.int .u64 x.f1, .int .i64 x.f2, .string x.f3], rfl, rfl, ⟨[.int .u64 x.f1], [.int .i64 x.f2, .string x.f3], rfl, rfl, ⟨[.int .i64 x.f2], [.string x.f3], rfl, rfl, rfl⟩⟩⟩
def rd_T42 (xs : List S42) (i : Int) : S42 := xs.getD i.toNat z42
theorem at_T42 {w : World} {A : Option Addr} {n : Nat} {xs : List S42} (h : Kd.C k42 w A n xs) (i : Int) (h0 : 0 ≤ i) (h1 : i < n) : ∃ ad , A = some ad ∧ w.cell? (ad.add (i.toNat * 4)) = some (.int .i64 (rd_T42 xs i).f0) ∧ w.cell? ⟨(ad.add (i.toNat * 4)).block, (ad.add (i.toNat * 4)).off + 1, none⟩ = some (.int .u64 (rd_T42 xs i).f1) ∧ w.cell? ⟨(ad.add (i.toNat * 4)).block, (ad.add (i.toNat * 4)).off + 2, none⟩ = some (.int .i64 (rd_T42 xs i).f2) ∧ w.cell? ⟨(ad.add (i.toNat * 4)).block, (ad.add (i.toNat * 4)).off + 3, none⟩ = some (.string (rd_T42 xs i).f3) := by
 obtain ⟨ad, c, e, _, hK, hc0⟩ := Kd.C_get h z42 i h0 h1
 have hc : ∀ j u, c[j]? = some u → w.cell? (ad.add (i.toNat * 4 + j)) = some u := hc0
 obtain rfl := k42_open hK
 exact ⟨ad, e, hc 0 _ rfl, by rw [← add_field _ _ 1 (by omega)]; exact hc 1 _ rfl, by rw [← add_field _ _ 2 (by omega)]; exact hc 2 _ rfl, by rw [← add_field _ _ 3 (by omega)]; exact hc 3 _ rfl⟩
end Go.Proofs.YtmfgkidppchobaaDoor.XFnVersionMinors

