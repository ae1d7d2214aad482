/- What the rows' listed variables give a walk: strconv's two errors, and the table of the powers of ten. -/
import Derived.Test.YtmfgkidppchobaaDoorVars
import Derived.WalkSmall
import Derived.Lib.LaidTab
import Derived.Lib.ItoaMem
import Derived.Test.YtmfgkidppchobaaDoorProg
import Derived.Test.YtmfgkidppchobaaDoorXWaysB
import Derived.Test.YtmfgkidppchobaaDoorEv
import Derived.Test.YtmfgkidppchobaaDoorShelf
import Derived.Lib.AppendIntMem
import Derived.Lib.BufferOld
import Derived.LoopTactic
import Derived.Test.YtmfgkidppchobaaDoorXWaysA
import Derived.Laws.MakeOwn
import Derived.Lib.ParseIntBCases
import Derived.Lib.LazyBuf
import Derived.Laws.CopyOwn
import Derived.Laws.Tables
import Derived.Test.YtmfgkidppchobaaDoorWGuard
import Derived.Outline
namespace Go.Proofs.YtmfgkidppchobaaDoor.VT
open Go.RowKit
def Tab (w : World) : Prop := Lib.TabIs Tryd.prog w "internal/strconv.uint64pow10" .u64 Lib.pow10Tab
theorem gP : Tryd.prog.globalNamed "internal/strconv.uint64pow10" = some 4 := by kernel_rfl
def V (w : World) : Prop := Vars.Vars w ∧ Tab w ∧ 4 < w.heap.size
theorem V.below {w w' : World} (h : V w) (b : Below w.heap.size w w') : V w' := by
 refine ⟨h.1.below b, ?_, Nat.lt_of_lt_of_le h.2.2 b.size⟩
 exact var?_below b gP h.2.2 h.2.1
theorem tab_lt {w : World} (h : Tab w) : 4 < w.heap.size := by
 have := Lib.TabIs.cell h gP 0 (by decide)
 exact Lib.lt_of_cell this
theorem vars_of {w : World} (h : laidMetH Tryd.prog Vars.laid w) : V w := by
 have h1 := Vars.vars_of h
 rw [MakeChecks.laidMetH_plain _ _ _ (by kernel_rfl)] at h
 have h3 : laidMet Tryd.prog (Vars.laid.tail.tail) w := h.tail.tail
 have h4 : Tab w := Lib.tabIs_of_head (rest := Vars.laid.tail.tail.tail) gP (t := 129) (e := 94) (n := 20) (by kernel_rfl) Tryd.underlying129 Tryd.underlying94 (by kernel_rfl) (by kernel_rfl) h3
 exact ⟨h1, h4, tab_lt h4⟩
end Go.Proofs.YtmfgkidppchobaaDoor.VT
set_option linter.unusedSimpArgs false
set_option linter.unusedVariables false
namespace Go.Proofs.YtmfgkidppchobaaDoor.Ver1
open Go.RowKit Go.Proofs.YtmfgkidppchobaaDoorW.PrintWords Go.Proofs.YtmfgkidppchobaaDoorW.PrintLast Go.Proofs.YtmfgkidppchobaaDoor.XFnVersionWays
def IsVer (w : World) (g : Nat) (l : List Int) (sv : Bool) (pre bld : ByteArray) : Prop :=
 ∃ A c, w.heap[g]? = some (.cells #[.slice A l.length c, .bool sv, .string pre, .string bld] 87 (0, 0)) ∧ Kd.C (Kd.int .u64) w A l.length l ∧ l.length ≤ c
theorem IsVer.lt {w : World} {g : Nat} {l : List Int} {sv : Bool} {pre bld : ByteArray} (h : IsVer w g l sv pre bld) : g < w.heap.size := by
 obtain ⟨A, c, hb, _, _⟩ := h
 exact blk_lt hb
theorem IsVer.below {w w' : World} {g : Nat} {l : List Int} {sv : Bool} {pre bld : ByteArray} (h : IsVer w g l sv pre bld) (b : Below w.heap.size w w') : IsVer w' g l sv pre bld := by
 have hl := h.lt
 obtain ⟨A, c, hb, hr, hc⟩ := h
 exact ⟨A, c, (b.block g hl).trans hb, Kd.C_below hr b, hc⟩
theorem cV0 {W : World} {g n c : Nat} {A : Option Addr} {sv : Bool} {pre bld : ByteArray} (h : W.heap[g]? = some (.cells #[.slice A n c, .bool sv, .string pre, .string bld] 87 (0, 0))) : W.cell? ⟨g, 0, none⟩ = some (.slice A n c) := (blk_cell h 0).trans rfl
theorem cV2 {W : World} {g n c : Nat} {A : Option Addr} {sv : Bool} {pre bld : ByteArray} (h : W.heap[g]? = some (.cells #[.slice A n c, .bool sv, .string pre, .string bld] 87 (0, 0))) : W.cell? ⟨g, 2, none⟩ = some (.string pre) := (blk_cell h 2).trans rfl
theorem cV1 {W : World} {g n c : Nat} {A : Option Addr} {sv : Bool} {pre bld : ByteArray} (h : W.heap[g]? = some (.cells #[.slice A n c, .bool sv, .string pre, .string bld] 87 (0, 0))) : W.cell? ⟨g, 1, none⟩ = some (.bool sv) := (blk_cell h 1).trans rfl
theorem cV3 {W : World} {g n c : Nat} {A : Option Addr} {sv : Bool} {pre bld : ByteArray} (h : W.heap[g]? = some (.cells #[.slice A n c, .bool sv, .string pre, .string bld] 87 (0, 0))) : W.cell? ⟨g, 3, none⟩ = some (.string bld) := (blk_cell h 3).trans rfl
theorem C_row {w : World} {g : Nat} (l : List Int) {T : TypeId} (hl : l.length ≤ 9223372036854775807) (h : w.heap[g]? = some (.cells (l.map (Value.int .u64)).toArray T (0, 0))) : (Kd.int .u64).C w (some ⟨g, 0, none⟩) l.length l := by
 refine ⟨rfl, by omega, fun _ => ⟨_, rfl, fun j p hj => ?_⟩⟩
 refine ⟨[.int .u64 p], rfl, rfl, fun i u hi => ?_⟩
 obtain rfl : i = 0 := by have := (List.getElem?_eq_some_iff.1 hi).1; simp at this; omega
 obtain rfl : Value.int .u64 p = u := by simpa using hi
 have e : (⟨g, 0, none⟩ : Addr).add (j * (Kd.int .u64).sz + 0) = ⟨g, j, none⟩ := by
  show (⟨g, 0, none⟩ : Addr).add (j * 1 + 0) = ⟨g, j, none⟩
  rw [Nat.mul_one, Nat.add_zero]
  unfold Go.Addr.add
  by_cases hj0 : j = 0
  ·subst hj0; rfl
  ·rw [if_neg hj0, Nat.zero_add]
 rw [e]
 refine (blk_cell h _).trans ?_
 simp [hj]
def Ptr (g : Nat) : Value := .pointer (some ⟨g, 0, none⟩)
set_option maxHeartbeats 600000 in
set_option maxRecDepth 100000 in
theorem errNew (s : ByteArray) (w : World) : Calls Tryd.prog 71 #[.string s] w fun e w' => ∃ p, e = .returned (.iface 107 p) ∧ Below w.heap.size w w' := by
 go_enter Tryd.func71, Tryd.ntmps71
 go_wp2
 go_ret
 exact ⟨_, rfl, below_alloc (Below.refl _ _) _⟩
set_option maxHeartbeats 600000 in
set_option maxRecDepth 100000 in
theorem preRelease_calls (g : Nat) (l : List Int) (sv : Bool) (pre bld : ByteArray) (w : World) (hI : IsVer w g l sv pre bld) : Calls Tryd.prog 63 #[Ptr g] w fun e w' => e = .returned (.string pre) ∧ w' = w := by
 unfold Ptr
 have hIx := Aside0.mk hI
 obtain ⟨A, c, hG, hr, hlc⟩ := hI
 have hc0 := cV0 hG
 have hc1 := cV1 hG
 have hc2 := cV2 hG
 have hc3 := cV3 hG
 clear hG
 clear hr hlc
 go_enter Tryd.func63, Tryd.ntmps63
 go_wp2
 go_ret
 exact ⟨rfl, rfl⟩
set_option maxHeartbeats 600000 in
set_option maxRecDepth 100000 in
theorem build_calls (g : Nat) (l : List Int) (sv : Bool) (pre bld : ByteArray) (w : World) (hI : IsVer w g l sv pre bld) : Calls Tryd.prog 64 #[Ptr g] w fun e w' => e = .returned (.string bld) ∧ w' = w := by
 unfold Ptr
 have hIx := Aside0.mk hI
 obtain ⟨A, c, hG, hr, hlc⟩ := hI
 have hc0 := cV0 hG
 have hc1 := cV1 hG
 have hc2 := cV2 hG
 have hc3 := cV3 hG
 clear hG
 clear hr hlc
 go_enter Tryd.func64, Tryd.ntmps64
 go_wp2
 go_ret
 exact ⟨rfl, rfl⟩
set_option maxHeartbeats 600000 in
set_option maxRecDepth 100000 in
theorem components_calls (g : Nat) (l : List Int) (sv : Bool) (pre bld : ByteArray) (w : World) (hI : IsVer w g l sv pre bld) : Calls Tryd.prog 62 #[Ptr g] w fun e w' => ∃ A c, e = .returned (.slice A l.length c) ∧ w' = w ∧ Kd.C (Kd.int .u64) w A l.length l ∧ l.length ≤ c := by
 unfold Ptr
 have hIx := Aside0.mk hI
 obtain ⟨A, c, hG, hr, hlc⟩ := hI
 have hc0 := cV0 hG
 have hc1 := cV1 hG
 have hc2 := cV2 hG
 have hc3 := cV3 hG
 clear hG
 have hr := Aside0.mk hr
 have hlc := Aside0.mk hlc
 go_enter Tryd.func62, Tryd.ntmps62
 go_wp2
 go_ret
 exact ⟨A, c, rfl, rfl, hr.out, hlc.out⟩
set_option maxHeartbeats 600000 in
set_option maxRecDepth 100000 in
theorem major_calls (g : Nat) (l : List Int) (sv : Bool) (pre bld : ByteArray) (w : World) (hI : IsVer w g l sv pre bld) (hn : 0 < l.length) : Calls Tryd.prog 66 #[Ptr g] w fun e w' => e = .returned (.int .u64 (rd l 0)) ∧ w' = w := by
 unfold Ptr
 have hIx := Aside0.mk hI
 obtain ⟨A, c, hG, hr, hlc⟩ := hI
 have hc0 := cV0 hG
 have hc1 := cV1 hG
 have hc2 := cV2 hG
 have hc3 := cV3 hG
 clear hG
 have p1 : 0 ≤ (0 : Int) := by omega
 have q1 : (0 : Int) < (l.length : Int) := by omega
 obtain ⟨ad, e1, hx⟩ := Kd.at_int hr 0 p1 q1
 cases e1
 try simp only [show (0 : Int).toNat = 0 from rfl, Nat.reduceMul, Nat.reduceEqDiff, Go.Addr.add, ↓reduceIte] at hx
 try rw [Addr.add_zero'] at hx
 have qi : (0 < l.length) = True := eq_true (by omega)
 replace p1 := eq_true p1
 replace q1 := eq_true q1
 clear hr hlc hn
 go_enter Tryd.func66, Tryd.ntmps66
 go_wp2
 go_ret
 exact ⟨rfl, rfl⟩
set_option maxHeartbeats 600000 in
set_option maxRecDepth 100000 in
theorem minor_calls (g : Nat) (l : List Int) (sv : Bool) (pre bld : ByteArray) (w : World) (hI : IsVer w g l sv pre bld) (hn : 1 < l.length) : Calls Tryd.prog 67 #[Ptr g] w fun e w' => e = .returned (.int .u64 (rd l 1)) ∧ w' = w := by
 unfold Ptr
 have hIx := Aside0.mk hI
 obtain ⟨A, c, hG, hr, hlc⟩ := hI
 have hc0 := cV0 hG
 have hc1 := cV1 hG
 have hc2 := cV2 hG
 have hc3 := cV3 hG
 clear hG
 have p1 : 0 ≤ (1 : Int) := by omega
 have q1 : (1 : Int) < (l.length : Int) := by omega
 obtain ⟨ad, e1, hx⟩ := Kd.at_int hr 1 p1 q1
 cases e1
 try simp only [show (1 : Int).toNat = 1 from rfl, Nat.reduceMul, Nat.reduceEqDiff, Go.Addr.add, ↓reduceIte] at hx
 try rw [Addr.add_zero'] at hx
 have qi : (1 < l.length) = True := eq_true (by omega)
 replace p1 := eq_true p1
 replace q1 := eq_true q1
 clear hr hlc hn
 go_enter Tryd.func67, Tryd.ntmps67
 go_wp2
 go_ret
 exact ⟨rfl, rfl⟩
def third (l : List Int) : Int := if (l.length : Int) < 3 then 0 else rd l 2
set_option maxHeartbeats 600000 in
set_option maxRecDepth 100000 in
theorem patch_calls (g : Nat) (l : List Int) (sv : Bool) (pre bld : ByteArray) (w : World) (hI : IsVer w g l sv pre bld) : Calls Tryd.prog 68 #[Ptr g] w fun e w' => e = .returned (.int .u64 (third l)) ∧ w' = w := by
 unfold Ptr third
 have hIx := Aside0.mk hI
 obtain ⟨A, c, hG, hr, hlc⟩ := hI
 have hc0 := cV0 hG
 have hc1 := cV1 hG
 have hc2 := cV2 hG
 have hc3 := cV3 hG
 clear hG
 by_cases c2 : (l.length : Int) < 3
 ·rw [if_pos c2]
  have c2b0 := decide_eq_true c2
  have c2b1 : decide (l.length < 3) = true := decide_eq_true (by omega)
  clear c2 hr hlc
  go_enter Tryd.func68, Tryd.ntmps68
  go_wp2
  go_ret
  exact ⟨rfl, rfl⟩
 ·rw [if_neg c2]
  have c2b0 := decide_eq_false c2
  have c2b1 : decide (l.length < 3) = false := decide_eq_false (by omega)
  have p1 : 0 ≤ (2 : Int) := by omega
  have q1 : (2 : Int) < (l.length : Int) := by omega
  obtain ⟨ad, e1, hx⟩ := Kd.at_int hr 2 p1 q1
  cases e1
  try simp only [show (2 : Int).toNat = 2 from rfl, Nat.reduceMul, Nat.reduceEqDiff, Go.Addr.add, ↓reduceIte] at hx
  try rw [Addr.add_zero'] at hx
  have qi : (2 < l.length) = True := eq_true (by omega)
  replace p1 := eq_true p1
  replace q1 := eq_true q1
  clear hr hlc c2
  go_enter Tryd.func68, Tryd.ntmps68
  go_wp2
  go_ret
  exact ⟨rfl, rfl⟩
set_option maxHeartbeats 600000 in
set_option maxRecDepth 100000 in
theorem majorMinor_calls (a b : Int) (w : World) : Calls Tryd.prog 48 #[.int .u64 a, .int .u64 b] w fun e w' => ∃ g, e = .returned (Ptr g) ∧ IsVer w' g [a, b] false ⟨#[]⟩ ⟨#[]⟩ ∧ Below w.heap.size w w' := by
 unfold Ptr
 go_enter Tryd.func48, Tryd.ntmps48
 go_wp2
 go_ret
 refine ⟨w.heap.size + 1, rfl, ⟨some ⟨w.heap.size, 0, none⟩, 2, ?_, ?_, Nat.le_refl _⟩, below_alloc (below_alloc (Below.refl _ _) _) _⟩
 ·have h := heap_alloc_new (w.alloc (Obj.cells #[Value.int IntKind.u64 a, Value.int IntKind.u64 b] 36)) (Obj.cells #[Value.slice (some ⟨w.heap.size, 0, none⟩) 2 2, Value.bool false, Value.string ⟨#[]⟩, Value.string ⟨#[]⟩] 87)
  rwa [World.size_alloc] at h
 ·refine C_row (g := w.heap.size) [a, b] (by simp) (T := 36) ?_
  rw [Below.heap_alloc _ _ _ (by rw [World.size_alloc]; omega)]
  exact heap_alloc_new w _
end Go.Proofs.YtmfgkidppchobaaDoor.Ver1
set_option linter.unusedSimpArgs false
set_option linter.unusedVariables false
namespace Go.Proofs.YtmfgkidppchobaaDoor.Ver2
open Go.Sort Go.RowKit Go.Proofs.YtmfgkidppchobaaDoorW.PrintWords Go.Proofs.YtmfgkidppchobaaDoorW.PrintLast Go.Proofs.YtmfgkidppchobaaDoor.XFnVersionWays Go.Proofs.YtmfgkidppchobaaDoor.Ver1
def digs (u : Nat) : ByteArray := ⟨(Lib.decDigits u).toArray⟩
set_option maxHeartbeats 2000000 in
set_option maxRecDepth 100000 in
theorem innerFormat (u : Nat) (hu : u < 18446744073709551616) (w : World) (hV : VT.V w) : Calls Tryd.prog 91 #[.int .u64 u, .int .i64 10] w fun e w' => e = .returned (.string (digs u)) ∧ Below w.heap.size w w' := by
 unfold digs
 by_cases hs : u < 100
 ·have hwr : IntKind.i64.wrap (u : Int) = (u : Int) := by rw [i64_w]; unfold wrap64; omega
  have c1 : decide ((u : Int) < 100) = true := decide_eq_true (by omega)
  have c2 : decide (u < 100) = true := decide_eq_true hs
  go_enter Tryd.func91, Tryd.ntmps91
  go_wp2_with fail
  refine (Tryd.internal_strconv_small u hs _).mono ?_
  rintro e w1 ⟨rfl, rfl⟩
  go_wp2_with fail
  go_ret
  exact ⟨rfl, Below.refl _ _⟩
 ·have c1 : decide ((u : Int) < 100) = false := decide_eq_false (by omega)
  have c2 : decide (u < 100) = false := decide_eq_false hs
  have hu1 : 1 ≤ u := by omega
  have htab := hV.2.1
  have hnd20 : Lib.nDigits u ≤ 20 := by have := Lib.numDigits_eq u hu1 hu; split at this <;> omega
  have hb3 : Lib.nDigits u ≤ 24 := by omega
  have hal : Tryd.prog.arrayLen 121 = 24 := by kernel_rfl
  have hsl1 : ∀ W, (Instr.sliceAt 121 (.pointer (some ⟨w.heap.size, 0, none⟩)) none (some (.int .i64 (Lib.nDigits u : Int))) none).run Tryd.prog W = .ok (.slice (some ⟨w.heap.size, 0, none⟩) (Lib.nDigits u) 24) W := fun W => by
   rw [run_sliceAt_array_h W 121 ⟨w.heap.size, 0, none⟩ (by kernel_rfl) .i64 (Lib.nDigits u : Int) (by omega) (by rw [hal]; omega)]
   rw [show Tryd.prog.elem 121 = 5 from by kernel_rfl]
   go_simp
   try omega
  have hH0 := Lib.holds_zero0 w 121 (Lib.nDigits u) hb3
  have hfmt := Tryd.internal_strconv_formatBase10 w.heap.size 0 24 u (Array.replicate (Lib.nDigits u) 0) (w.alloc (.cells Lib.zeros24 121)) hH0 (by rw [Array.size_replicate]; exact Lib.lt_pow_nDigits u) hu (by rw [Array.size_replicate]; omega)
  rw [Array.size_replicate] at hfmt
  have HH0 := Lib.hid hH0
  clear hH0 hal
  have hV := Aside0.mk hV
  have hfm := Aside0.mk hfmt
  clear hfmt
  go_enter Tryd.func91, Tryd.ntmps91
  go_wp2_with fail
  refine (Tryd.internal_strconv_numDigits u hu1 hu _ (Lib.tabIs_alloc htab _)).mono ?_
  rintro e w1 ⟨rfl, rfl⟩
  go_wp2_with fail
  refine hfm.out.mono ?_
  rintro e w1 ⟨rfl, k, v', dk, rfl, hF⟩
  have hcv : (convert 91 9 (.slice (some ⟨w.heap.size, 0, none⟩) (Lib.nDigits u) 24)).run Tryd.prog ((putRow (fun (b : UInt8) => Value.int .u8 (b.toNat : Int)) (w.alloc (.cells Lib.zeros24 121)) w.heap.size 0 dk).drewN k) = .ok (.string ⟨(Lib.decDigits u).toArray⟩) ((putRow (fun (b : UInt8) => Value.int .u8 (b.toNat : Int)) (w.alloc (.cells Lib.zeros24 121)) w.heap.size 0 dk).drewN k) := by
   have h := run_convert_bytes_back (P := Tryd.prog) ((putRow (fun (b : UInt8) => Value.int .u8 (b.toNat : Int)) (w.alloc (.cells Lib.zeros24 121)) w.heap.size 0 dk).drewN k) 91 9 5 ⟨w.heap.size, 0, none⟩ 24 (Lib.decDigits u) Tryd.underlying91 Tryd.underlying5 Tryd.underlying9 (fun j hj => by
    rw [Lib.row_is_numeral hF j hj, Lib.add_plain, World.cell?_drewN]
    exact cell?_putRow (fun (b : UInt8) => Value.int .u8 (b.toNat : Int)) _ w.heap.size 0 _ dk HH0.out (by rw [hF.size, Array.size_replicate]) j (by rw [hF.size]; rw [Lib.decDigits_length] at hj; exact hj))
   rw [Lib.decDigits_length] at h
   exact h
  go_wp2_with fail
  go_ret
  obtain ⟨os, eo⟩ := Lib.fin_at w (.cells Lib.zeros24 121) dk k 0
  refine ⟨rfl, ?_⟩
  rw [eo]
  exact ⟨rfl, rfl, rfl, by rw [size_grow]; exact Nat.le_add_right _ _, fun g hg => by
   show ((w.drewN k).heap ++ os)[g]? = w.heap[g]?
   rw [Array.getElem?_append]
   exact if_pos hg⟩
set_option maxHeartbeats 600000 in
set_option maxRecDepth 100000 in
theorem formatUint (u : Nat) (hu : u < 18446744073709551616) (w : World) (hV : VT.V w) : Calls Tryd.prog 78 #[.int .u64 u, .int .i64 10] w fun e w' => e = .returned (.string (digs u)) ∧ Below w.heap.size w w' := by
 have hV := Aside0.mk hV
 go_enter Tryd.func78, Tryd.ntmps78
 go_wp2_with fail
 refine (innerFormat u hu _ hV.out).mono ?_
 rintro e w1 ⟨rfl, hB⟩
 go_wp2_with fail
 go_ret
 exact ⟨rfl, hB⟩
end Go.Proofs.YtmfgkidppchobaaDoor.Ver2
set_option linter.unusedSimpArgs false
set_option linter.unusedVariables false
namespace Go.Proofs.YtmfgkidppchobaaDoor.Ver3
open Go.RowKit Go.Proofs.YtmfgkidppchobaaDoorW.PrintWords Go.Proofs.YtmfgkidppchobaaDoorW.PrintLast Go.Proofs.YtmfgkidppchobaaDoor.XFnVersionWays Go.Proofs.YtmfgkidppchobaaDoor.Ver1 Go.Proofs.YtmfgkidppchobaaDoor.Ver2
def nt (l : List Int) : List UInt8 := l.foldl (fun acc n => (if acc = [] then [] else acc ++ [46]) ++ Lib.decDigits n.toNat) []
theorem nt_snoc (l : List Int) (n : Int) : nt (l ++ [n]) = (if nt l = [] then [] else nt l ++ [46]) ++ Lib.decDigits n.toNat := by unfold nt; rw [List.foldl_append]; rfl
theorem dd_pos (u : Nat) : 0 < (Lib.decDigits u).length := by
 rw [Lib.decDigits_length]
 unfold Lib.nDigits
 split <;> omega
theorem dd_le (u : Nat) (hu : u < 18446744073709551616) : (Lib.decDigits u).length ≤ 20 := by
 rw [Lib.decDigits_length]
 by_cases h : 1 ≤ u
 ·have := Lib.numDigits_eq u h hu; split at this <;> omega
 ·obtain rfl : u = 0 := by omega
  unfold Lib.nDigits
  simp
theorem snoc_ind {P : List Int → Prop} (h0 : P []) (h1 : ∀ l x, P l → P (l ++ [x])) (l : List Int) : P l := by
 rw [← List.reverse_reverse l]
 induction l.reverse with
 | nil => exact h0
 | cons x l ih => rw [List.reverse_cons]; exact h1 _ _ ih
theorem nt_nil (l : List Int) : nt l = [] ↔ l = [] := by
 refine snoc_ind (P := fun l => nt l = [] ↔ l = []) (by simp [nt]) (fun l x _ => ?_) l
 rw [nt_snoc]
 constructor
 ·intro h
  have h2 := congrArg List.length h
  rw [List.length_append] at h2
  have := dd_pos x.toNat
  simp only [List.length_nil] at h2
  omega
 ·intro h
  simp at h
def U64 (l : List Int) : Prop := ∀ x ∈ l, 0 ≤ x ∧ x < 18446744073709551616
theorem nt_len (l : List Int) : U64 l → (nt l).length ≤ 21 * l.length := by
 refine snoc_ind (P := fun l => U64 l → (nt l).length ≤ 21 * l.length) (by intro _; simp [nt]) (fun l x ih h => ?_) l
 have h1 := ih (fun y hy => h y (List.mem_append_left _ hy))
 have h2 := h x (by simp)
 have h3 := dd_le x.toNat (by omega)
 rw [nt_snoc, List.length_append, List.length_append, List.length_singleton]
 split
 ·simp only [List.length_nil]; omega
 ·rw [List.length_append, List.length_singleton]; omega
def textB (l : List Int) (pre bld : ByteArray) : List UInt8 := nt l ++ (if pre.toList = [] then [] else [45] ++ pre.data.toList) ++ (if bld.toList = [] then [] else [43] ++ bld.data.toList)
def text (l : List Int) (pre bld : ByteArray) : ByteArray := ⟨(textB l pre bld).toArray⟩
theorem take_succ {l : List Int} {k : Nat} {x : Int} (h : l[k]? = some x) : l.take (k + 1) = l.take k ++ [x] := by
 rw [List.take_add_one, h]; rfl
theorem rd_at {l : List Int} {k : Nat} {x : Int} (h : rd l (k : Int) = x) (hk : k < l.length) : l[k]? = some x := by
 rw [← h]
 simp [rd, hk]
abbrev Buf (w : World) (b : Nat) (l : List UInt8) : Prop := Lib.IsBuffer 101 5 b b (Lib.byteCells l) w
theorem write_calls (b : Nat) (l : List UInt8) (s : ByteArray) (w : World) (h : Buf w b l) (hb : b ≤ w.heap.size) (hl : l.length + s.size ≤ 140737488355328) :
  Calls Tryd.prog 77 #[.pointer (some ⟨b, 0, none⟩), .string s] w fun e w' => ∃ v, e = .returned v ∧ Buf w' b (l ++ s.data.toList) ∧ Below b w w' := by
 refine (Tryd.Buffer_WriteString_k b b (Lib.byteCells l) s w h hb (Lib.byteCells_one l) (by rw [Lib.byteCells_length]; exact hl)).mono ?_
 rintro e w' ⟨rfl, h1, h2, _⟩
 exact ⟨_, rfl, by rw [Buf, Lib.byteCells_append]; exact h1, h2⟩
theorem meas {k n : Nat} (h : k + 1 ≤ n) : n - (intOf (.int .i64 ((k + 1 : Nat) : Int))).toNat < n - (intOf (.int .i64 (k : Int))).toNat := by
 show n - ((k + 1 : Nat) : Int).toNat < n - (k : Int).toNat
 rw [Int.toNat_natCast, Int.toNat_natCast]
 omega
set_option maxHeartbeats 2000000 in
set_option maxRecDepth 100000 in
theorem string_calls (g : Nat) (l : List Int) (sv : Bool) (pre bld : ByteArray) (w : World) (hI : IsVer w g l sv pre bld) (hu : U64 l) (hl : l.length ≤ 4294967296) (hp : pre.size ≤ 4294967296) (hb : bld.size ≤ 4294967296) (hV : VT.V w) :
  Calls Tryd.prog 65 #[Ptr g] w fun e w' => e = .returned (.string (text l pre bld)) ∧ Below w.heap.size w w' := by
 unfold Ptr
 have hg := hI.lt
 have hIx := Aside0.mk hI
 replace hu := Aside0.mk hu
 have hlx := Aside0.mk hl
 have hpx := Aside0.mk hp
 have hbx := Aside0.mk hb
 replace hV := Aside0.mk hV
 obtain ⟨A, c, hG, hr, hlc⟩ := hI
 have hc0 := cV0 hG
 have hc2 := cV2 hG
 have hc3 := cV3 hG
 replace hlc := Aside0.mk hlc
 clear hG hp hb
 go_enter Tryd.func65, Tryd.ntmps65
 go_wp2_with fail
 go_loopw [13] (fun i wr => ∃ k : Nat, k ≤ l.length ∧ i = .int .i64 k ∧ Buf wr w.heap.size (nt (l.take k)) ∧ Below w.heap.size w wr) (fun i _ => l.length - (intOf i).toNat)
 case atStart => exact ⟨0, Nat.zero_le _, rfl, Lib.fresh_isBuffer _ _ w, below_alloc (Below.refl _ _) _⟩
 case round =>
  obtain ⟨k, hk, rfl, hM, hB⟩ := hrel
  have hrk := Kd.C_below hr hB
  have hg0 := Aside0.mk ((hB.cell (show (⟨g, 0, none⟩ : Addr).block < w.heap.size from hg)).trans hc0)
  have hg2 := (hB.cell (show (⟨g, 2, none⟩ : Addr).block < w.heap.size from hg)).trans hc2
  have hg3 := (hB.cell (show (⟨g, 3, none⟩ : Addr).block < w.heap.size from hg)).trans hc3
  replace hM := Aside0.mk hM
  replace hB := Aside0.mk hB
  by_cases c3 : (k : Int) < (l.length : Int)
  ·obtain ⟨x, hx⟩ : ∃ x, rd l (k : Int) = x := ⟨_, rfl⟩
   have hxl := Aside0.mk (rd_at hx (by omega))
   have hxu := hu.out x (List.mem_of_getElem? hxl.out)
   have p := Int.natCast_nonneg k
   obtain ⟨ad, e1, hcell⟩ := Kd.at_int hrk (k : Int) p c3
   rw [hx, Int.toNat_natCast] at hcell
   cases e1
   have c3b := decide_eq_true c3
   have hk2 := Aside0.mk (show k + 1 ≤ l.length by omega)
   obtain ⟨u, rfl⟩ : ∃ u : Nat, x = (u : Int) := ⟨x.toNat, by omega⟩
   have hxu := Aside0.mk (show u < 18446744073709551616 by omega)
   have hsz := Aside0.mk hB.out.size
   have hlen := Aside0.mk (show (nt (l.take k)).length ≤ 21 * l.length from Nat.le_trans (nt_len (l.take k) (fun y hy => hu.out y (List.mem_of_mem_take hy))) (Nat.mul_le_mul_left 21 (by rw [List.length_take]; omega)))
   replace p := eq_true p
   replace c3 := eq_true c3
   clear hrk hx hg2 hg3
   by_cases c0 : k = 0
   ·have c0b : decide (0 < (k : Int)) = false := decide_eq_false (by omega)
    have c0c : decide (0 < k) = false := decide_eq_false (by omega)
    replace c0 := Aside0.mk c0
    go_wp2_with fail
    refine (formatUint u hxu.out _ (hV.out.below hB.out)).mono ?_
    rintro e w2 ⟨rfl, hB2⟩
    replace hM := Aside0.mk (hM.out.old hB2)
    replace hB := Aside0.mk (below_then hB.out hB.out.size hB2)
    clear hB2
    go_wp2_with fail
    refine (write_calls w.heap.size _ _ _ hM.out hB.out.size (by rw [show (digs u).size = (Lib.decDigits u).length from rfl]; have := dd_le u hxu.out; have := hlen.out; have := hlx.out; omega)).mono ?_
    rintro e w3 ⟨v, rfl, hM3, hB3⟩
    replace hM3 := Aside0.mk hM3
    replace hB := Aside0.mk (hB.out.trans hB3)
    clear hB3
    go_wp2_with fail
    go_roundw
    case measure => have := hk2.out; first | exact meas this | (rw [show (k : Int) + 1 = ((k + 1 : Nat) : Int) from rfl]; exact meas this)
    case rel =>
     refine ⟨k + 1, hk2.out, by go_num, ?_, hB.out⟩
     have e0 : nt (l.take k) = [] := (nt_nil _).2 (by rw [c0.out]; rfl)
     have h3 := hM3.out
     rw [e0] at h3
     rw [take_succ hxl.out, nt_snoc, if_pos e0, Int.toNat_natCast]
     exact h3
   ·have c0b : decide (0 < (k : Int)) = true := decide_eq_true (by omega)
    have c0c : decide (0 < k) = true := decide_eq_true (by omega)
    have c0x := Aside0.mk (show ¬ nt (l.take k) = [] from fun e => by
     have := congrArg List.length ((nt_nil _).1 e)
     rw [List.length_take] at this
     simp only [List.length_nil] at this
     omega)
    clear c0
    go_wp2_with fail
    refine (write_calls w.heap.size _ ⟨#[46]⟩ _ hM.out hB.out.size (by rw [show (⟨#[46]⟩ : ByteArray).size = 1 from rfl]; have := hlen.out; have := hlx.out; omega)).mono ?_
    rintro e w1 ⟨v, rfl, hM1, hB1⟩
    replace hM1 := Aside0.mk hM1
    replace hB := Aside0.mk (hB.out.trans hB1)
    clear hB1
    go_wp2_with fail
    refine (formatUint u hxu.out _ (hV.out.below hB.out)).mono ?_
    rintro e w2 ⟨rfl, hB2⟩
    replace hM1 := Aside0.mk (hM1.out.old hB2)
    replace hB := Aside0.mk (below_then hB.out hB.out.size hB2)
    clear hB2
    go_wp2_with fail
    refine (write_calls w.heap.size _ _ _ hM1.out hB.out.size (by rw [show (digs u).size = (Lib.decDigits u).length from rfl, List.length_append]; have := dd_le u hxu.out; have := hlen.out; have := hlx.out; have : ([46] : List UInt8).length = 1 := rfl; have : (⟨#[46]⟩ : ByteArray).data.toList.length = 1 := rfl; omega)).mono ?_
    rintro e w3 ⟨v, rfl, hM3, hB3⟩
    replace hM3 := Aside0.mk hM3
    replace hB := Aside0.mk (hB.out.trans hB3)
    clear hB3
    go_wp2_with fail
    go_roundw
    case measure => have := hk2.out; first | exact meas this | (rw [show (k : Int) + 1 = ((k + 1 : Nat) : Int) from rfl]; exact meas this)
    case rel =>
     refine ⟨k + 1, hk2.out, by go_num, ?_, hB.out⟩
     rw [take_succ hxl.out, nt_snoc, if_neg c0x.out, Int.toNat_natCast]
     exact hM3.out
  ·have c3b := decide_eq_false c3
   obtain rfl : k = l.length := by omega
   rw [List.take_length] at hM
   have hlen := Aside0.mk (nt_len l hu.out)
   clear hrk c3
   clear hg2 hg3
   by_cases epre : pre.toList = []
   ·have qpre : (pre.toList == []) = true := by rw [epre]; rfl
    have rpre : pre.toList.isEmpty = true := by rw [epre]; rfl
    by_cases ebld : bld.toList = []
    ·have qbld : (bld.toList == []) = true := by rw [ebld]; rfl
     have rbld : bld.toList.isEmpty = true := by rw [ebld]; rfl
     have ebx := Aside0.mk ebld
     have epx := Aside0.mk epre
     clear ebld epre
     have hg2 := (hB.out.cell (show (⟨g, 2, none⟩ : Addr).block < w.heap.size from hg)).trans hc2
     have hg3 := (hB.out.cell (show (⟨g, 3, none⟩ : Addr).block < w.heap.size from hg)).trans hc3
     go_wp2_with fail
     refine (Tryd.Buffer_String w.heap.size w.heap.size _ _ hM.out).mono ?_
     rintro e w1 ⟨rfl, n, rfl⟩
     go_wp2_with fail
     go_ret
     refine ⟨?_, pw_below_drewN hB.out n⟩
     unfold text textB
     rw [if_pos epx.out, if_pos ebx.out]
     simp only [List.append_nil, List.append_assoc]
     rfl
    ·have qbld : (bld.toList == []) = false := beq_eq_false_iff_ne.mpr ebld
     have rbld : bld.toList.isEmpty = false := by cases h : bld.toList with
      | nil => exact absurd h ebld
      | cons a t => rfl
     have ebx := Aside0.mk ebld
     have epx := Aside0.mk epre
     clear ebld epre
     have hg2 := (hB.out.cell (show (⟨g, 2, none⟩ : Addr).block < w.heap.size from hg)).trans hc2
     have hg3 := (hB.out.cell (show (⟨g, 3, none⟩ : Addr).block < w.heap.size from hg)).trans hc3
     go_wp2_with fail
     refine (write_calls w.heap.size _ ⟨#[43]⟩ _ hM.out hB.out.size (by simp only [List.length_append, show (⟨#[45]⟩ : ByteArray).data.toList.length = 1 from rfl, show (⟨#[45]⟩ : ByteArray).size = 1 from rfl, show (⟨#[43]⟩ : ByteArray).data.toList.length = 1 from rfl, show (⟨#[43]⟩ : ByteArray).size = 1 from rfl, show pre.data.toList.length = pre.size from rfl, show bld.data.toList.length = bld.size from rfl]; have := hlen.out; have := hpx.out; have := hbx.out; omega)).mono ?_
     rintro e w1 ⟨v, rfl, hM1, hB1⟩
     replace hM := Aside0.mk hM1
     replace hB := Aside0.mk (hB.out.trans hB1)
     clear hM1 hB1
     clear hg2 hg3
     have hg2 := (hB.out.cell (show (⟨g, 2, none⟩ : Addr).block < w.heap.size from hg)).trans hc2
     have hg3 := (hB.out.cell (show (⟨g, 3, none⟩ : Addr).block < w.heap.size from hg)).trans hc3
     go_wp2_with fail
     refine (write_calls w.heap.size _ bld _ hM.out hB.out.size (by simp only [List.length_append, show (⟨#[45]⟩ : ByteArray).data.toList.length = 1 from rfl, show (⟨#[45]⟩ : ByteArray).size = 1 from rfl, show (⟨#[43]⟩ : ByteArray).data.toList.length = 1 from rfl, show (⟨#[43]⟩ : ByteArray).size = 1 from rfl, show pre.data.toList.length = pre.size from rfl, show bld.data.toList.length = bld.size from rfl]; have := hlen.out; have := hpx.out; have := hbx.out; omega)).mono ?_
     rintro e w1 ⟨v, rfl, hM1, hB1⟩
     replace hM := Aside0.mk hM1
     replace hB := Aside0.mk (hB.out.trans hB1)
     clear hM1 hB1
     clear hg2 hg3
     have hg2 := (hB.out.cell (show (⟨g, 2, none⟩ : Addr).block < w.heap.size from hg)).trans hc2
     have hg3 := (hB.out.cell (show (⟨g, 3, none⟩ : Addr).block < w.heap.size from hg)).trans hc3
     go_wp2_with fail
     refine (Tryd.Buffer_String w.heap.size w.heap.size _ _ hM.out).mono ?_
     rintro e w1 ⟨rfl, n, rfl⟩
     go_wp2_with fail
     go_ret
     refine ⟨?_, pw_below_drewN hB.out n⟩
     unfold text textB
     rw [if_pos epx.out, if_neg ebx.out]
     simp only [List.append_nil, List.append_assoc]
     rfl
   ·have qpre : (pre.toList == []) = false := beq_eq_false_iff_ne.mpr epre
    have rpre : pre.toList.isEmpty = false := by cases h : pre.toList with
     | nil => exact absurd h epre
     | cons a t => rfl
    by_cases ebld : bld.toList = []
    ·have qbld : (bld.toList == []) = true := by rw [ebld]; rfl
     have rbld : bld.toList.isEmpty = true := by rw [ebld]; rfl
     have ebx := Aside0.mk ebld
     have epx := Aside0.mk epre
     clear ebld epre
     have hg2 := (hB.out.cell (show (⟨g, 2, none⟩ : Addr).block < w.heap.size from hg)).trans hc2
     have hg3 := (hB.out.cell (show (⟨g, 3, none⟩ : Addr).block < w.heap.size from hg)).trans hc3
     go_wp2_with fail
     refine (write_calls w.heap.size _ ⟨#[45]⟩ _ hM.out hB.out.size (by simp only [List.length_append, show (⟨#[45]⟩ : ByteArray).data.toList.length = 1 from rfl, show (⟨#[45]⟩ : ByteArray).size = 1 from rfl, show (⟨#[43]⟩ : ByteArray).data.toList.length = 1 from rfl, show (⟨#[43]⟩ : ByteArray).size = 1 from rfl, show pre.data.toList.length = pre.size from rfl, show bld.data.toList.length = bld.size from rfl]; have := hlen.out; have := hpx.out; have := hbx.out; omega)).mono ?_
     rintro e w1 ⟨v, rfl, hM1, hB1⟩
     replace hM := Aside0.mk hM1
     replace hB := Aside0.mk (hB.out.trans hB1)
     clear hM1 hB1
     clear hg2 hg3
     have hg2 := (hB.out.cell (show (⟨g, 2, none⟩ : Addr).block < w.heap.size from hg)).trans hc2
     have hg3 := (hB.out.cell (show (⟨g, 3, none⟩ : Addr).block < w.heap.size from hg)).trans hc3
     go_wp2_with fail
     refine (write_calls w.heap.size _ pre _ hM.out hB.out.size (by simp only [List.length_append, show (⟨#[45]⟩ : ByteArray).data.toList.length = 1 from rfl, show (⟨#[45]⟩ : ByteArray).size = 1 from rfl, show (⟨#[43]⟩ : ByteArray).data.toList.length = 1 from rfl, show (⟨#[43]⟩ : ByteArray).size = 1 from rfl, show pre.data.toList.length = pre.size from rfl, show bld.data.toList.length = bld.size from rfl]; have := hlen.out; have := hpx.out; have := hbx.out; omega)).mono ?_
     rintro e w1 ⟨v, rfl, hM1, hB1⟩
     replace hM := Aside0.mk hM1
     replace hB := Aside0.mk (hB.out.trans hB1)
     clear hM1 hB1
     clear hg2 hg3
     have hg2 := (hB.out.cell (show (⟨g, 2, none⟩ : Addr).block < w.heap.size from hg)).trans hc2
     have hg3 := (hB.out.cell (show (⟨g, 3, none⟩ : Addr).block < w.heap.size from hg)).trans hc3
     go_wp2_with fail
     refine (Tryd.Buffer_String w.heap.size w.heap.size _ _ hM.out).mono ?_
     rintro e w1 ⟨rfl, n, rfl⟩
     go_wp2_with fail
     go_ret
     refine ⟨?_, pw_below_drewN hB.out n⟩
     unfold text textB
     rw [if_neg epx.out, if_pos ebx.out]
     simp only [List.append_nil, List.append_assoc]
     rfl
    ·have qbld : (bld.toList == []) = false := beq_eq_false_iff_ne.mpr ebld
     have rbld : bld.toList.isEmpty = false := by cases h : bld.toList with
      | nil => exact absurd h ebld
      | cons a t => rfl
     have ebx := Aside0.mk ebld
     have epx := Aside0.mk epre
     clear ebld epre
     have hg2 := (hB.out.cell (show (⟨g, 2, none⟩ : Addr).block < w.heap.size from hg)).trans hc2
     have hg3 := (hB.out.cell (show (⟨g, 3, none⟩ : Addr).block < w.heap.size from hg)).trans hc3
     go_wp2_with fail
     refine (write_calls w.heap.size _ ⟨#[45]⟩ _ hM.out hB.out.size (by simp only [List.length_append, show (⟨#[45]⟩ : ByteArray).data.toList.length = 1 from rfl, show (⟨#[45]⟩ : ByteArray).size = 1 from rfl, show (⟨#[43]⟩ : ByteArray).data.toList.length = 1 from rfl, show (⟨#[43]⟩ : ByteArray).size = 1 from rfl, show pre.data.toList.length = pre.size from rfl, show bld.data.toList.length = bld.size from rfl]; have := hlen.out; have := hpx.out; have := hbx.out; omega)).mono ?_
     rintro e w1 ⟨v, rfl, hM1, hB1⟩
     replace hM := Aside0.mk hM1
     replace hB := Aside0.mk (hB.out.trans hB1)
     clear hM1 hB1
     clear hg2 hg3
     have hg2 := (hB.out.cell (show (⟨g, 2, none⟩ : Addr).block < w.heap.size from hg)).trans hc2
     have hg3 := (hB.out.cell (show (⟨g, 3, none⟩ : Addr).block < w.heap.size from hg)).trans hc3
     go_wp2_with fail
     refine (write_calls w.heap.size _ pre _ hM.out hB.out.size (by simp only [List.length_append, show (⟨#[45]⟩ : ByteArray).data.toList.length = 1 from rfl, show (⟨#[45]⟩ : ByteArray).size = 1 from rfl, show (⟨#[43]⟩ : ByteArray).data.toList.length = 1 from rfl, show (⟨#[43]⟩ : ByteArray).size = 1 from rfl, show pre.data.toList.length = pre.size from rfl, show bld.data.toList.length = bld.size from rfl]; have := hlen.out; have := hpx.out; have := hbx.out; omega)).mono ?_
     rintro e w1 ⟨v, rfl, hM1, hB1⟩
     replace hM := Aside0.mk hM1
     replace hB := Aside0.mk (hB.out.trans hB1)
     clear hM1 hB1
     clear hg2 hg3
     have hg2 := (hB.out.cell (show (⟨g, 2, none⟩ : Addr).block < w.heap.size from hg)).trans hc2
     have hg3 := (hB.out.cell (show (⟨g, 3, none⟩ : Addr).block < w.heap.size from hg)).trans hc3
     go_wp2_with fail
     refine (write_calls w.heap.size _ ⟨#[43]⟩ _ hM.out hB.out.size (by simp only [List.length_append, show (⟨#[45]⟩ : ByteArray).data.toList.length = 1 from rfl, show (⟨#[45]⟩ : ByteArray).size = 1 from rfl, show (⟨#[43]⟩ : ByteArray).data.toList.length = 1 from rfl, show (⟨#[43]⟩ : ByteArray).size = 1 from rfl, show pre.data.toList.length = pre.size from rfl, show bld.data.toList.length = bld.size from rfl]; have := hlen.out; have := hpx.out; have := hbx.out; omega)).mono ?_
     rintro e w1 ⟨v, rfl, hM1, hB1⟩
     replace hM := Aside0.mk hM1
     replace hB := Aside0.mk (hB.out.trans hB1)
     clear hM1 hB1
     clear hg2 hg3
     have hg2 := (hB.out.cell (show (⟨g, 2, none⟩ : Addr).block < w.heap.size from hg)).trans hc2
     have hg3 := (hB.out.cell (show (⟨g, 3, none⟩ : Addr).block < w.heap.size from hg)).trans hc3
     go_wp2_with fail
     refine (write_calls w.heap.size _ bld _ hM.out hB.out.size (by simp only [List.length_append, show (⟨#[45]⟩ : ByteArray).data.toList.length = 1 from rfl, show (⟨#[45]⟩ : ByteArray).size = 1 from rfl, show (⟨#[43]⟩ : ByteArray).data.toList.length = 1 from rfl, show (⟨#[43]⟩ : ByteArray).size = 1 from rfl, show pre.data.toList.length = pre.size from rfl, show bld.data.toList.length = bld.size from rfl]; have := hlen.out; have := hpx.out; have := hbx.out; omega)).mono ?_
     rintro e w1 ⟨v, rfl, hM1, hB1⟩
     replace hM := Aside0.mk hM1
     replace hB := Aside0.mk (hB.out.trans hB1)
     clear hM1 hB1
     clear hg2 hg3
     have hg2 := (hB.out.cell (show (⟨g, 2, none⟩ : Addr).block < w.heap.size from hg)).trans hc2
     have hg3 := (hB.out.cell (show (⟨g, 3, none⟩ : Addr).block < w.heap.size from hg)).trans hc3
     go_wp2_with fail
     refine (Tryd.Buffer_String w.heap.size w.heap.size _ _ hM.out).mono ?_
     rintro e w1 ⟨rfl, n, rfl⟩
     go_wp2_with fail
     go_ret
     refine ⟨?_, pw_below_drewN hB.out n⟩
     unfold text textB
     rw [if_neg epx.out, if_neg ebx.out]
     simp only [List.append_nil, List.append_assoc]
     rfl
end Go.Proofs.YtmfgkidppchobaaDoor.Ver3


set_option linter.unusedSimpArgs false
set_option linter.unusedVariables false
namespace Go.Proofs.YtmfgkidppchobaaDoor.Ver4
open Go.RowKit Go.Proofs.YtmfgkidppchobaaDoorW.PrintWords Go.Proofs.YtmfgkidppchobaaDoorW.PrintLast Go.Proofs.YtmfgkidppchobaaDoor.XFnVersionWays Go.Proofs.YtmfgkidppchobaaDoor.Ver1 Go.Proofs.YtmfgkidppchobaaDoor.Ver2 Go.Proofs.YtmfgkidppchobaaDoor.Ver3
def numU (s : ByteArray) : Option Nat := match Lib.parseUintB 64 s.data.toList with
 | .ok u => some u
 | _ => none
theorem numU_lt {s : ByteArray} {u : Nat} (h : numU s = some u) : u < 18446744073709551616 := by
 unfold numU at h
 cases hq : Lib.parseUintB 64 s.data.toList with
 | ok v =>
  rw [hq] at h
  obtain rfl : v = u := by simpa using h
  have h2 := Lib.parseUintB_le hq
  rw [show (2 : Nat) ^ 64 = 18446744073709551616 from rfl] at h2
  omega
 | range => rw [hq] at h; cases h
 | _ => rw [hq] at h; cases h
theorem puYes (s : ByteArray) (u : Nat) (w : World) (hs : s.size ≤ 140737488351232) (h : numU s = some u) :
  Calls Tryd.prog 74 #[.string s, .int .i64 10, .int .i64 0] w fun e w' => e = .returned (.tuple #[.int .u64 u, .nilIface]) ∧ Below w.heap.size w w' := by
 unfold numU at h
 cases hq : Lib.parseUintB 64 s.data.toList with
 | ok v =>
  rw [hq] at h
  obtain rfl : v = u := by simpa using h
  refine (Tryd.strconv_ParseUint_10_at0_ok s (by omega) v hq _).mono ?_
  rintro e w1 ⟨rfl, hW⟩
  refine ⟨rfl, ?_⟩
  rcases hW with rfl | rfl
  ·exact Below.refl _ _
  ·exact Lib.bytesWorld_below _ _ _
 | range => rw [hq] at h; cases h
 | _ => rw [hq] at h; cases h
theorem puNo (s : ByteArray) (w : World) (hs : s.size ≤ 140737488351232) (h : numU s = none) (hV : VT.V w) :
  Calls Tryd.prog 74 #[.string s, .int .i64 10, .int .i64 0] w fun e w' => ∃ n p, e = .returned (.tuple #[.int .u64 n, .iface 115 p]) ∧ Below w.heap.size w w' := by
 unfold numU at h
 obtain ⟨⟨⟨e0, hc0, he0⟩, ⟨e1, hc1, he1⟩⟩, _, _⟩ := hV
 cases hq : Lib.parseUintB 64 s.data.toList with
 | ok v => rw [hq] at h; cases h
 | range =>
  refine (Tryd.strconv_ParseUint_10_at0_range s (by omega) hq e1 _ hc1 he1).mono ?_
  rintro e w1 ⟨N, rfl, _, _, hb⟩
  exact ⟨_, _, rfl, hb⟩
 | _ =>
  refine (Tryd.strconv_ParseUint_10_at0_syntax s (by omega) ⟨(fun _ hh => nomatch (hq.symm.trans hh)), (fun hh => nomatch (hq.symm.trans hh))⟩ e0 _ hc0 he0).mono ?_
  rintro e w1 ⟨N, rfl, _, _, hb⟩
  exact ⟨_, _, rfl, hb⟩
def bad0 (c : ByteArray) : Bool := Lib.hasPrefix c.data.toList [48] && !(c.toList == [48])
def compP (sv first : Bool) (c : ByteArray) : Option Int := if ((first || sv) && bad0 c) = true then none else (numU c).map (fun u => (u : Int))
def compsP (sv : Bool) : Bool → List ByteArray → Option (List Int)
 | _, [] => some []
 | first, c :: cs => (compP sv first c).bind fun n => (compsP sv false cs).map fun ns => n :: ns
theorem comps_next {sv : Bool} {cs : List ByteArray} {k : Nat} {ns : List Int} {c : ByteArray} (hc : cs[k]? = some c) (h : compsP sv true cs = (compsP sv (decide (k = 0)) (cs.drop k)).map (ns ++ ·)) :
  compsP sv true cs = (compP sv (decide (k = 0)) c).bind fun n => (compsP sv (decide (k + 1 = 0)) (cs.drop (k + 1))).map ((ns ++ [n]) ++ ·) := by
 obtain ⟨hk, he⟩ := List.getElem?_eq_some_iff.1 hc
 rw [h, List.drop_eq_getElem_cons hk, he]
 show ((compP sv (decide (k = 0)) c).bind _).map _ = _
 rw [show decide (k + 1 = 0) = false from decide_eq_false (by omega)]
 cases compP sv (decide (k = 0)) c with
 | none => rfl
 | some n =>
  show ((compsP sv false (cs.drop (k + 1))).map _).map _ = (compsP sv false (cs.drop (k + 1))).map _
  rw [Option.map_map]
  congr 1
  funext x
  simp
def Post (sv : Bool) (r : Option (List Int × ByteArray × ByteArray)) (w : World) (e : Ending) (w' : World) : Prop := match r with
 | none => ∃ p, e = .returned (.tuple #[.pointer none, .iface 107 p]) ∧ Below w.heap.size w w'
 | some (ns, pre, bld) => ∃ g, e = .returned (.tuple #[Ptr g, .nilIface]) ∧ w.heap.size ≤ g ∧ IsVer w' g ns sv pre bld ∧ U64 ns ∧ Below w.heap.size w w'
abbrev E0 : ByteArray := ⟨#[]⟩
theorem makeRow (n : Nat) (hn : n ≤ 4294967296) (W : World) : (Instr.makeSlice 23 (.int .i64 (n : Int)) (.int .i64 (n : Int))).run Tryd.prog W = .ok (.slice (some ⟨W.heap.size, 0, none⟩) n n) (W.alloc (.cells (Array.replicate n (Value.int .u64 0)) 36)) := by
 obtain ⟨i, hi, hq⟩ : ∃ i, Tryd.prog.info? 36 = some i ∧ (i.zero, i.size, i.bytes) = (some (Value.int .u64 0), 1, 8) := by
  have h : (Tryd.prog.info? 36).map (fun i => (i.zero, i.size, i.bytes)) = some (some (Value.int .u64 0), 1, 8) := by kernel_rfl
  cases hc : Tryd.prog.info? 36 with
  | none => rw [hc] at h; cases h
  | some i => rw [hc] at h; exact ⟨i, rfl, Option.some.inj h⟩
 have hz : i.zero = some (Value.int .u64 0) := congrArg Prod.fst hq
 have hs : i.size = 1 := congrArg (fun x => x.2.1) hq
 have hb : i.bytes = 8 := congrArg (fun x => x.2.2) hq
 have h := run_make (P := Tryd.prog) W 23 36 i (.int .u64 0) Tryd.underlying23 hi hz .i64 .i64 (n : Int) (n : Int) (by omega) (by omega) (by rw [hb]; omega) (by omega)
 rw [Int.toNat_natCast, hs, Nat.mul_one] at h
 rw [h]
 have e : madeCells (Value.int .u64 0).cells n = Array.replicate n (Value.int .u64 0) := by
  apply Array.ext
  ·rw [size_madeCells]; simp
  ·intro j h1 h2
   simp [madeCells, Value.cells, Nat.mod_one]
 rw [e]
theorem set_at (ns : List Int) (m : Nat) (u : Int) : ((ns ++ List.replicate (m + 1) 0).set ns.length u) = (ns ++ [u]) ++ List.replicate m 0 := by
 rw [List.set_append_right _ _ (Nat.le_refl _), Nat.sub_self, List.replicate_succ, List.set_cons_zero, List.append_assoc]
 rfl
theorem nilYes (W : World) : (binOp BinOp.eql 54 (.slice none 0 0) (.slice none 0 0)).run Tryd.prog W = .ok (.bool true) W := by kernel_rfl
theorem nilNo (a : Addr) (n c : Nat) (W : World) : (binOp BinOp.eql 54 (.slice (some a) n c) (.slice none 0 0)).run Tryd.prog W = .ok (.bool false) W := by
 exact Go.run_eql_slice_nil W 54 9 (some a) n c Tryd.underlying54
theorem rdOf_at {cs : List ByteArray} {k : Nat} {c : ByteArray} (h : rdOf ByteArray.empty cs (k : Int) = c) (hk : k < cs.length) : cs[k]? = some c := by
 rw [← h]
 simp [rdOf, hk]
def Row (w : World) (b : Nat) (xs : List Int) : Prop := w.heap[b]? = some (.cells (xs.map (Value.int .u64)).toArray 36 (0, 0))
def Obj4 (w : World) (g b n : Nat) (sv : Bool) (pre bld : ByteArray) : Prop := w.heap[g]? = some (.cells #[.slice (some ⟨b, 0, none⟩) n n, .bool sv, .string pre, .string bld] 87 (0, 0))
theorem Row.below {w w' : World} {b : Nat} {xs : List Int} (h : Row w b xs) (hb : Below w.heap.size w w') : Row w' b xs := (hb.block b (blk_lt h)).trans h
theorem Obj4.below {w w' : World} {g b n : Nat} {sv : Bool} {pre bld : ByteArray} (h : Obj4 w g b n sv pre bld) (hb : Below w.heap.size w w') : Obj4 w' g b n sv pre bld := (hb.block g (blk_lt h)).trans h
theorem row_set {w : World} {b k n : Nat} {ns : List Int} (h1 : ns.length = k) (h2 : k + 1 ≤ n) (h : Row w b (ns ++ List.replicate (n - k) 0)) (u : Int) : Row (w.setCell ⟨b, k, none⟩ (.int .u64 u)) b ((ns ++ [u]) ++ List.replicate (n - (k + 1)) 0) := by
 have h3 := blk_set h k (.int .u64 u)
 unfold Row
 rw [h3, ← set_at, h1, show n - (k + 1) + 1 = n - k by omega, List.setIfInBounds_toArray, List.map_set]
theorem isVer_of {w : World} {g b n : Nat} {sv : Bool} {pre bld : ByteArray} {ns : List Int} (hn : ns.length = n) (h : Obj4 w g b n sv pre bld) (hr : Row w b ns) (hl : n ≤ 4294967296) : IsVer w g ns sv pre bld := by
 subst hn
 exact ⟨_, _, h, C_row ns (by omega) hr, Nat.le_refl _⟩
set_option maxHeartbeats 4000000 in
set_option maxRecDepth 100000 in
theorem parse_nil (k : Nat) (s : ByteArray) (sv : Bool) (w : World) (h1 : version_zzVersion.f k s = some []) :
  Calls Tryd.prog 58 #[.string s, .bool sv] w (Post sv none w) := by
 go_enter Tryd.func58, Tryd.ntmps58
 go_wp2_with fail
 refine (version_zzVersion.calls k s [] _ h1).mono ?_
 rintro e w1 ⟨v1, rfl, hR1, hv1, hB1⟩
 obtain rfl := hv1 rfl
 clear hv1
 have hnil := nilYes
 go_wp2_with fail
 refine (errNew _ _).mono ?_
 rintro e wE ⟨pE, rfl, hBE⟩
 have hBE := Aside0.mk (below_then hB1 hB1.size hBE)
 go_wp2_with fail
 refine bodyPost_ret (results_list (rs := [.tmp 4, .tmp 5]) rfl (by simp) (.tmp (.tmp .nil))) rfl ?_
 exact ⟨_, rfl, hBE.out⟩
set_option maxHeartbeats 4000000 in
set_option maxRecDepth 100000 in
theorem parse_gen (k : Nat) (s : ByteArray) (l : List ByteArray) (x1 x2 : ByteArray) (cs : List ByteArray) (w : World) (h1 : version_zzVersion.f k s = some l) (hl3 : l.length = 3) (hx1 : rdOf ByteArray.empty l 1 = x1) (hx2 : rdOf ByteArray.empty l 2 = x2) (h2 : version_zzSplit.f k x1 ⟨#[46]⟩ = some cs) (hs : ∀ c ∈ cs, c.size ≤ 140737488351232) (hn : cs.length ≤ 4294967296) (hV : VT.V w) (hns : ¬ cs.length < 2) (h3 : True) :
  Calls Tryd.prog 58 #[.string s, .bool false] w (Post false ((compsP false true cs).map fun ns => (ns, E0, E0)) w) := by
 replace hs := Aside0.mk hs
 replace hns := Aside0.mk hns
 replace hV := Aside0.mk hV
 replace h2 := Aside0.mk h2
 replace h3 := Aside0.mk h3
 have hmk := makeRow cs.length hn
 go_enter Tryd.func58, Tryd.ntmps58
 go_wp2_with fail
 refine (version_zzVersion.calls k s l _ h1).mono ?_
 rintro e w1 ⟨v1, rfl, hR1, _, hB1⟩
 obtain ⟨A1, cp1, rfl⟩ := Kd.R_slice hR1
 obtain ⟨g1, cap1, hv1, hbase1, hglt1, cells1, hcells1⟩ := Kd.R_form hR1 (by omega)
 obtain ⟨rfl, rfl⟩ : A1 = some ⟨g1, 0, none⟩ ∧ cp1 = cap1 := by injection hv1 with e1 e2 e3; exact ⟨e1, e3⟩
 have rc1 : w1.cell? ⟨g1, 1, none⟩ = some (.string (rdOf ByteArray.empty l 1)) := (Kd.R_cell (ByteArray.empty) hR1 1 (by omega) (by omega)).1
 have rc2 : w1.cell? ⟨g1, 2, none⟩ = some (.string (rdOf ByteArray.empty l 2)) := (Kd.R_cell (ByteArray.empty) hR1 2 (by omega) (by omega)).1
 rw [hx1] at rc1
 rw [hx2] at rc2
 have z1 : (1 : Int) < (l.length : Int) := by omega
 have z2 : (2 : Int) < (l.length : Int) := by omega
 have hB1 := Aside0.mk hB1
 have hR1 := Aside0.mk hR1
 replace h1 := Aside0.mk h1
 replace hl3 := Aside0.mk hl3
 have hnil := nilNo ⟨g1, 0, none⟩ l.length cp1
 clear hv1 hcells1 hbase1 hglt1 hx1 hx2
 go_upto_region 4 with (fail)
 clear hnil
 go_region
 have hBd := Aside0.mk (show Below w.heap.size w w1.drew from pw_below_drewN hB1.out 1)
 clear rc1 rc2 z1 z2
 go_wp2_with fail
 refine (version_zzSplit.calls k x1 ⟨#[46]⟩ cs _ h2.out).mono ?_
 rintro e w2 ⟨v2, rfl, hR2, hB2⟩
 obtain ⟨A2, c2, rfl, hc2, hC2⟩ := Kd.R_reads hR2
 replace hc2 := Aside0.mk hc2
 have hB2 := Aside0.mk (below_then hBd.out hBd.out.size hB2)
 clear hR2 hB1 hR1 hBd
 have cn1 : decide ((cs.length : Int) < 2) = false := decide_eq_false (by have := hns.out; omega)
 have cn2 : decide (cs.length < 2) = false := decide_eq_false (by have := hns.out; omega)
 go_wp2_with fail
 go_loopw [57] (fun i wr => ∃ (k : Nat) (ns : List Int), k ≤ cs.length ∧ i = .int .i64 k ∧ ns.length = k ∧ U64 ns ∧ compsP false true cs = (compsP false (decide (k = 0)) (cs.drop k)).map (ns ++ ·) ∧ Row wr w2.heap.size (ns ++ List.replicate (cs.length - k) 0) ∧ Obj4 wr (w2.heap.size + 1) w2.heap.size cs.length false E0 E0 ∧ Below w2.heap.size w2 wr) (fun i _ => cs.length - (intOf i).toNat)
 case atStart =>
  refine ⟨0, [], Nat.zero_le _, rfl, rfl, (fun _ hx => by cases hx), by simp, ?_, ?_, below_alloc (below_alloc (Below.refl _ _) _) _⟩
  ·show (World.alloc _ _).heap[w2.heap.size]? = _
   rw [Below.heap_alloc _ _ _ (by rw [World.size_alloc]; omega), Nat.sub_zero, List.nil_append]
   have h := heap_alloc_new w2 (.cells (Array.replicate cs.length (Value.int .u64 0)) 36)
   rw [h, List.map_replicate, List.toArray_replicate]
  ·have h := heap_alloc_new (w2.alloc (.cells (Array.replicate cs.length (Value.int .u64 0)) 36)) (.cells #[.slice (some ⟨w2.heap.size, 0, none⟩) cs.length cs.length, .bool false, .string ⟨#[]⟩, .string ⟨#[]⟩] 87)
   rw [World.size_alloc] at h
   exact h
 case round =>
  obtain ⟨k, ns, hk, rfl, hnl, hU, hC, hRow, hObj, hB⟩ := hrel
  have hCk := Kd.C_below hC2 hB
  replace hU := Aside0.mk hU
  replace hRow := Aside0.mk hRow
  replace hObj := Aside0.mk hObj
  replace hB := Aside0.mk hB
  by_cases c3 : (k : Int) < (cs.length : Int)
  ·obtain ⟨c, hc⟩ : ∃ c, rdOf ByteArray.empty cs (k : Int) = c := ⟨_, rfl⟩
   have hcl := rdOf_at hc (by omega)
   have hsz := Aside0.mk (hs.out c (List.mem_of_getElem? hcl))
   have hnx := Aside0.mk (comps_next hcl hC)
   have p := Int.natCast_nonneg k
   obtain ⟨ad, e1, hcell⟩ := Kd.at_string hCk (k : Int) p c3
   rw [hc, Int.toNat_natCast] at hcell
   cases e1
   have c3b := decide_eq_true c3
   have hk2 := Aside0.mk (show k + 1 ≤ cs.length by omega)
   have hnl := Aside0.mk hnl
   replace hC := Aside0.mk hC
   replace p := eq_true p
   replace c3 := eq_true c3
   clear hCk hc hcl
   by_cases hk0 : k = 0
   ·have z1 : ((k : Int) == 0) = true := by rw [hk0]; rfl
    have hk0x := Aside0.mk (show (decide (k = 0) || false) = true from by rw [decide_eq_true hk0]; rfl)
    clear hk0
    obtain ⟨b, eb⟩ : ∃ b, b = Lib.hasPrefix c.data.toList (⟨#[48]⟩ : ByteArray).data.toList := ⟨_, rfl⟩
    go_wp2_with fail
    refine (Tryd.strings_HasPrefix c ⟨#[48]⟩ _).mono ?_
    rintro e w3 ⟨rfl, rfl⟩
    rw [← eb]
    replace eb := Aside0.mk eb
    cases b
    ·have hcp := Aside0.mk (show (compP false (decide (k = 0)) c = (numU c).map (fun u => (u : Int))) from by
      have hb : bad0 c = false := by unfold bad0; rw [show Lib.hasPrefix c.data.toList [48] = false from eb.out.symm]; rfl
      unfold compP; rw [hb]; simp)
     cases hu : numU c with
     | none =>
      rw [hu] at hcp
      go_wp2_with fail
      refine (puNo c _ hsz.out hu (hV.out.below (below_then hB2.out hB2.out.size hB.out))).mono ?_
      rintro e w4 ⟨n4, p4, rfl, hB4⟩
      replace hB4 := Aside0.mk hB4
      go_wp2_with fail
      refine (errNew _ _).mono ?_
      rintro e wE ⟨pE, rfl, hBE⟩
      have hBE := Aside0.mk (below_then (below_then (below_then hB2.out hB2.out.size hB.out) (below_then hB2.out hB2.out.size hB.out).size hB4.out) (below_then (below_then hB2.out hB2.out.size hB.out) (below_then hB2.out hB2.out.size hB.out).size hB4.out).size hBE)
      go_wp2_with fail
      refine bodyPost_ret (results_list (rs := [.tmp 4, .tmp 5]) rfl (by simp) (.tmp (.tmp .nil))) rfl ?_
      (first | rw [hnx.out, hcp.out] | skip); exact ⟨_, rfl, hBE.out⟩
     | some u =>
      rw [hu] at hcp
      have hul := Aside0.mk (numU_lt hu)
      go_wp2_with fail
      refine (puYes c u _ hsz.out hu).mono ?_
      rintro e w4 ⟨rfl, hB4⟩
      replace hRow := Aside0.mk (hRow.out.below hB4)
      replace hObj := Aside0.mk (hObj.out.below hB4)
      replace hB := Aside0.mk (below_then hB.out hB.out.size hB4)
      clear hB4 hcell hu
      have hc0 := cV0 hObj.out
      have hst : w4.cell? ⟨w2.heap.size, k, none⟩ = some (.int .u64 0) := by
       refine (blk_cell hRow.out k).trans ?_
       have h1 := hnl.out
       have h2 := hk2.out
       simp only [List.getElem?_toArray, List.getElem?_map]
       rw [List.getElem?_append_right (by omega), List.getElem?_replicate, if_pos (by omega)]
       rfl
      have hfr : w4.frozen? ⟨w2.heap.size, k, none⟩ = false := by exact blk_frozen hRow.out k
      go_wp2_with fail
      go_roundw
      case measure => have := hk2.out; first | exact meas this | (rw [show (k : Int) + 1 = ((k + 1 : Nat) : Int) from rfl]; exact meas this)
      case rel =>
       have h1 := hnl.out
       have h2 := hk2.out
       refine ⟨k + 1, ns ++ [(u : Int)], h2, by go_num, by rw [List.length_append, h1]; rfl, ?_, ?_, ?_, ?_, below_set hB.out (Nat.le_refl _)⟩
       ·intro y hy
        rcases List.mem_append.1 hy with hy | hy
        ·exact hU.out y hy
        ·rw [List.mem_singleton.1 hy]; have := hul.out; omega
       ·rw [hnx.out, hcp.out]; rfl
       ·exact row_set h1 h2 hRow.out u
       ·exact blk_far hObj.out (by show w2.heap.size + 1 ≠ w2.heap.size; omega) _
    ·by_cases hz : c.toList = [48]
     ·have cz : (c.toList == ([48] : List UInt8)) = true := by rw [hz]; rfl
      have hcp := Aside0.mk (show (compP false (decide (k = 0)) c = (numU c).map (fun u => (u : Int))) from by
       have hb : bad0 c = false := by unfold bad0; rw [cz]; simp
       unfold compP; rw [hb]; simp)
      clear hz
      cases hu : numU c with
      | none =>
       rw [hu] at hcp
       go_wp2_with fail
       refine (puNo c _ hsz.out hu (hV.out.below (below_then hB2.out hB2.out.size hB.out))).mono ?_
       rintro e w4 ⟨n4, p4, rfl, hB4⟩
       replace hB4 := Aside0.mk hB4
       go_wp2_with fail
       refine (errNew _ _).mono ?_
       rintro e wE ⟨pE, rfl, hBE⟩
       have hBE := Aside0.mk (below_then (below_then (below_then hB2.out hB2.out.size hB.out) (below_then hB2.out hB2.out.size hB.out).size hB4.out) (below_then (below_then hB2.out hB2.out.size hB.out) (below_then hB2.out hB2.out.size hB.out).size hB4.out).size hBE)
       go_wp2_with fail
       refine bodyPost_ret (results_list (rs := [.tmp 4, .tmp 5]) rfl (by simp) (.tmp (.tmp .nil))) rfl ?_
       (first | rw [hnx.out, hcp.out] | skip); exact ⟨_, rfl, hBE.out⟩
      | some u =>
       rw [hu] at hcp
       have hul := Aside0.mk (numU_lt hu)
       go_wp2_with fail
       refine (puYes c u _ hsz.out hu).mono ?_
       rintro e w4 ⟨rfl, hB4⟩
       replace hRow := Aside0.mk (hRow.out.below hB4)
       replace hObj := Aside0.mk (hObj.out.below hB4)
       replace hB := Aside0.mk (below_then hB.out hB.out.size hB4)
       clear hB4 hcell hu
       have hc0 := cV0 hObj.out
       have hst : w4.cell? ⟨w2.heap.size, k, none⟩ = some (.int .u64 0) := by
        refine (blk_cell hRow.out k).trans ?_
        have h1 := hnl.out
        have h2 := hk2.out
        simp only [List.getElem?_toArray, List.getElem?_map]
        rw [List.getElem?_append_right (by omega), List.getElem?_replicate, if_pos (by omega)]
        rfl
       have hfr : w4.frozen? ⟨w2.heap.size, k, none⟩ = false := by exact blk_frozen hRow.out k
       go_wp2_with fail
       go_roundw
       case measure => have := hk2.out; first | exact meas this | (rw [show (k : Int) + 1 = ((k + 1 : Nat) : Int) from rfl]; exact meas this)
       case rel =>
        have h1 := hnl.out
        have h2 := hk2.out
        refine ⟨k + 1, ns ++ [(u : Int)], h2, by go_num, by rw [List.length_append, h1]; rfl, ?_, ?_, ?_, ?_, below_set hB.out (Nat.le_refl _)⟩
        ·intro y hy
         rcases List.mem_append.1 hy with hy | hy
         ·exact hU.out y hy
         ·rw [List.mem_singleton.1 hy]; have := hul.out; omega
        ·rw [hnx.out, hcp.out]; rfl
        ·exact row_set h1 h2 hRow.out u
        ·exact blk_far hObj.out (by show w2.heap.size + 1 ≠ w2.heap.size; omega) _
     ·have cz : (c.toList == ([48] : List UInt8)) = false := beq_eq_false_iff_ne.mpr hz
      have hcp := Aside0.mk (show compP false (decide (k = 0)) c = none from by
       have hb : bad0 c = true := by unfold bad0; rw [cz, show Lib.hasPrefix c.data.toList [48] = true from eb.out.symm]; rfl
       unfold compP; rw [hb, hk0x.out]; rfl)
      clear hz
      go_wp2_with fail
      refine (errNew _ _).mono ?_
      rintro e wE ⟨pE, rfl, hBE⟩
      have hBE := Aside0.mk (below_then (below_then hB2.out hB2.out.size hB.out) (below_then hB2.out hB2.out.size hB.out).size hBE)
      go_wp2_with fail
      refine bodyPost_ret (results_list (rs := [.tmp 4, .tmp 5]) rfl (by simp) (.tmp (.tmp .nil))) rfl ?_
      (first | rw [hnx.out, hcp.out] | skip); exact ⟨_, rfl, hBE.out⟩
   ·have z1 : ((k : Int) == 0) = false := beq_eq_false_iff_ne.mpr (by omega)
    have hcp := Aside0.mk (show compP false (decide (k = 0)) c = (numU c).map (fun u => (u : Int)) from by unfold compP; rw [decide_eq_false hk0]; rfl)
    clear hk0
    cases hu : numU c with
    | none =>
     rw [hu] at hcp
     go_wp2_with fail
     refine (puNo c _ hsz.out hu (hV.out.below (below_then hB2.out hB2.out.size hB.out))).mono ?_
     rintro e w4 ⟨n4, p4, rfl, hB4⟩
     replace hB4 := Aside0.mk hB4
     go_wp2_with fail
     refine (errNew _ _).mono ?_
     rintro e wE ⟨pE, rfl, hBE⟩
     have hBE := Aside0.mk (below_then (below_then (below_then hB2.out hB2.out.size hB.out) (below_then hB2.out hB2.out.size hB.out).size hB4.out) (below_then (below_then hB2.out hB2.out.size hB.out) (below_then hB2.out hB2.out.size hB.out).size hB4.out).size hBE)
     go_wp2_with fail
     refine bodyPost_ret (results_list (rs := [.tmp 4, .tmp 5]) rfl (by simp) (.tmp (.tmp .nil))) rfl ?_
     (first | rw [hnx.out, hcp.out] | skip); exact ⟨_, rfl, hBE.out⟩
    | some u =>
     rw [hu] at hcp
     have hul := Aside0.mk (numU_lt hu)
     go_wp2_with fail
     refine (puYes c u _ hsz.out hu).mono ?_
     rintro e w4 ⟨rfl, hB4⟩
     replace hRow := Aside0.mk (hRow.out.below hB4)
     replace hObj := Aside0.mk (hObj.out.below hB4)
     replace hB := Aside0.mk (below_then hB.out hB.out.size hB4)
     clear hB4 hcell hu
     have hc0 := cV0 hObj.out
     have hst : w4.cell? ⟨w2.heap.size, k, none⟩ = some (.int .u64 0) := by
      refine (blk_cell hRow.out k).trans ?_
      have h1 := hnl.out
      have h2 := hk2.out
      simp only [List.getElem?_toArray, List.getElem?_map]
      rw [List.getElem?_append_right (by omega), List.getElem?_replicate, if_pos (by omega)]
      rfl
     have hfr : w4.frozen? ⟨w2.heap.size, k, none⟩ = false := by exact blk_frozen hRow.out k
     go_wp2_with fail
     go_roundw
     case measure => have := hk2.out; first | exact meas this | (rw [show (k : Int) + 1 = ((k + 1 : Nat) : Int) from rfl]; exact meas this)
     case rel =>
      have h1 := hnl.out
      have h2 := hk2.out
      refine ⟨k + 1, ns ++ [(u : Int)], h2, by go_num, by rw [List.length_append, h1]; rfl, ?_, ?_, ?_, ?_, below_set hB.out (Nat.le_refl _)⟩
      ·intro y hy
       rcases List.mem_append.1 hy with hy | hy
       ·exact hU.out y hy
       ·rw [List.mem_singleton.1 hy]; have := hul.out; omega
      ·rw [hnx.out, hcp.out]; rfl
      ·exact row_set h1 h2 hRow.out u
      ·exact blk_far hObj.out (by show w2.heap.size + 1 ≠ w2.heap.size; omega) _
  ·have c3b := decide_eq_false c3
   obtain rfl : k = cs.length := by omega
   have hfin : compsP false true cs = some ns := by
    rw [hC, List.drop_length]
    show some (ns ++ []) = some ns
    rw [List.append_nil]
   have hRow := Aside0.mk (show Row wr w2.heap.size ns from by have h := hRow.out; rwa [Nat.sub_self, List.replicate_zero, List.append_nil] at h)
   replace hfin := Aside0.mk hfin
   replace hnl := Aside0.mk hnl
   have hB3 := Aside0.mk (below_then hB2.out hB2.out.size hB.out)
   have hge := Aside0.mk (show w.heap.size ≤ w2.heap.size + 1 from Nat.le_succ_of_le hB2.out.size)
   clear hCk hC hk c3
   go_wp2_with fail
   refine bodyPost_ret (results_list (rs := [.tmp 4, .tmp 5]) rfl (by simp) (.tmp (.tmp .nil))) rfl ?_
   rw [hfin.out]
   exact ⟨_, rfl, hge.out, isVer_of hnl.out hObj.out hRow.out hn, hU.out, hB3.out⟩
def badId (c : ByteArray) : Bool := (numU c).isSome && bad0 c
def tl (ps : List ByteArray) (pre bld : ByteArray) (ns : List Int) : Option (List Int × ByteArray × ByteArray) := if ps.any badId = true then none else some (ns, pre, bld)
set_option maxHeartbeats 4000000 in
set_option maxRecDepth 100000 in
theorem parse_sem1 (k : Nat) (s : ByteArray) (l : List ByteArray) (x1 x2 : ByteArray) (cs : List ByteArray) (w : World) (h1 : version_zzVersion.f k s = some l) (hl3 : l.length = 3) (hx1 : rdOf ByteArray.empty l 1 = x1) (hx2 : rdOf ByteArray.empty l 2 = x2) (h2 : version_zzSplit.f k x1 ⟨#[46]⟩ = some cs) (hs : ∀ c ∈ cs, c.size ≤ 140737488351232) (hn : cs.length ≤ 4294967296) (hns : cs.length = 3) (h3 : x2.toList = []) (hV : VT.V w) :
  Calls Tryd.prog 58 #[.string s, .bool true] w (Post true ((compsP true true cs).map fun ns => (ns, E0, E0)) w) := by
 replace hs := Aside0.mk hs
 replace hns := Aside0.mk hns
 replace hV := Aside0.mk hV
 replace h2 := Aside0.mk h2
 replace h3 := Aside0.mk h3
 have hmk := makeRow cs.length hn
 have q2 : (x2.toList == []) = true := by rw [h3.out]; rfl
 have r2 : x2.toList.isEmpty = true := by rw [h3.out]; rfl
 go_enter Tryd.func58, Tryd.ntmps58
 go_wp2_with fail
 refine (version_zzVersion.calls k s l _ h1).mono ?_
 rintro e w1 ⟨v1, rfl, hR1, _, hB1⟩
 obtain ⟨A1, cp1, rfl⟩ := Kd.R_slice hR1
 obtain ⟨g1, cap1, hv1, hbase1, hglt1, cells1, hcells1⟩ := Kd.R_form hR1 (by omega)
 obtain ⟨rfl, rfl⟩ : A1 = some ⟨g1, 0, none⟩ ∧ cp1 = cap1 := by injection hv1 with e1 e2 e3; exact ⟨e1, e3⟩
 have rc1 : w1.cell? ⟨g1, 1, none⟩ = some (.string (rdOf ByteArray.empty l 1)) := (Kd.R_cell (ByteArray.empty) hR1 1 (by omega) (by omega)).1
 have rc2 : w1.cell? ⟨g1, 2, none⟩ = some (.string (rdOf ByteArray.empty l 2)) := (Kd.R_cell (ByteArray.empty) hR1 2 (by omega) (by omega)).1
 rw [hx1] at rc1
 rw [hx2] at rc2
 have z1 : (1 : Int) < (l.length : Int) := by omega
 have z2 : (2 : Int) < (l.length : Int) := by omega
 have hB1 := Aside0.mk hB1
 have hR1 := Aside0.mk hR1
 replace h1 := Aside0.mk h1
 replace hl3 := Aside0.mk hl3
 have hnil := nilNo ⟨g1, 0, none⟩ l.length cp1
 clear hv1 hcells1 hbase1 hglt1 hx1 hx2
 go_upto_region 4 with (fail)
 clear hnil
 go_region
 have hBd := Aside0.mk (show Below w.heap.size w w1.drew from pw_below_drewN hB1.out 1)
 clear rc1 rc2 z1 z2
 go_wp2_with fail
 refine (version_zzSplit.calls k x1 ⟨#[46]⟩ cs _ h2.out).mono ?_
 rintro e w2 ⟨v2, rfl, hR2, hB2⟩
 obtain ⟨A2, c2, rfl, hc2, hC2⟩ := Kd.R_reads hR2
 replace hc2 := Aside0.mk hc2
 have hB2 := Aside0.mk (below_then hBd.out hBd.out.size hB2)
 clear hR2 hB1 hR1 hBd
 have cn1 : ((cs.length : Int) != 3) = false := by have := hns.out; rw [this]; rfl
 have cn2 : (cs.length != 3) = false := by have := hns.out; rw [this]; rfl
 go_wp2_with fail
 go_loopw [57] (fun i wr => ∃ (k : Nat) (ns : List Int), k ≤ cs.length ∧ i = .int .i64 k ∧ ns.length = k ∧ U64 ns ∧ compsP true true cs = (compsP true (decide (k = 0)) (cs.drop k)).map (ns ++ ·) ∧ Row wr w2.heap.size (ns ++ List.replicate (cs.length - k) 0) ∧ Obj4 wr (w2.heap.size + 1) w2.heap.size cs.length true E0 E0 ∧ Below w2.heap.size w2 wr) (fun i _ => cs.length - (intOf i).toNat)
 case atStart =>
  refine ⟨0, [], Nat.zero_le _, rfl, rfl, (fun _ hx => by cases hx), by simp, ?_, ?_, below_alloc (below_alloc (Below.refl _ _) _) _⟩
  ·show (World.alloc _ _).heap[w2.heap.size]? = _
   rw [Below.heap_alloc _ _ _ (by rw [World.size_alloc]; omega), Nat.sub_zero, List.nil_append]
   have h := heap_alloc_new w2 (.cells (Array.replicate cs.length (Value.int .u64 0)) 36)
   rw [h, List.map_replicate, List.toArray_replicate]
  ·have h := heap_alloc_new (w2.alloc (.cells (Array.replicate cs.length (Value.int .u64 0)) 36)) (.cells #[.slice (some ⟨w2.heap.size, 0, none⟩) cs.length cs.length, .bool true, .string ⟨#[]⟩, .string ⟨#[]⟩] 87)
   rw [World.size_alloc] at h
   exact h
 case round =>
  obtain ⟨k, ns, hk, rfl, hnl, hU, hC, hRow, hObj, hB⟩ := hrel
  have hCk := Kd.C_below hC2 hB
  replace hU := Aside0.mk hU
  replace hRow := Aside0.mk hRow
  replace hObj := Aside0.mk hObj
  replace hB := Aside0.mk hB
  by_cases c3 : (k : Int) < (cs.length : Int)
  ·obtain ⟨c, hc⟩ : ∃ c, rdOf ByteArray.empty cs (k : Int) = c := ⟨_, rfl⟩
   have hcl := rdOf_at hc (by omega)
   have hsz := Aside0.mk (hs.out c (List.mem_of_getElem? hcl))
   have hnx := Aside0.mk (comps_next hcl hC)
   have p := Int.natCast_nonneg k
   obtain ⟨ad, e1, hcell⟩ := Kd.at_string hCk (k : Int) p c3
   rw [hc, Int.toNat_natCast] at hcell
   cases e1
   have c3b := decide_eq_true c3
   have hk2 := Aside0.mk (show k + 1 ≤ cs.length by omega)
   have hnl := Aside0.mk hnl
   replace hC := Aside0.mk hC
   replace p := eq_true p
   replace c3 := eq_true c3
   clear hCk hc hcl
   by_cases hk0 : k = 0
   ·have z1 : ((k : Int) == 0) = true := by rw [hk0]; rfl
    have hk0x := Aside0.mk (show (decide (k = 0) || true) = true from by rw [decide_eq_true hk0]; rfl)
    clear hk0
    obtain ⟨b, eb⟩ : ∃ b, b = Lib.hasPrefix c.data.toList (⟨#[48]⟩ : ByteArray).data.toList := ⟨_, rfl⟩
    go_wp2_with fail
    refine (Tryd.strings_HasPrefix c ⟨#[48]⟩ _).mono ?_
    rintro e w3 ⟨rfl, rfl⟩
    rw [← eb]
    replace eb := Aside0.mk eb
    cases b
    ·have hcp := Aside0.mk (show (compP true (decide (k = 0)) c = (numU c).map (fun u => (u : Int))) from by
      have hb : bad0 c = false := by unfold bad0; rw [show Lib.hasPrefix c.data.toList [48] = false from eb.out.symm]; rfl
      unfold compP; rw [hb]; simp)
     cases hu : numU c with
     | none =>
      rw [hu] at hcp
      go_wp2_with fail
      refine (puNo c _ hsz.out hu (hV.out.below (below_then hB2.out hB2.out.size hB.out))).mono ?_
      rintro e w4 ⟨n4, p4, rfl, hB4⟩
      replace hB4 := Aside0.mk hB4
      go_wp2_with fail
      refine (errNew _ _).mono ?_
      rintro e wE ⟨pE, rfl, hBE⟩
      have hBE := Aside0.mk (below_then (below_then (below_then hB2.out hB2.out.size hB.out) (below_then hB2.out hB2.out.size hB.out).size hB4.out) (below_then (below_then hB2.out hB2.out.size hB.out) (below_then hB2.out hB2.out.size hB.out).size hB4.out).size hBE)
      go_wp2_with fail
      refine bodyPost_ret (results_list (rs := [.tmp 4, .tmp 5]) rfl (by simp) (.tmp (.tmp .nil))) rfl ?_
      (first | rw [hnx.out, hcp.out] | skip); exact ⟨_, rfl, hBE.out⟩
     | some u =>
      rw [hu] at hcp
      have hul := Aside0.mk (numU_lt hu)
      go_wp2_with fail
      refine (puYes c u _ hsz.out hu).mono ?_
      rintro e w4 ⟨rfl, hB4⟩
      replace hRow := Aside0.mk (hRow.out.below hB4)
      replace hObj := Aside0.mk (hObj.out.below hB4)
      replace hB := Aside0.mk (below_then hB.out hB.out.size hB4)
      clear hB4 hcell hu
      have hc0 := cV0 hObj.out
      have hst : w4.cell? ⟨w2.heap.size, k, none⟩ = some (.int .u64 0) := by
       refine (blk_cell hRow.out k).trans ?_
       have h1 := hnl.out
       have h2 := hk2.out
       simp only [List.getElem?_toArray, List.getElem?_map]
       rw [List.getElem?_append_right (by omega), List.getElem?_replicate, if_pos (by omega)]
       rfl
      have hfr : w4.frozen? ⟨w2.heap.size, k, none⟩ = false := by exact blk_frozen hRow.out k
      go_wp2_with fail
      go_roundw
      case measure => have := hk2.out; first | exact meas this | (rw [show (k : Int) + 1 = ((k + 1 : Nat) : Int) from rfl]; exact meas this)
      case rel =>
       have h1 := hnl.out
       have h2 := hk2.out
       refine ⟨k + 1, ns ++ [(u : Int)], h2, by go_num, by rw [List.length_append, h1]; rfl, ?_, ?_, ?_, ?_, below_set hB.out (Nat.le_refl _)⟩
       ·intro y hy
        rcases List.mem_append.1 hy with hy | hy
        ·exact hU.out y hy
        ·rw [List.mem_singleton.1 hy]; have := hul.out; omega
       ·rw [hnx.out, hcp.out]; rfl
       ·exact row_set h1 h2 hRow.out u
       ·exact blk_far hObj.out (by show w2.heap.size + 1 ≠ w2.heap.size; omega) _
    ·by_cases hz : c.toList = [48]
     ·have cz : (c.toList == ([48] : List UInt8)) = true := by rw [hz]; rfl
      have hcp := Aside0.mk (show (compP true (decide (k = 0)) c = (numU c).map (fun u => (u : Int))) from by
       have hb : bad0 c = false := by unfold bad0; rw [cz]; simp
       unfold compP; rw [hb]; simp)
      clear hz
      cases hu : numU c with
      | none =>
       rw [hu] at hcp
       go_wp2_with fail
       refine (puNo c _ hsz.out hu (hV.out.below (below_then hB2.out hB2.out.size hB.out))).mono ?_
       rintro e w4 ⟨n4, p4, rfl, hB4⟩
       replace hB4 := Aside0.mk hB4
       go_wp2_with fail
       refine (errNew _ _).mono ?_
       rintro e wE ⟨pE, rfl, hBE⟩
       have hBE := Aside0.mk (below_then (below_then (below_then hB2.out hB2.out.size hB.out) (below_then hB2.out hB2.out.size hB.out).size hB4.out) (below_then (below_then hB2.out hB2.out.size hB.out) (below_then hB2.out hB2.out.size hB.out).size hB4.out).size hBE)
       go_wp2_with fail
       refine bodyPost_ret (results_list (rs := [.tmp 4, .tmp 5]) rfl (by simp) (.tmp (.tmp .nil))) rfl ?_
       (first | rw [hnx.out, hcp.out] | skip); exact ⟨_, rfl, hBE.out⟩
      | some u =>
       rw [hu] at hcp
       have hul := Aside0.mk (numU_lt hu)
       go_wp2_with fail
       refine (puYes c u _ hsz.out hu).mono ?_
       rintro e w4 ⟨rfl, hB4⟩
       replace hRow := Aside0.mk (hRow.out.below hB4)
       replace hObj := Aside0.mk (hObj.out.below hB4)
       replace hB := Aside0.mk (below_then hB.out hB.out.size hB4)
       clear hB4 hcell hu
       have hc0 := cV0 hObj.out
       have hst : w4.cell? ⟨w2.heap.size, k, none⟩ = some (.int .u64 0) := by
        refine (blk_cell hRow.out k).trans ?_
        have h1 := hnl.out
        have h2 := hk2.out
        simp only [List.getElem?_toArray, List.getElem?_map]
        rw [List.getElem?_append_right (by omega), List.getElem?_replicate, if_pos (by omega)]
        rfl
       have hfr : w4.frozen? ⟨w2.heap.size, k, none⟩ = false := by exact blk_frozen hRow.out k
       go_wp2_with fail
       go_roundw
       case measure => have := hk2.out; first | exact meas this | (rw [show (k : Int) + 1 = ((k + 1 : Nat) : Int) from rfl]; exact meas this)
       case rel =>
        have h1 := hnl.out
        have h2 := hk2.out
        refine ⟨k + 1, ns ++ [(u : Int)], h2, by go_num, by rw [List.length_append, h1]; rfl, ?_, ?_, ?_, ?_, below_set hB.out (Nat.le_refl _)⟩
        ·intro y hy
         rcases List.mem_append.1 hy with hy | hy
         ·exact hU.out y hy
         ·rw [List.mem_singleton.1 hy]; have := hul.out; omega
        ·rw [hnx.out, hcp.out]; rfl
        ·exact row_set h1 h2 hRow.out u
        ·exact blk_far hObj.out (by show w2.heap.size + 1 ≠ w2.heap.size; omega) _
     ·have cz : (c.toList == ([48] : List UInt8)) = false := beq_eq_false_iff_ne.mpr hz
      have hcp := Aside0.mk (show compP true (decide (k = 0)) c = none from by
       have hb : bad0 c = true := by unfold bad0; rw [cz, show Lib.hasPrefix c.data.toList [48] = true from eb.out.symm]; rfl
       unfold compP; rw [hb, Bool.or_true]; rfl)
      clear hz
      go_wp2_with fail
      refine (errNew _ _).mono ?_
      rintro e wE ⟨pE, rfl, hBE⟩
      have hBE := Aside0.mk (below_then (below_then hB2.out hB2.out.size hB.out) (below_then hB2.out hB2.out.size hB.out).size hBE)
      go_wp2_with fail
      refine bodyPost_ret (results_list (rs := [.tmp 4, .tmp 5]) rfl (by simp) (.tmp (.tmp .nil))) rfl ?_
      (first | rw [hnx.out, hcp.out] | skip); exact ⟨_, rfl, hBE.out⟩
   ·have z1 : ((k : Int) == 0) = false := beq_eq_false_iff_ne.mpr (by omega)
    clear hk0
    obtain ⟨b, eb⟩ : ∃ b, b = Lib.hasPrefix c.data.toList (⟨#[48]⟩ : ByteArray).data.toList := ⟨_, rfl⟩
    go_wp2_with fail
    refine (Tryd.strings_HasPrefix c ⟨#[48]⟩ _).mono ?_
    rintro e w3 ⟨rfl, rfl⟩
    rw [← eb]
    replace eb := Aside0.mk eb
    cases b
    ·have hcp := Aside0.mk (show (compP true (decide (k = 0)) c = (numU c).map (fun u => (u : Int))) from by
      have hb : bad0 c = false := by unfold bad0; rw [show Lib.hasPrefix c.data.toList [48] = false from eb.out.symm]; rfl
      unfold compP; rw [hb]; simp)
     cases hu : numU c with
     | none =>
      rw [hu] at hcp
      go_wp2_with fail
      refine (puNo c _ hsz.out hu (hV.out.below (below_then hB2.out hB2.out.size hB.out))).mono ?_
      rintro e w4 ⟨n4, p4, rfl, hB4⟩
      replace hB4 := Aside0.mk hB4
      go_wp2_with fail
      refine (errNew _ _).mono ?_
      rintro e wE ⟨pE, rfl, hBE⟩
      have hBE := Aside0.mk (below_then (below_then (below_then hB2.out hB2.out.size hB.out) (below_then hB2.out hB2.out.size hB.out).size hB4.out) (below_then (below_then hB2.out hB2.out.size hB.out) (below_then hB2.out hB2.out.size hB.out).size hB4.out).size hBE)
      go_wp2_with fail
      refine bodyPost_ret (results_list (rs := [.tmp 4, .tmp 5]) rfl (by simp) (.tmp (.tmp .nil))) rfl ?_
      (first | rw [hnx.out, hcp.out] | skip); exact ⟨_, rfl, hBE.out⟩
     | some u =>
      rw [hu] at hcp
      have hul := Aside0.mk (numU_lt hu)
      go_wp2_with fail
      refine (puYes c u _ hsz.out hu).mono ?_
      rintro e w4 ⟨rfl, hB4⟩
      replace hRow := Aside0.mk (hRow.out.below hB4)
      replace hObj := Aside0.mk (hObj.out.below hB4)
      replace hB := Aside0.mk (below_then hB.out hB.out.size hB4)
      clear hB4 hcell hu
      have hc0 := cV0 hObj.out
      have hst : w4.cell? ⟨w2.heap.size, k, none⟩ = some (.int .u64 0) := by
       refine (blk_cell hRow.out k).trans ?_
       have h1 := hnl.out
       have h2 := hk2.out
       simp only [List.getElem?_toArray, List.getElem?_map]
       rw [List.getElem?_append_right (by omega), List.getElem?_replicate, if_pos (by omega)]
       rfl
      have hfr : w4.frozen? ⟨w2.heap.size, k, none⟩ = false := by exact blk_frozen hRow.out k
      go_wp2_with fail
      go_roundw
      case measure => have := hk2.out; first | exact meas this | (rw [show (k : Int) + 1 = ((k + 1 : Nat) : Int) from rfl]; exact meas this)
      case rel =>
       have h1 := hnl.out
       have h2 := hk2.out
       refine ⟨k + 1, ns ++ [(u : Int)], h2, by go_num, by rw [List.length_append, h1]; rfl, ?_, ?_, ?_, ?_, below_set hB.out (Nat.le_refl _)⟩
       ·intro y hy
        rcases List.mem_append.1 hy with hy | hy
        ·exact hU.out y hy
        ·rw [List.mem_singleton.1 hy]; have := hul.out; omega
       ·rw [hnx.out, hcp.out]; rfl
       ·exact row_set h1 h2 hRow.out u
       ·exact blk_far hObj.out (by show w2.heap.size + 1 ≠ w2.heap.size; omega) _
    ·by_cases hz : c.toList = [48]
     ·have cz : (c.toList == ([48] : List UInt8)) = true := by rw [hz]; rfl
      have hcp := Aside0.mk (show (compP true (decide (k = 0)) c = (numU c).map (fun u => (u : Int))) from by
       have hb : bad0 c = false := by unfold bad0; rw [cz]; simp
       unfold compP; rw [hb]; simp)
      clear hz
      cases hu : numU c with
      | none =>
       rw [hu] at hcp
       go_wp2_with fail
       refine (puNo c _ hsz.out hu (hV.out.below (below_then hB2.out hB2.out.size hB.out))).mono ?_
       rintro e w4 ⟨n4, p4, rfl, hB4⟩
       replace hB4 := Aside0.mk hB4
       go_wp2_with fail
       refine (errNew _ _).mono ?_
       rintro e wE ⟨pE, rfl, hBE⟩
       have hBE := Aside0.mk (below_then (below_then (below_then hB2.out hB2.out.size hB.out) (below_then hB2.out hB2.out.size hB.out).size hB4.out) (below_then (below_then hB2.out hB2.out.size hB.out) (below_then hB2.out hB2.out.size hB.out).size hB4.out).size hBE)
       go_wp2_with fail
       refine bodyPost_ret (results_list (rs := [.tmp 4, .tmp 5]) rfl (by simp) (.tmp (.tmp .nil))) rfl ?_
       (first | rw [hnx.out, hcp.out] | skip); exact ⟨_, rfl, hBE.out⟩
      | some u =>
       rw [hu] at hcp
       have hul := Aside0.mk (numU_lt hu)
       go_wp2_with fail
       refine (puYes c u _ hsz.out hu).mono ?_
       rintro e w4 ⟨rfl, hB4⟩
       replace hRow := Aside0.mk (hRow.out.below hB4)
       replace hObj := Aside0.mk (hObj.out.below hB4)
       replace hB := Aside0.mk (below_then hB.out hB.out.size hB4)
       clear hB4 hcell hu
       have hc0 := cV0 hObj.out
       have hst : w4.cell? ⟨w2.heap.size, k, none⟩ = some (.int .u64 0) := by
        refine (blk_cell hRow.out k).trans ?_
        have h1 := hnl.out
        have h2 := hk2.out
        simp only [List.getElem?_toArray, List.getElem?_map]
        rw [List.getElem?_append_right (by omega), List.getElem?_replicate, if_pos (by omega)]
        rfl
       have hfr : w4.frozen? ⟨w2.heap.size, k, none⟩ = false := by exact blk_frozen hRow.out k
       go_wp2_with fail
       go_roundw
       case measure => have := hk2.out; first | exact meas this | (rw [show (k : Int) + 1 = ((k + 1 : Nat) : Int) from rfl]; exact meas this)
       case rel =>
        have h1 := hnl.out
        have h2 := hk2.out
        refine ⟨k + 1, ns ++ [(u : Int)], h2, by go_num, by rw [List.length_append, h1]; rfl, ?_, ?_, ?_, ?_, below_set hB.out (Nat.le_refl _)⟩
        ·intro y hy
         rcases List.mem_append.1 hy with hy | hy
         ·exact hU.out y hy
         ·rw [List.mem_singleton.1 hy]; have := hul.out; omega
        ·rw [hnx.out, hcp.out]; rfl
        ·exact row_set h1 h2 hRow.out u
        ·exact blk_far hObj.out (by show w2.heap.size + 1 ≠ w2.heap.size; omega) _
     ·have cz : (c.toList == ([48] : List UInt8)) = false := beq_eq_false_iff_ne.mpr hz
      have hcp := Aside0.mk (show compP true (decide (k = 0)) c = none from by
       have hb : bad0 c = true := by unfold bad0; rw [cz, show Lib.hasPrefix c.data.toList [48] = true from eb.out.symm]; rfl
       unfold compP; rw [hb, Bool.or_true]; rfl)
      clear hz
      go_wp2_with fail
      refine (errNew _ _).mono ?_
      rintro e wE ⟨pE, rfl, hBE⟩
      have hBE := Aside0.mk (below_then (below_then hB2.out hB2.out.size hB.out) (below_then hB2.out hB2.out.size hB.out).size hBE)
      go_wp2_with fail
      refine bodyPost_ret (results_list (rs := [.tmp 4, .tmp 5]) rfl (by simp) (.tmp (.tmp .nil))) rfl ?_
      (first | rw [hnx.out, hcp.out] | skip); exact ⟨_, rfl, hBE.out⟩
  ·have c3b := decide_eq_false c3
   obtain rfl : k = cs.length := by omega
   have hfin : compsP true true cs = some ns := by
    rw [hC, List.drop_length]
    show some (ns ++ []) = some ns
    rw [List.append_nil]
   have hRow := Aside0.mk (show Row wr w2.heap.size ns from by have h := hRow.out; rwa [Nat.sub_self, List.replicate_zero, List.append_nil] at h)
   replace hfin := Aside0.mk hfin
   replace hnl := Aside0.mk hnl
   have hB3 := Aside0.mk (below_then hB2.out hB2.out.size hB.out)
   have hge := Aside0.mk (show w.heap.size ≤ w2.heap.size + 1 from Nat.le_succ_of_le hB2.out.size)
   clear hCk hC hk c3
   go_wp2_with fail
   refine bodyPost_ret (results_list (rs := [.tmp 4, .tmp 5]) rfl (by simp) (.tmp (.tmp .nil))) rfl ?_
   rw [hfin.out]
   exact ⟨_, rfl, hge.out, isVer_of hnl.out hObj.out hRow.out hn, hU.out, hB3.out⟩
set_option maxHeartbeats 4000000 in
set_option maxRecDepth 100000 in
theorem parse_sem2 (k : Nat) (s : ByteArray) (l : List ByteArray) (x1 x2 : ByteArray) (cs : List ByteArray) (w : World) (h1 : version_zzVersion.f k s = some l) (hl3 : l.length = 3) (hx1 : rdOf ByteArray.empty l 1 = x1) (hx2 : rdOf ByteArray.empty l 2 = x2) (h2 : version_zzSplit.f k x1 ⟨#[46]⟩ = some cs) (hs : ∀ c ∈ cs, c.size ≤ 140737488351232) (hn : cs.length ≤ 4294967296) (hns : cs.length = 3) (h3 : ¬ x2.toList = []) (hV : VT.V w) (k2 : Nat) (ex : List ByteArray) (h4 : version_zzExtra.f k2 x2 = some ex) (h5 : ex = []) :
  Calls Tryd.prog 58 #[.string s, .bool true] w (Post true ((compsP true true cs).bind fun _ => none) w) := by
 replace hs := Aside0.mk hs
 replace hns := Aside0.mk hns
 replace hV := Aside0.mk hV
 replace h2 := Aside0.mk h2
 replace h3 := Aside0.mk h3
 have hmk := makeRow cs.length hn
 replace h4 := Aside0.mk h4
 replace h5 := Aside0.mk h5
 have q2 : (x2.toList == []) = false := beq_eq_false_iff_ne.mpr h3.out
 have r2 : x2.toList.isEmpty = false := by cases h : x2.toList with
 | nil => exact absurd h h3.out
 | cons a t => rfl
 go_enter Tryd.func58, Tryd.ntmps58
 go_wp2_with fail
 refine (version_zzVersion.calls k s l _ h1).mono ?_
 rintro e w1 ⟨v1, rfl, hR1, _, hB1⟩
 obtain ⟨A1, cp1, rfl⟩ := Kd.R_slice hR1
 obtain ⟨g1, cap1, hv1, hbase1, hglt1, cells1, hcells1⟩ := Kd.R_form hR1 (by omega)
 obtain ⟨rfl, rfl⟩ : A1 = some ⟨g1, 0, none⟩ ∧ cp1 = cap1 := by injection hv1 with e1 e2 e3; exact ⟨e1, e3⟩
 have rc1 : w1.cell? ⟨g1, 1, none⟩ = some (.string (rdOf ByteArray.empty l 1)) := (Kd.R_cell (ByteArray.empty) hR1 1 (by omega) (by omega)).1
 have rc2 : w1.cell? ⟨g1, 2, none⟩ = some (.string (rdOf ByteArray.empty l 2)) := (Kd.R_cell (ByteArray.empty) hR1 2 (by omega) (by omega)).1
 rw [hx1] at rc1
 rw [hx2] at rc2
 have z1 : (1 : Int) < (l.length : Int) := by omega
 have z2 : (2 : Int) < (l.length : Int) := by omega
 have hB1 := Aside0.mk hB1
 have hR1 := Aside0.mk hR1
 replace h1 := Aside0.mk h1
 replace hl3 := Aside0.mk hl3
 have hnil := nilNo ⟨g1, 0, none⟩ l.length cp1
 clear hv1 hcells1 hbase1 hglt1 hx1 hx2
 go_upto_region 4 with (fail)
 clear hnil
 go_region
 have hBd := Aside0.mk (show Below w.heap.size w w1.drew from pw_below_drewN hB1.out 1)
 clear rc1 rc2 z1 z2
 go_wp2_with fail
 refine (version_zzSplit.calls k x1 ⟨#[46]⟩ cs _ h2.out).mono ?_
 rintro e w2 ⟨v2, rfl, hR2, hB2⟩
 obtain ⟨A2, c2, rfl, hc2, hC2⟩ := Kd.R_reads hR2
 replace hc2 := Aside0.mk hc2
 have hB2 := Aside0.mk (below_then hBd.out hBd.out.size hB2)
 clear hR2 hB1 hR1 hBd
 have cn1 : ((cs.length : Int) != 3) = false := by have := hns.out; rw [this]; rfl
 have cn2 : (cs.length != 3) = false := by have := hns.out; rw [this]; rfl
 go_wp2_with fail
 go_loopw [57] (fun i wr => ∃ (k : Nat) (ns : List Int), k ≤ cs.length ∧ i = .int .i64 k ∧ ns.length = k ∧ U64 ns ∧ compsP true true cs = (compsP true (decide (k = 0)) (cs.drop k)).map (ns ++ ·) ∧ Row wr w2.heap.size (ns ++ List.replicate (cs.length - k) 0) ∧ Obj4 wr (w2.heap.size + 1) w2.heap.size cs.length true E0 E0 ∧ Below w2.heap.size w2 wr) (fun i _ => cs.length - (intOf i).toNat)
 case atStart =>
  refine ⟨0, [], Nat.zero_le _, rfl, rfl, (fun _ hx => by cases hx), by simp, ?_, ?_, below_alloc (below_alloc (Below.refl _ _) _) _⟩
  ·show (World.alloc _ _).heap[w2.heap.size]? = _
   rw [Below.heap_alloc _ _ _ (by rw [World.size_alloc]; omega), Nat.sub_zero, List.nil_append]
   have h := heap_alloc_new w2 (.cells (Array.replicate cs.length (Value.int .u64 0)) 36)
   rw [h, List.map_replicate, List.toArray_replicate]
  ·have h := heap_alloc_new (w2.alloc (.cells (Array.replicate cs.length (Value.int .u64 0)) 36)) (.cells #[.slice (some ⟨w2.heap.size, 0, none⟩) cs.length cs.length, .bool true, .string ⟨#[]⟩, .string ⟨#[]⟩] 87)
   rw [World.size_alloc] at h
   exact h
 case round =>
  obtain ⟨k, ns, hk, rfl, hnl, hU, hC, hRow, hObj, hB⟩ := hrel
  have hCk := Kd.C_below hC2 hB
  replace hU := Aside0.mk hU
  replace hRow := Aside0.mk hRow
  replace hObj := Aside0.mk hObj
  replace hB := Aside0.mk hB
  by_cases c3 : (k : Int) < (cs.length : Int)
  ·obtain ⟨c, hc⟩ : ∃ c, rdOf ByteArray.empty cs (k : Int) = c := ⟨_, rfl⟩
   have hcl := rdOf_at hc (by omega)
   have hsz := Aside0.mk (hs.out c (List.mem_of_getElem? hcl))
   have hnx := Aside0.mk (comps_next hcl hC)
   have p := Int.natCast_nonneg k
   obtain ⟨ad, e1, hcell⟩ := Kd.at_string hCk (k : Int) p c3
   rw [hc, Int.toNat_natCast] at hcell
   cases e1
   have c3b := decide_eq_true c3
   have hk2 := Aside0.mk (show k + 1 ≤ cs.length by omega)
   have hnl := Aside0.mk hnl
   replace hC := Aside0.mk hC
   replace p := eq_true p
   replace c3 := eq_true c3
   clear hCk hc hcl
   by_cases hk0 : k = 0
   ·have z1 : ((k : Int) == 0) = true := by rw [hk0]; rfl
    have hk0x := Aside0.mk (show (decide (k = 0) || true) = true from by rw [decide_eq_true hk0]; rfl)
    clear hk0
    obtain ⟨b, eb⟩ : ∃ b, b = Lib.hasPrefix c.data.toList (⟨#[48]⟩ : ByteArray).data.toList := ⟨_, rfl⟩
    go_wp2_with fail
    refine (Tryd.strings_HasPrefix c ⟨#[48]⟩ _).mono ?_
    rintro e w3 ⟨rfl, rfl⟩
    rw [← eb]
    replace eb := Aside0.mk eb
    cases b
    ·have hcp := Aside0.mk (show (compP true (decide (k = 0)) c = (numU c).map (fun u => (u : Int))) from by
      have hb : bad0 c = false := by unfold bad0; rw [show Lib.hasPrefix c.data.toList [48] = false from eb.out.symm]; rfl
      unfold compP; rw [hb]; simp)
     cases hu : numU c with
     | none =>
      rw [hu] at hcp
      go_wp2_with fail
      refine (puNo c _ hsz.out hu (hV.out.below (below_then hB2.out hB2.out.size hB.out))).mono ?_
      rintro e w4 ⟨n4, p4, rfl, hB4⟩
      replace hB4 := Aside0.mk hB4
      go_wp2_with fail
      refine (errNew _ _).mono ?_
      rintro e wE ⟨pE, rfl, hBE⟩
      have hBE := Aside0.mk (below_then (below_then (below_then hB2.out hB2.out.size hB.out) (below_then hB2.out hB2.out.size hB.out).size hB4.out) (below_then (below_then hB2.out hB2.out.size hB.out) (below_then hB2.out hB2.out.size hB.out).size hB4.out).size hBE)
      go_wp2_with fail
      refine bodyPost_ret (results_list (rs := [.tmp 4, .tmp 5]) rfl (by simp) (.tmp (.tmp .nil))) rfl ?_
      (first | rw [hnx.out, hcp.out] | skip); exact ⟨_, rfl, hBE.out⟩
     | some u =>
      rw [hu] at hcp
      have hul := Aside0.mk (numU_lt hu)
      go_wp2_with fail
      refine (puYes c u _ hsz.out hu).mono ?_
      rintro e w4 ⟨rfl, hB4⟩
      replace hRow := Aside0.mk (hRow.out.below hB4)
      replace hObj := Aside0.mk (hObj.out.below hB4)
      replace hB := Aside0.mk (below_then hB.out hB.out.size hB4)
      clear hB4 hcell hu
      have hc0 := cV0 hObj.out
      have hst : w4.cell? ⟨w2.heap.size, k, none⟩ = some (.int .u64 0) := by
       refine (blk_cell hRow.out k).trans ?_
       have h1 := hnl.out
       have h2 := hk2.out
       simp only [List.getElem?_toArray, List.getElem?_map]
       rw [List.getElem?_append_right (by omega), List.getElem?_replicate, if_pos (by omega)]
       rfl
      have hfr : w4.frozen? ⟨w2.heap.size, k, none⟩ = false := by exact blk_frozen hRow.out k
      go_wp2_with fail
      go_roundw
      case measure => have := hk2.out; first | exact meas this | (rw [show (k : Int) + 1 = ((k + 1 : Nat) : Int) from rfl]; exact meas this)
      case rel =>
       have h1 := hnl.out
       have h2 := hk2.out
       refine ⟨k + 1, ns ++ [(u : Int)], h2, by go_num, by rw [List.length_append, h1]; rfl, ?_, ?_, ?_, ?_, below_set hB.out (Nat.le_refl _)⟩
       ·intro y hy
        rcases List.mem_append.1 hy with hy | hy
        ·exact hU.out y hy
        ·rw [List.mem_singleton.1 hy]; have := hul.out; omega
       ·rw [hnx.out, hcp.out]; rfl
       ·exact row_set h1 h2 hRow.out u
       ·exact blk_far hObj.out (by show w2.heap.size + 1 ≠ w2.heap.size; omega) _
    ·by_cases hz : c.toList = [48]
     ·have cz : (c.toList == ([48] : List UInt8)) = true := by rw [hz]; rfl
      have hcp := Aside0.mk (show (compP true (decide (k = 0)) c = (numU c).map (fun u => (u : Int))) from by
       have hb : bad0 c = false := by unfold bad0; rw [cz]; simp
       unfold compP; rw [hb]; simp)
      clear hz
      cases hu : numU c with
      | none =>
       rw [hu] at hcp
       go_wp2_with fail
       refine (puNo c _ hsz.out hu (hV.out.below (below_then hB2.out hB2.out.size hB.out))).mono ?_
       rintro e w4 ⟨n4, p4, rfl, hB4⟩
       replace hB4 := Aside0.mk hB4
       go_wp2_with fail
       refine (errNew _ _).mono ?_
       rintro e wE ⟨pE, rfl, hBE⟩
       have hBE := Aside0.mk (below_then (below_then (below_then hB2.out hB2.out.size hB.out) (below_then hB2.out hB2.out.size hB.out).size hB4.out) (below_then (below_then hB2.out hB2.out.size hB.out) (below_then hB2.out hB2.out.size hB.out).size hB4.out).size hBE)
       go_wp2_with fail
       refine bodyPost_ret (results_list (rs := [.tmp 4, .tmp 5]) rfl (by simp) (.tmp (.tmp .nil))) rfl ?_
       (first | rw [hnx.out, hcp.out] | skip); exact ⟨_, rfl, hBE.out⟩
      | some u =>
       rw [hu] at hcp
       have hul := Aside0.mk (numU_lt hu)
       go_wp2_with fail
       refine (puYes c u _ hsz.out hu).mono ?_
       rintro e w4 ⟨rfl, hB4⟩
       replace hRow := Aside0.mk (hRow.out.below hB4)
       replace hObj := Aside0.mk (hObj.out.below hB4)
       replace hB := Aside0.mk (below_then hB.out hB.out.size hB4)
       clear hB4 hcell hu
       have hc0 := cV0 hObj.out
       have hst : w4.cell? ⟨w2.heap.size, k, none⟩ = some (.int .u64 0) := by
        refine (blk_cell hRow.out k).trans ?_
        have h1 := hnl.out
        have h2 := hk2.out
        simp only [List.getElem?_toArray, List.getElem?_map]
        rw [List.getElem?_append_right (by omega), List.getElem?_replicate, if_pos (by omega)]
        rfl
       have hfr : w4.frozen? ⟨w2.heap.size, k, none⟩ = false := by exact blk_frozen hRow.out k
       go_wp2_with fail
       go_roundw
       case measure => have := hk2.out; first | exact meas this | (rw [show (k : Int) + 1 = ((k + 1 : Nat) : Int) from rfl]; exact meas this)
       case rel =>
        have h1 := hnl.out
        have h2 := hk2.out
        refine ⟨k + 1, ns ++ [(u : Int)], h2, by go_num, by rw [List.length_append, h1]; rfl, ?_, ?_, ?_, ?_, below_set hB.out (Nat.le_refl _)⟩
        ·intro y hy
         rcases List.mem_append.1 hy with hy | hy
         ·exact hU.out y hy
         ·rw [List.mem_singleton.1 hy]; have := hul.out; omega
        ·rw [hnx.out, hcp.out]; rfl
        ·exact row_set h1 h2 hRow.out u
        ·exact blk_far hObj.out (by show w2.heap.size + 1 ≠ w2.heap.size; omega) _
     ·have cz : (c.toList == ([48] : List UInt8)) = false := beq_eq_false_iff_ne.mpr hz
      have hcp := Aside0.mk (show compP true (decide (k = 0)) c = none from by
       have hb : bad0 c = true := by unfold bad0; rw [cz, show Lib.hasPrefix c.data.toList [48] = true from eb.out.symm]; rfl
       unfold compP; rw [hb, Bool.or_true]; rfl)
      clear hz
      go_wp2_with fail
      refine (errNew _ _).mono ?_
      rintro e wE ⟨pE, rfl, hBE⟩
      have hBE := Aside0.mk (below_then (below_then hB2.out hB2.out.size hB.out) (below_then hB2.out hB2.out.size hB.out).size hBE)
      go_wp2_with fail
      refine bodyPost_ret (results_list (rs := [.tmp 4, .tmp 5]) rfl (by simp) (.tmp (.tmp .nil))) rfl ?_
      (first | rw [hnx.out, hcp.out] | skip); exact ⟨_, rfl, hBE.out⟩
   ·have z1 : ((k : Int) == 0) = false := beq_eq_false_iff_ne.mpr (by omega)
    clear hk0
    obtain ⟨b, eb⟩ : ∃ b, b = Lib.hasPrefix c.data.toList (⟨#[48]⟩ : ByteArray).data.toList := ⟨_, rfl⟩
    go_wp2_with fail
    refine (Tryd.strings_HasPrefix c ⟨#[48]⟩ _).mono ?_
    rintro e w3 ⟨rfl, rfl⟩
    rw [← eb]
    replace eb := Aside0.mk eb
    cases b
    ·have hcp := Aside0.mk (show (compP true (decide (k = 0)) c = (numU c).map (fun u => (u : Int))) from by
      have hb : bad0 c = false := by unfold bad0; rw [show Lib.hasPrefix c.data.toList [48] = false from eb.out.symm]; rfl
      unfold compP; rw [hb]; simp)
     cases hu : numU c with
     | none =>
      rw [hu] at hcp
      go_wp2_with fail
      refine (puNo c _ hsz.out hu (hV.out.below (below_then hB2.out hB2.out.size hB.out))).mono ?_
      rintro e w4 ⟨n4, p4, rfl, hB4⟩
      replace hB4 := Aside0.mk hB4
      go_wp2_with fail
      refine (errNew _ _).mono ?_
      rintro e wE ⟨pE, rfl, hBE⟩
      have hBE := Aside0.mk (below_then (below_then (below_then hB2.out hB2.out.size hB.out) (below_then hB2.out hB2.out.size hB.out).size hB4.out) (below_then (below_then hB2.out hB2.out.size hB.out) (below_then hB2.out hB2.out.size hB.out).size hB4.out).size hBE)
      go_wp2_with fail
      refine bodyPost_ret (results_list (rs := [.tmp 4, .tmp 5]) rfl (by simp) (.tmp (.tmp .nil))) rfl ?_
      (first | rw [hnx.out, hcp.out] | skip); exact ⟨_, rfl, hBE.out⟩
     | some u =>
      rw [hu] at hcp
      have hul := Aside0.mk (numU_lt hu)
      go_wp2_with fail
      refine (puYes c u _ hsz.out hu).mono ?_
      rintro e w4 ⟨rfl, hB4⟩
      replace hRow := Aside0.mk (hRow.out.below hB4)
      replace hObj := Aside0.mk (hObj.out.below hB4)
      replace hB := Aside0.mk (below_then hB.out hB.out.size hB4)
      clear hB4 hcell hu
      have hc0 := cV0 hObj.out
      have hst : w4.cell? ⟨w2.heap.size, k, none⟩ = some (.int .u64 0) := by
       refine (blk_cell hRow.out k).trans ?_
       have h1 := hnl.out
       have h2 := hk2.out
       simp only [List.getElem?_toArray, List.getElem?_map]
       rw [List.getElem?_append_right (by omega), List.getElem?_replicate, if_pos (by omega)]
       rfl
      have hfr : w4.frozen? ⟨w2.heap.size, k, none⟩ = false := by exact blk_frozen hRow.out k
      go_wp2_with fail
      go_roundw
      case measure => have := hk2.out; first | exact meas this | (rw [show (k : Int) + 1 = ((k + 1 : Nat) : Int) from rfl]; exact meas this)
      case rel =>
       have h1 := hnl.out
       have h2 := hk2.out
       refine ⟨k + 1, ns ++ [(u : Int)], h2, by go_num, by rw [List.length_append, h1]; rfl, ?_, ?_, ?_, ?_, below_set hB.out (Nat.le_refl _)⟩
       ·intro y hy
        rcases List.mem_append.1 hy with hy | hy
        ·exact hU.out y hy
        ·rw [List.mem_singleton.1 hy]; have := hul.out; omega
       ·rw [hnx.out, hcp.out]; rfl
       ·exact row_set h1 h2 hRow.out u
       ·exact blk_far hObj.out (by show w2.heap.size + 1 ≠ w2.heap.size; omega) _
    ·by_cases hz : c.toList = [48]
     ·have cz : (c.toList == ([48] : List UInt8)) = true := by rw [hz]; rfl
      have hcp := Aside0.mk (show (compP true (decide (k = 0)) c = (numU c).map (fun u => (u : Int))) from by
       have hb : bad0 c = false := by unfold bad0; rw [cz]; simp
       unfold compP; rw [hb]; simp)
      clear hz
      cases hu : numU c with
      | none =>
       rw [hu] at hcp
       go_wp2_with fail
       refine (puNo c _ hsz.out hu (hV.out.below (below_then hB2.out hB2.out.size hB.out))).mono ?_
       rintro e w4 ⟨n4, p4, rfl, hB4⟩
       replace hB4 := Aside0.mk hB4
       go_wp2_with fail
       refine (errNew _ _).mono ?_
       rintro e wE ⟨pE, rfl, hBE⟩
       have hBE := Aside0.mk (below_then (below_then (below_then hB2.out hB2.out.size hB.out) (below_then hB2.out hB2.out.size hB.out).size hB4.out) (below_then (below_then hB2.out hB2.out.size hB.out) (below_then hB2.out hB2.out.size hB.out).size hB4.out).size hBE)
       go_wp2_with fail
       refine bodyPost_ret (results_list (rs := [.tmp 4, .tmp 5]) rfl (by simp) (.tmp (.tmp .nil))) rfl ?_
       (first | rw [hnx.out, hcp.out] | skip); exact ⟨_, rfl, hBE.out⟩
      | some u =>
       rw [hu] at hcp
       have hul := Aside0.mk (numU_lt hu)
       go_wp2_with fail
       refine (puYes c u _ hsz.out hu).mono ?_
       rintro e w4 ⟨rfl, hB4⟩
       replace hRow := Aside0.mk (hRow.out.below hB4)
       replace hObj := Aside0.mk (hObj.out.below hB4)
       replace hB := Aside0.mk (below_then hB.out hB.out.size hB4)
       clear hB4 hcell hu
       have hc0 := cV0 hObj.out
       have hst : w4.cell? ⟨w2.heap.size, k, none⟩ = some (.int .u64 0) := by
        refine (blk_cell hRow.out k).trans ?_
        have h1 := hnl.out
        have h2 := hk2.out
        simp only [List.getElem?_toArray, List.getElem?_map]
        rw [List.getElem?_append_right (by omega), List.getElem?_replicate, if_pos (by omega)]
        rfl
       have hfr : w4.frozen? ⟨w2.heap.size, k, none⟩ = false := by exact blk_frozen hRow.out k
       go_wp2_with fail
       go_roundw
       case measure => have := hk2.out; first | exact meas this | (rw [show (k : Int) + 1 = ((k + 1 : Nat) : Int) from rfl]; exact meas this)
       case rel =>
        have h1 := hnl.out
        have h2 := hk2.out
        refine ⟨k + 1, ns ++ [(u : Int)], h2, by go_num, by rw [List.length_append, h1]; rfl, ?_, ?_, ?_, ?_, below_set hB.out (Nat.le_refl _)⟩
        ·intro y hy
         rcases List.mem_append.1 hy with hy | hy
         ·exact hU.out y hy
         ·rw [List.mem_singleton.1 hy]; have := hul.out; omega
        ·rw [hnx.out, hcp.out]; rfl
        ·exact row_set h1 h2 hRow.out u
        ·exact blk_far hObj.out (by show w2.heap.size + 1 ≠ w2.heap.size; omega) _
     ·have cz : (c.toList == ([48] : List UInt8)) = false := beq_eq_false_iff_ne.mpr hz
      have hcp := Aside0.mk (show compP true (decide (k = 0)) c = none from by
       have hb : bad0 c = true := by unfold bad0; rw [cz, show Lib.hasPrefix c.data.toList [48] = true from eb.out.symm]; rfl
       unfold compP; rw [hb, Bool.or_true]; rfl)
      clear hz
      go_wp2_with fail
      refine (errNew _ _).mono ?_
      rintro e wE ⟨pE, rfl, hBE⟩
      have hBE := Aside0.mk (below_then (below_then hB2.out hB2.out.size hB.out) (below_then hB2.out hB2.out.size hB.out).size hBE)
      go_wp2_with fail
      refine bodyPost_ret (results_list (rs := [.tmp 4, .tmp 5]) rfl (by simp) (.tmp (.tmp .nil))) rfl ?_
      (first | rw [hnx.out, hcp.out] | skip); exact ⟨_, rfl, hBE.out⟩
  ·have c3b := decide_eq_false c3
   obtain rfl : k = cs.length := by omega
   have hfin : compsP true true cs = some ns := by
    rw [hC, List.drop_length]
    show some (ns ++ []) = some ns
    rw [List.append_nil]
   have hRow := Aside0.mk (show Row wr w2.heap.size ns from by have h := hRow.out; rwa [Nat.sub_self, List.replicate_zero, List.append_nil] at h)
   replace hfin := Aside0.mk hfin
   replace hnl := Aside0.mk hnl
   have hB3 := Aside0.mk (below_then hB2.out hB2.out.size hB.out)
   have hge := Aside0.mk (show w.heap.size ≤ w2.heap.size + 1 from Nat.le_succ_of_le hB2.out.size)
   clear hCk hC hk c3
   go_wp2_with fail
   refine (version_zzExtra.calls k2 x2 ex _ h4.out).mono ?_
   rintro e w5 ⟨v5, rfl, hR5, hv5, hB5⟩
   have hObj := Aside0.mk (hObj.out.below hB5)
   have hRow := Aside0.mk (hRow.out.below hB5)
   replace hB3 := Aside0.mk (below_then hB3.out hB3.out.size hB5)
   obtain rfl := hv5 h5.out
   clear hv5 hR5 hB5
   have hnil := nilYes
   go_wp2_with fail
   refine (errNew _ _).mono ?_
   rintro e wE ⟨pE, rfl, hBE⟩
   have hBE := Aside0.mk (below_then hB3.out hB3.out.size hBE)
   go_wp2_with fail
   refine bodyPost_ret (results_list (rs := [.tmp 4, .tmp 5]) rfl (by simp) (.tmp (.tmp .nil))) rfl ?_
   (first | rw [hfin.out] | skip); exact ⟨_, rfl, hBE.out⟩
end Go.Proofs.YtmfgkidppchobaaDoor.Ver4
set_option linter.unusedSimpArgs false
set_option linter.unusedVariables false
namespace Go.Proofs.YtmfgkidppchobaaDoor.Ver4
open Go.RowKit Go.Proofs.YtmfgkidppchobaaDoorW.PrintWords Go.Proofs.YtmfgkidppchobaaDoorW.PrintLast Go.Proofs.YtmfgkidppchobaaDoor.XFnVersionWays Go.Proofs.YtmfgkidppchobaaDoor.Ver1 Go.Proofs.YtmfgkidppchobaaDoor.Ver2 Go.Proofs.YtmfgkidppchobaaDoor.Ver3
set_option maxHeartbeats 4000000 in
set_option maxRecDepth 100000 in
theorem parse_sem3 (k : Nat) (s : ByteArray) (l : List ByteArray) (x1 x2 : ByteArray) (cs : List ByteArray) (w : World) (h1 : version_zzVersion.f k s = some l) (hl3 : l.length = 3) (hx1 : rdOf ByteArray.empty l 1 = x1) (hx2 : rdOf ByteArray.empty l 2 = x2) (h2 : version_zzSplit.f k x1 ⟨#[46]⟩ = some cs) (hs : ∀ c ∈ cs, c.size ≤ 140737488351232) (hn : cs.length ≤ 4294967296) (hns : cs.length = 3) (h3 : ¬ x2.toList = []) (hV : VT.V w) (k2 : Nat) (ex : List ByteArray) (h4 : version_zzExtra.f k2 x2 = some ex) (h5 : ex.length = 3) (pre bld : ByteArray) (hp1 : rdOf ByteArray.empty ex 1 = pre) (hp2 : rdOf ByteArray.empty ex 2 = bld) (ps : List ByteArray) (h6 : version_zzSplit.f k2 pre ⟨#[46]⟩ = some ps) (hsp : ∀ c ∈ ps, c.size ≤ 140737488351232) (hnp : ps.length ≤ 4294967296) :
  Calls Tryd.prog 58 #[.string s, .bool true] w (Post true ((compsP true true cs).bind (tl ps pre bld)) w) := by
 replace hs := Aside0.mk hs
 replace hns := Aside0.mk hns
 replace hV := Aside0.mk hV
 replace h2 := Aside0.mk h2
 replace h3 := Aside0.mk h3
 have hmk := makeRow cs.length hn
 replace h4 := Aside0.mk h4
 replace h6 := Aside0.mk h6
 replace hsp := Aside0.mk hsp
 replace hp1 := Aside0.mk hp1
 replace hp2 := Aside0.mk hp2
 replace h5 := Aside0.mk h5
 have hnpx := Aside0.mk hnp
 have q2 : (x2.toList == []) = false := beq_eq_false_iff_ne.mpr h3.out
 have r2 : x2.toList.isEmpty = false := by cases h : x2.toList with
 | nil => exact absurd h h3.out
 | cons a t => rfl
 go_enter Tryd.func58, Tryd.ntmps58
 go_wp2_with fail
 refine (version_zzVersion.calls k s l _ h1).mono ?_
 rintro e w1 ⟨v1, rfl, hR1, _, hB1⟩
 obtain ⟨A1, cp1, rfl⟩ := Kd.R_slice hR1
 obtain ⟨g1, cap1, hv1, hbase1, hglt1, cells1, hcells1⟩ := Kd.R_form hR1 (by omega)
 obtain ⟨rfl, rfl⟩ : A1 = some ⟨g1, 0, none⟩ ∧ cp1 = cap1 := by injection hv1 with e1 e2 e3; exact ⟨e1, e3⟩
 have rc1 : w1.cell? ⟨g1, 1, none⟩ = some (.string (rdOf ByteArray.empty l 1)) := (Kd.R_cell (ByteArray.empty) hR1 1 (by omega) (by omega)).1
 have rc2 : w1.cell? ⟨g1, 2, none⟩ = some (.string (rdOf ByteArray.empty l 2)) := (Kd.R_cell (ByteArray.empty) hR1 2 (by omega) (by omega)).1
 rw [hx1] at rc1
 rw [hx2] at rc2
 have z1 : (1 : Int) < (l.length : Int) := by omega
 have z2 : (2 : Int) < (l.length : Int) := by omega
 have hB1 := Aside0.mk hB1
 have hR1 := Aside0.mk hR1
 replace h1 := Aside0.mk h1
 replace hl3 := Aside0.mk hl3
 have hnil := nilNo ⟨g1, 0, none⟩ l.length cp1
 clear hv1 hcells1 hbase1 hglt1 hx1 hx2
 go_upto_region 4 with (fail)
 clear hnil
 go_region
 have hBd := Aside0.mk (show Below w.heap.size w w1.drew from pw_below_drewN hB1.out 1)
 clear rc1 rc2 z1 z2
 go_wp2_with fail
 refine (version_zzSplit.calls k x1 ⟨#[46]⟩ cs _ h2.out).mono ?_
 rintro e w2 ⟨v2, rfl, hR2, hB2⟩
 obtain ⟨A2, c2, rfl, hc2, hC2⟩ := Kd.R_reads hR2
 replace hc2 := Aside0.mk hc2
 have hB2 := Aside0.mk (below_then hBd.out hBd.out.size hB2)
 clear hR2 hB1 hR1 hBd
 have cn1 : ((cs.length : Int) != 3) = false := by have := hns.out; rw [this]; rfl
 have cn2 : (cs.length != 3) = false := by have := hns.out; rw [this]; rfl
 go_wp2_with fail
 go_loopw [57] (fun i wr => ∃ (k : Nat) (ns : List Int), k ≤ cs.length ∧ i = .int .i64 k ∧ ns.length = k ∧ U64 ns ∧ compsP true true cs = (compsP true (decide (k = 0)) (cs.drop k)).map (ns ++ ·) ∧ Row wr w2.heap.size (ns ++ List.replicate (cs.length - k) 0) ∧ Obj4 wr (w2.heap.size + 1) w2.heap.size cs.length true E0 E0 ∧ Below w2.heap.size w2 wr) (fun i _ => cs.length - (intOf i).toNat)
 case atStart =>
  refine ⟨0, [], Nat.zero_le _, rfl, rfl, (fun _ hx => by cases hx), by simp, ?_, ?_, below_alloc (below_alloc (Below.refl _ _) _) _⟩
  ·show (World.alloc _ _).heap[w2.heap.size]? = _
   rw [Below.heap_alloc _ _ _ (by rw [World.size_alloc]; omega), Nat.sub_zero, List.nil_append]
   have h := heap_alloc_new w2 (.cells (Array.replicate cs.length (Value.int .u64 0)) 36)
   rw [h, List.map_replicate, List.toArray_replicate]
  ·have h := heap_alloc_new (w2.alloc (.cells (Array.replicate cs.length (Value.int .u64 0)) 36)) (.cells #[.slice (some ⟨w2.heap.size, 0, none⟩) cs.length cs.length, .bool true, .string ⟨#[]⟩, .string ⟨#[]⟩] 87)
   rw [World.size_alloc] at h
   exact h
 case round =>
  obtain ⟨k, ns, hk, rfl, hnl, hU, hC, hRow, hObj, hB⟩ := hrel
  have hCk := Kd.C_below hC2 hB
  replace hU := Aside0.mk hU
  replace hRow := Aside0.mk hRow
  replace hObj := Aside0.mk hObj
  replace hB := Aside0.mk hB
  by_cases c3 : (k : Int) < (cs.length : Int)
  ·obtain ⟨c, hc⟩ : ∃ c, rdOf ByteArray.empty cs (k : Int) = c := ⟨_, rfl⟩
   have hcl := rdOf_at hc (by omega)
   have hsz := Aside0.mk (hs.out c (List.mem_of_getElem? hcl))
   have hnx := Aside0.mk (comps_next hcl hC)
   have p := Int.natCast_nonneg k
   obtain ⟨ad, e1, hcell⟩ := Kd.at_string hCk (k : Int) p c3
   rw [hc, Int.toNat_natCast] at hcell
   cases e1
   have c3b := decide_eq_true c3
   have hk2 := Aside0.mk (show k + 1 ≤ cs.length by omega)
   have hnl := Aside0.mk hnl
   replace hC := Aside0.mk hC
   replace p := eq_true p
   replace c3 := eq_true c3
   clear hCk hc hcl
   by_cases hk0 : k = 0
   ·have z1 : ((k : Int) == 0) = true := by rw [hk0]; rfl
    have hk0x := Aside0.mk (show (decide (k = 0) || true) = true from by rw [decide_eq_true hk0]; rfl)
    clear hk0
    obtain ⟨b, eb⟩ : ∃ b, b = Lib.hasPrefix c.data.toList (⟨#[48]⟩ : ByteArray).data.toList := ⟨_, rfl⟩
    go_wp2_with fail
    refine (Tryd.strings_HasPrefix c ⟨#[48]⟩ _).mono ?_
    rintro e w3 ⟨rfl, rfl⟩
    rw [← eb]
    replace eb := Aside0.mk eb
    cases b
    ·have hcp := Aside0.mk (show (compP true (decide (k = 0)) c = (numU c).map (fun u => (u : Int))) from by
      have hb : bad0 c = false := by unfold bad0; rw [show Lib.hasPrefix c.data.toList [48] = false from eb.out.symm]; rfl
      unfold compP; rw [hb]; simp)
     cases hu : numU c with
     | none =>
      rw [hu] at hcp
      go_wp2_with fail
      refine (puNo c _ hsz.out hu (hV.out.below (below_then hB2.out hB2.out.size hB.out))).mono ?_
      rintro e w4 ⟨n4, p4, rfl, hB4⟩
      replace hB4 := Aside0.mk hB4
      go_wp2_with fail
      refine (errNew _ _).mono ?_
      rintro e wE ⟨pE, rfl, hBE⟩
      have hBE := Aside0.mk (below_then (below_then (below_then hB2.out hB2.out.size hB.out) (below_then hB2.out hB2.out.size hB.out).size hB4.out) (below_then (below_then hB2.out hB2.out.size hB.out) (below_then hB2.out hB2.out.size hB.out).size hB4.out).size hBE)
      go_wp2_with fail
      refine bodyPost_ret (results_list (rs := [.tmp 4, .tmp 5]) rfl (by simp) (.tmp (.tmp .nil))) rfl ?_
      (first | rw [hnx.out, hcp.out] | skip); exact ⟨_, rfl, hBE.out⟩
     | some u =>
      rw [hu] at hcp
      have hul := Aside0.mk (numU_lt hu)
      go_wp2_with fail
      refine (puYes c u _ hsz.out hu).mono ?_
      rintro e w4 ⟨rfl, hB4⟩
      replace hRow := Aside0.mk (hRow.out.below hB4)
      replace hObj := Aside0.mk (hObj.out.below hB4)
      replace hB := Aside0.mk (below_then hB.out hB.out.size hB4)
      clear hB4 hcell hu
      have hc0 := cV0 hObj.out
      have hst : w4.cell? ⟨w2.heap.size, k, none⟩ = some (.int .u64 0) := by
       refine (blk_cell hRow.out k).trans ?_
       have h1 := hnl.out
       have h2 := hk2.out
       simp only [List.getElem?_toArray, List.getElem?_map]
       rw [List.getElem?_append_right (by omega), List.getElem?_replicate, if_pos (by omega)]
       rfl
      have hfr : w4.frozen? ⟨w2.heap.size, k, none⟩ = false := by exact blk_frozen hRow.out k
      go_wp2_with fail
      go_roundw
      case measure => have := hk2.out; first | exact meas this | (rw [show (k : Int) + 1 = ((k + 1 : Nat) : Int) from rfl]; exact meas this)
      case rel =>
       have h1 := hnl.out
       have h2 := hk2.out
       refine ⟨k + 1, ns ++ [(u : Int)], h2, by go_num, by rw [List.length_append, h1]; rfl, ?_, ?_, ?_, ?_, below_set hB.out (Nat.le_refl _)⟩
       ·intro y hy
        rcases List.mem_append.1 hy with hy | hy
        ·exact hU.out y hy
        ·rw [List.mem_singleton.1 hy]; have := hul.out; omega
       ·rw [hnx.out, hcp.out]; rfl
       ·exact row_set h1 h2 hRow.out u
       ·exact blk_far hObj.out (by show w2.heap.size + 1 ≠ w2.heap.size; omega) _
    ·by_cases hz : c.toList = [48]
     ·have cz : (c.toList == ([48] : List UInt8)) = true := by rw [hz]; rfl
      have hcp := Aside0.mk (show (compP true (decide (k = 0)) c = (numU c).map (fun u => (u : Int))) from by
       have hb : bad0 c = false := by unfold bad0; rw [cz]; simp
       unfold compP; rw [hb]; simp)
      clear hz
      cases hu : numU c with
      | none =>
       rw [hu] at hcp
       go_wp2_with fail
       refine (puNo c _ hsz.out hu (hV.out.below (below_then hB2.out hB2.out.size hB.out))).mono ?_
       rintro e w4 ⟨n4, p4, rfl, hB4⟩
       replace hB4 := Aside0.mk hB4
       go_wp2_with fail
       refine (errNew _ _).mono ?_
       rintro e wE ⟨pE, rfl, hBE⟩
       have hBE := Aside0.mk (below_then (below_then (below_then hB2.out hB2.out.size hB.out) (below_then hB2.out hB2.out.size hB.out).size hB4.out) (below_then (below_then hB2.out hB2.out.size hB.out) (below_then hB2.out hB2.out.size hB.out).size hB4.out).size hBE)
       go_wp2_with fail
       refine bodyPost_ret (results_list (rs := [.tmp 4, .tmp 5]) rfl (by simp) (.tmp (.tmp .nil))) rfl ?_
       (first | rw [hnx.out, hcp.out] | skip); exact ⟨_, rfl, hBE.out⟩
      | some u =>
       rw [hu] at hcp
       have hul := Aside0.mk (numU_lt hu)
       go_wp2_with fail
       refine (puYes c u _ hsz.out hu).mono ?_
       rintro e w4 ⟨rfl, hB4⟩
       replace hRow := Aside0.mk (hRow.out.below hB4)
       replace hObj := Aside0.mk (hObj.out.below hB4)
       replace hB := Aside0.mk (below_then hB.out hB.out.size hB4)
       clear hB4 hcell hu
       have hc0 := cV0 hObj.out
       have hst : w4.cell? ⟨w2.heap.size, k, none⟩ = some (.int .u64 0) := by
        refine (blk_cell hRow.out k).trans ?_
        have h1 := hnl.out
        have h2 := hk2.out
        simp only [List.getElem?_toArray, List.getElem?_map]
        rw [List.getElem?_append_right (by omega), List.getElem?_replicate, if_pos (by omega)]
        rfl
       have hfr : w4.frozen? ⟨w2.heap.size, k, none⟩ = false := by exact blk_frozen hRow.out k
       go_wp2_with fail
       go_roundw
       case measure => have := hk2.out; first | exact meas this | (rw [show (k : Int) + 1 = ((k + 1 : Nat) : Int) from rfl]; exact meas this)
       case rel =>
        have h1 := hnl.out
        have h2 := hk2.out
        refine ⟨k + 1, ns ++ [(u : Int)], h2, by go_num, by rw [List.length_append, h1]; rfl, ?_, ?_, ?_, ?_, below_set hB.out (Nat.le_refl _)⟩
        ·intro y hy
         rcases List.mem_append.1 hy with hy | hy
         ·exact hU.out y hy
         ·rw [List.mem_singleton.1 hy]; have := hul.out; omega
        ·rw [hnx.out, hcp.out]; rfl
        ·exact row_set h1 h2 hRow.out u
        ·exact blk_far hObj.out (by show w2.heap.size + 1 ≠ w2.heap.size; omega) _
     ·have cz : (c.toList == ([48] : List UInt8)) = false := beq_eq_false_iff_ne.mpr hz
      have hcp := Aside0.mk (show compP true (decide (k = 0)) c = none from by
       have hb : bad0 c = true := by unfold bad0; rw [cz, show Lib.hasPrefix c.data.toList [48] = true from eb.out.symm]; rfl
       unfold compP; rw [hb, Bool.or_true]; rfl)
      clear hz
      go_wp2_with fail
      refine (errNew _ _).mono ?_
      rintro e wE ⟨pE, rfl, hBE⟩
      have hBE := Aside0.mk (below_then (below_then hB2.out hB2.out.size hB.out) (below_then hB2.out hB2.out.size hB.out).size hBE)
      go_wp2_with fail
      refine bodyPost_ret (results_list (rs := [.tmp 4, .tmp 5]) rfl (by simp) (.tmp (.tmp .nil))) rfl ?_
      (first | rw [hnx.out, hcp.out] | skip); exact ⟨_, rfl, hBE.out⟩
   ·have z1 : ((k : Int) == 0) = false := beq_eq_false_iff_ne.mpr (by omega)
    clear hk0
    obtain ⟨b, eb⟩ : ∃ b, b = Lib.hasPrefix c.data.toList (⟨#[48]⟩ : ByteArray).data.toList := ⟨_, rfl⟩
    go_wp2_with fail
    refine (Tryd.strings_HasPrefix c ⟨#[48]⟩ _).mono ?_
    rintro e w3 ⟨rfl, rfl⟩
    rw [← eb]
    replace eb := Aside0.mk eb
    cases b
    ·have hcp := Aside0.mk (show (compP true (decide (k = 0)) c = (numU c).map (fun u => (u : Int))) from by
      have hb : bad0 c = false := by unfold bad0; rw [show Lib.hasPrefix c.data.toList [48] = false from eb.out.symm]; rfl
      unfold compP; rw [hb]; simp)
     cases hu : numU c with
     | none =>
      rw [hu] at hcp
      go_wp2_with fail
      refine (puNo c _ hsz.out hu (hV.out.below (below_then hB2.out hB2.out.size hB.out))).mono ?_
      rintro e w4 ⟨n4, p4, rfl, hB4⟩
      replace hB4 := Aside0.mk hB4
      go_wp2_with fail
      refine (errNew _ _).mono ?_
      rintro e wE ⟨pE, rfl, hBE⟩
      have hBE := Aside0.mk (below_then (below_then (below_then hB2.out hB2.out.size hB.out) (below_then hB2.out hB2.out.size hB.out).size hB4.out) (below_then (below_then hB2.out hB2.out.size hB.out) (below_then hB2.out hB2.out.size hB.out).size hB4.out).size hBE)
      go_wp2_with fail
      refine bodyPost_ret (results_list (rs := [.tmp 4, .tmp 5]) rfl (by simp) (.tmp (.tmp .nil))) rfl ?_
      (first | rw [hnx.out, hcp.out] | skip); exact ⟨_, rfl, hBE.out⟩
     | some u =>
      rw [hu] at hcp
      have hul := Aside0.mk (numU_lt hu)
      go_wp2_with fail
      refine (puYes c u _ hsz.out hu).mono ?_
      rintro e w4 ⟨rfl, hB4⟩
      replace hRow := Aside0.mk (hRow.out.below hB4)
      replace hObj := Aside0.mk (hObj.out.below hB4)
      replace hB := Aside0.mk (below_then hB.out hB.out.size hB4)
      clear hB4 hcell hu
      have hc0 := cV0 hObj.out
      have hst : w4.cell? ⟨w2.heap.size, k, none⟩ = some (.int .u64 0) := by
       refine (blk_cell hRow.out k).trans ?_
       have h1 := hnl.out
       have h2 := hk2.out
       simp only [List.getElem?_toArray, List.getElem?_map]
       rw [List.getElem?_append_right (by omega), List.getElem?_replicate, if_pos (by omega)]
       rfl
      have hfr : w4.frozen? ⟨w2.heap.size, k, none⟩ = false := by exact blk_frozen hRow.out k
      go_wp2_with fail
      go_roundw
      case measure => have := hk2.out; first | exact meas this | (rw [show (k : Int) + 1 = ((k + 1 : Nat) : Int) from rfl]; exact meas this)
      case rel =>
       have h1 := hnl.out
       have h2 := hk2.out
       refine ⟨k + 1, ns ++ [(u : Int)], h2, by go_num, by rw [List.length_append, h1]; rfl, ?_, ?_, ?_, ?_, below_set hB.out (Nat.le_refl _)⟩
       ·intro y hy
        rcases List.mem_append.1 hy with hy | hy
        ·exact hU.out y hy
        ·rw [List.mem_singleton.1 hy]; have := hul.out; omega
       ·rw [hnx.out, hcp.out]; rfl
       ·exact row_set h1 h2 hRow.out u
       ·exact blk_far hObj.out (by show w2.heap.size + 1 ≠ w2.heap.size; omega) _
    ·by_cases hz : c.toList = [48]
     ·have cz : (c.toList == ([48] : List UInt8)) = true := by rw [hz]; rfl
      have hcp := Aside0.mk (show (compP true (decide (k = 0)) c = (numU c).map (fun u => (u : Int))) from by
       have hb : bad0 c = false := by unfold bad0; rw [cz]; simp
       unfold compP; rw [hb]; simp)
      clear hz
      cases hu : numU c with
      | none =>
       rw [hu] at hcp
       go_wp2_with fail
       refine (puNo c _ hsz.out hu (hV.out.below (below_then hB2.out hB2.out.size hB.out))).mono ?_
       rintro e w4 ⟨n4, p4, rfl, hB4⟩
       replace hB4 := Aside0.mk hB4
       go_wp2_with fail
       refine (errNew _ _).mono ?_
       rintro e wE ⟨pE, rfl, hBE⟩
       have hBE := Aside0.mk (below_then (below_then (below_then hB2.out hB2.out.size hB.out) (below_then hB2.out hB2.out.size hB.out).size hB4.out) (below_then (below_then hB2.out hB2.out.size hB.out) (below_then hB2.out hB2.out.size hB.out).size hB4.out).size hBE)
       go_wp2_with fail
       refine bodyPost_ret (results_list (rs := [.tmp 4, .tmp 5]) rfl (by simp) (.tmp (.tmp .nil))) rfl ?_
       (first | rw [hnx.out, hcp.out] | skip); exact ⟨_, rfl, hBE.out⟩
      | some u =>
       rw [hu] at hcp
       have hul := Aside0.mk (numU_lt hu)
       go_wp2_with fail
       refine (puYes c u _ hsz.out hu).mono ?_
       rintro e w4 ⟨rfl, hB4⟩
       replace hRow := Aside0.mk (hRow.out.below hB4)
       replace hObj := Aside0.mk (hObj.out.below hB4)
       replace hB := Aside0.mk (below_then hB.out hB.out.size hB4)
       clear hB4 hcell hu
       have hc0 := cV0 hObj.out
       have hst : w4.cell? ⟨w2.heap.size, k, none⟩ = some (.int .u64 0) := by
        refine (blk_cell hRow.out k).trans ?_
        have h1 := hnl.out
        have h2 := hk2.out
        simp only [List.getElem?_toArray, List.getElem?_map]
        rw [List.getElem?_append_right (by omega), List.getElem?_replicate, if_pos (by omega)]
        rfl
       have hfr : w4.frozen? ⟨w2.heap.size, k, none⟩ = false := by exact blk_frozen hRow.out k
       go_wp2_with fail
       go_roundw
       case measure => have := hk2.out; first | exact meas this | (rw [show (k : Int) + 1 = ((k + 1 : Nat) : Int) from rfl]; exact meas this)
       case rel =>
        have h1 := hnl.out
        have h2 := hk2.out
        refine ⟨k + 1, ns ++ [(u : Int)], h2, by go_num, by rw [List.length_append, h1]; rfl, ?_, ?_, ?_, ?_, below_set hB.out (Nat.le_refl _)⟩
        ·intro y hy
         rcases List.mem_append.1 hy with hy | hy
         ·exact hU.out y hy
         ·rw [List.mem_singleton.1 hy]; have := hul.out; omega
        ·rw [hnx.out, hcp.out]; rfl
        ·exact row_set h1 h2 hRow.out u
        ·exact blk_far hObj.out (by show w2.heap.size + 1 ≠ w2.heap.size; omega) _
     ·have cz : (c.toList == ([48] : List UInt8)) = false := beq_eq_false_iff_ne.mpr hz
      have hcp := Aside0.mk (show compP true (decide (k = 0)) c = none from by
       have hb : bad0 c = true := by unfold bad0; rw [cz, show Lib.hasPrefix c.data.toList [48] = true from eb.out.symm]; rfl
       unfold compP; rw [hb, Bool.or_true]; rfl)
      clear hz
      go_wp2_with fail
      refine (errNew _ _).mono ?_
      rintro e wE ⟨pE, rfl, hBE⟩
      have hBE := Aside0.mk (below_then (below_then hB2.out hB2.out.size hB.out) (below_then hB2.out hB2.out.size hB.out).size hBE)
      go_wp2_with fail
      refine bodyPost_ret (results_list (rs := [.tmp 4, .tmp 5]) rfl (by simp) (.tmp (.tmp .nil))) rfl ?_
      (first | rw [hnx.out, hcp.out] | skip); exact ⟨_, rfl, hBE.out⟩
  ·have c3b := decide_eq_false c3
   obtain rfl : k = cs.length := by omega
   have hfin : compsP true true cs = some ns := by
    rw [hC, List.drop_length]
    show some (ns ++ []) = some ns
    rw [List.append_nil]
   have hRow := Aside0.mk (show Row wr w2.heap.size ns from by have h := hRow.out; rwa [Nat.sub_self, List.replicate_zero, List.append_nil] at h)
   replace hfin := Aside0.mk hfin
   replace hnl := Aside0.mk hnl
   have hB3 := Aside0.mk (below_then hB2.out hB2.out.size hB.out)
   have hge := Aside0.mk (show w.heap.size ≤ w2.heap.size + 1 from Nat.le_succ_of_le hB2.out.size)
   clear hCk hC hk c3
   have hObj0 := hObj
   go_wp2_with fail
   refine (version_zzExtra.calls k2 x2 ex _ h4.out).mono ?_
   rintro e w5 ⟨v5, rfl, hR5, hv5, hB5⟩
   have hObj := Aside0.mk (hObj.out.below hB5)
   have hRow := Aside0.mk (hRow.out.below hB5)
   replace hB3 := Aside0.mk (below_then hB3.out hB3.out.size hB5)
   clear hv5
   obtain ⟨A5, cp5, rfl⟩ := Kd.R_slice hR5
   obtain ⟨g5, cap5, hv5, hbase5, hglt5, cells5, hcells5⟩ := Kd.R_form hR5 (by have := h5.out; omega)
   obtain ⟨rfl, rfl⟩ : A5 = some ⟨g5, 0, none⟩ ∧ cp5 = cap5 := by injection hv5 with e1 e2 e3; exact ⟨e1, e3⟩
   have rc1 : w5.cell? ⟨g5, 1, none⟩ = some (.string (rdOf ByteArray.empty ex 1)) := (Kd.R_cell (ByteArray.empty) hR5 1 (by omega) (by have := h5.out; omega)).1
   have rc2 : w5.cell? ⟨g5, 2, none⟩ = some (.string (rdOf ByteArray.empty ex 2)) := (Kd.R_cell (ByteArray.empty) hR5 2 (by omega) (by have := h5.out; omega)).1
   rw [hp1.out] at rc1
   rw [hp2.out] at rc2
   have z1 : (1 : Int) < (ex.length : Int) := by have := h5.out; omega
   have z2 : (2 : Int) < (ex.length : Int) := by have := h5.out; omega
   have hd0 := cV0 hObj.out
   have hd2 := cV2 hObj.out
   have hd3 := cV3 hObj.out
   have hf2 := blk_frozen hObj.out 2
   have hf3 := blk_frozen hObj.out 3
   have hne5 := Aside0.mk (show w2.heap.size + 1 < g5 from Nat.lt_of_lt_of_le (blk_lt hObj0.out) hbase5)
   clear hv5 hbase5 hglt5 hcells5 hB5 hR5
   have hnil := nilNo ⟨g5, 0, none⟩ ex.length cp5
   go_upto_region 23 with (fail)
   go_region
   obtain ⟨w6, hw6⟩ : ∃ x, ((w5.setCell ⟨w2.heap.size + 1, 2, none⟩ (.string pre)).setCell ⟨w2.heap.size + 1, 3, none⟩ (.string bld)).drew = x := ⟨_, rfl⟩
   have hObj6 : Obj4 w6 (w2.heap.size + 1) w2.heap.size cs.length true pre bld := by
    rw [← hw6]
    have h := blk_set (blk_set hObj.out 2 (.string pre)) 3 (.string bld)
    exact h
   have hRow6 : Row w6 w2.heap.size ns := by
    rw [← hw6]
    exact blk_far (blk_far hRow.out (by show w2.heap.size ≠ w2.heap.size + 1; omega) _) (by show w2.heap.size ≠ w2.heap.size + 1; omega) _
   have hB6 : Below w.heap.size w w6 := by
    rw [← hw6]
    exact pw_below_drewN (below_set (below_set hB3.out hge.out) hge.out) 1
   rw [hw6]
   replace hObj6 := Aside0.mk hObj6
   replace hRow6 := Aside0.mk hRow6
   replace hB6 := Aside0.mk hB6
   clear hw6 hnil rc1 rc2 z1 z2 hd0 hd2 hd3 hf2 hf3 hObj hRow hB3
   have hd2 := cV2 hObj6.out
   go_wp2_with fail
   refine (version_zzSplit.calls k2 pre ⟨#[46]⟩ ps _ h6.out).mono ?_
   rintro e w7 ⟨v7, rfl, hR7, hB7⟩
   obtain ⟨A7, c7, rfl, hc7, hC7⟩ := Kd.R_reads hR7
   replace hc7 := Aside0.mk hc7
   replace hObj6 := Aside0.mk (hObj6.out.below hB7)
   replace hRow6 := Aside0.mk (hRow6.out.below hB7)
   replace hB6 := Aside0.mk (below_then hB6.out hB6.out.size hB7)
   clear hR7 hB7 hd2
   go_wp2_with fail
   go_loopw [120] (fun i wr => ∃ k : Nat, k ≤ ps.length ∧ i = .int .i64 k ∧ (ps.take k).any badId = false ∧ Below w7.heap.size w7 wr) (fun i _ => ps.length - (intOf i).toNat)
   case atStart => exact ⟨0, Nat.zero_le _, rfl, rfl, Below.refl _ _⟩
   case round =>
    obtain ⟨k, hk, rfl, hany, hB⟩ := hrel
    have hCk := Kd.C_below hC7 hB
    replace hany := Aside0.mk hany
    replace hB := Aside0.mk hB
    by_cases c3 : (k : Int) < (ps.length : Int)
    ·obtain ⟨c, hc⟩ : ∃ c, rdOf ByteArray.empty ps (k : Int) = c := ⟨_, rfl⟩
     have hcl := rdOf_at hc (by omega)
     have hsz := Aside0.mk (hsp.out c (List.mem_of_getElem? hcl))
     have hbad := Aside0.mk (show badId c = true → ps.any badId = true from fun h => List.any_eq_true.2 ⟨c, List.mem_of_getElem? hcl, h⟩)
     have hnx := Aside0.mk (show badId c = false → (ps.take (k + 1)).any badId = false from fun h => by rw [List.take_add_one, hcl, Option.toList_some, List.any_append, hany.out, List.any_cons, h]; rfl)
     have p := Int.natCast_nonneg k
     obtain ⟨ad, e1, hcell⟩ := Kd.at_string hCk (k : Int) p c3
     rw [hc, Int.toNat_natCast] at hcell
     cases e1
     have c3b := decide_eq_true c3
     have hk2 := Aside0.mk (show k + 1 ≤ ps.length by omega)
     replace p := eq_true p
     replace c3 := eq_true c3
     clear hCk hc hcl
     cases hu : numU c with
     | none =>
      have hb := Aside0.mk (show badId c = false from by unfold badId; rw [hu]; rfl)
      go_wp2_with fail
      refine (puNo c _ hsz.out hu (hV.out.below (below_then hB6.out hB6.out.size hB.out))).mono ?_
      rintro e w8 ⟨n8, p8, rfl, hB8⟩
      replace hB := Aside0.mk (below_then hB.out hB.out.size hB8)
      clear hB8 hu
      go_wp2_with fail
      go_roundw
      case measure => have := hk2.out; first | exact meas this | (rw [show (k : Int) + 1 = ((k + 1 : Nat) : Int) from rfl]; exact meas this)
      case rel => exact ⟨k + 1, hk2.out, by go_num, hnx.out hb.out, hB.out⟩
     | some u =>
      go_wp2_with fail
      refine (puYes c u _ hsz.out hu).mono ?_
      rintro e w8 ⟨rfl, hB8⟩
      replace hB := Aside0.mk (below_then hB.out hB.out.size hB8)
      replace hu := Aside0.mk hu
      clear hB8
      obtain ⟨b, eb⟩ : ∃ b, b = Lib.hasPrefix c.data.toList (⟨#[48]⟩ : ByteArray).data.toList := ⟨_, rfl⟩
      go_wp2_with fail
      refine (Tryd.strings_HasPrefix c ⟨#[48]⟩ _).mono ?_
      rintro e w9 ⟨rfl, rfl⟩
      rw [← eb]
      replace eb := Aside0.mk eb
      cases b
      ·have hb := Aside0.mk (show badId c = false from by unfold badId bad0; rw [show Lib.hasPrefix c.data.toList [48] = false from eb.out.symm, Bool.false_and, Bool.and_false])
       go_wp2_with fail
       go_roundw
       case measure => have := hk2.out; first | exact meas this | (rw [show (k : Int) + 1 = ((k + 1 : Nat) : Int) from rfl]; exact meas this)
       case rel => exact ⟨k + 1, hk2.out, by go_num, hnx.out hb.out, hB.out⟩
      ·by_cases hz : c.toList = [48]
       ·have cz : (c.toList == ([48] : List UInt8)) = true := by rw [hz]; rfl
        have hb := Aside0.mk (show badId c = false from by unfold badId bad0; rw [cz, Bool.not_true, Bool.and_false, Bool.and_false])
        clear hz
        go_wp2_with fail
        go_roundw
        case measure => have := hk2.out; first | exact meas this | (rw [show (k : Int) + 1 = ((k + 1 : Nat) : Int) from rfl]; exact meas this)
        case rel => exact ⟨k + 1, hk2.out, by go_num, hnx.out hb.out, hB.out⟩
       ·have cz : (c.toList == ([48] : List UInt8)) = false := beq_eq_false_iff_ne.mpr hz
        have hb := Aside0.mk (show badId c = true from by unfold badId bad0; rw [cz, hu.out, show Lib.hasPrefix c.data.toList [48] = true from eb.out.symm]; rfl)
        clear hz
        go_wp2_with fail
        refine (errNew _ _).mono ?_
        rintro e wE ⟨pE, rfl, hBE⟩
        have hBE := Aside0.mk (below_then (below_then hB6.out hB6.out.size hB.out) (below_then hB6.out hB6.out.size hB.out).size hBE)
        go_wp2_with fail
        refine bodyPost_ret (results_list (rs := [.tmp 4, .tmp 5]) rfl (by simp) (.tmp (.tmp .nil))) rfl ?_
        rw [hfin.out]
        show Post true (tl ps pre bld ns) _ _ _
        unfold tl
        rw [if_pos (hbad.out hb.out)]
        exact ⟨_, rfl, hBE.out⟩
    ·have c3b := decide_eq_false c3
     obtain rfl : k = ps.length := by omega
     replace hany := Aside0.mk (show ps.any badId = false from by have h := hany.out; rwa [List.take_length] at h)
     have hB9 := Aside0.mk (below_then hB6.out hB6.out.size hB.out)
     replace hObj6 := Aside0.mk (hObj6.out.below hB.out)
     replace hRow6 := Aside0.mk (hRow6.out.below hB.out)
     clear hCk hk c3
     go_wp2_with fail
     refine bodyPost_ret (results_list (rs := [.tmp 4, .tmp 5]) rfl (by simp) (.tmp (.tmp .nil))) rfl ?_
     rw [hfin.out]
     show Post true (tl ps pre bld ns) _ _ _
     unfold tl
     rw [if_neg (by rw [hany.out]; decide)]
     exact ⟨_, rfl, hge.out, isVer_of hnl.out hObj6.out hRow6.out hn, hU.out, hB9.out⟩
end Go.Proofs.YtmfgkidppchobaaDoor.Ver4
set_option linter.unusedSimpArgs false
set_option linter.unusedVariables false
namespace Go.Proofs.YtmfgkidppchobaaDoor.Ver5
open Go.RowKit Go.Proofs.YtmfgkidppchobaaDoorW.PrintWords Go.Proofs.YtmfgkidppchobaaDoorW.PrintLast Go.Proofs.YtmfgkidppchobaaDoor.XFnVersionWays Go.Proofs.YtmfgkidppchobaaDoor.Ver1 Go.Proofs.YtmfgkidppchobaaDoor.Ver2 Go.Proofs.YtmfgkidppchobaaDoor.Ver3 Go.Proofs.YtmfgkidppchobaaDoor.Ver4
set_option maxHeartbeats 4000000 in
set_option maxRecDepth 100000 in
theorem parse_few (k : Nat) (s : ByteArray) (l : List ByteArray) (x1 x2 : ByteArray) (cs : List ByteArray) (w : World) (h1 : version_zzVersion.f k s = some l) (hl3 : l.length = 3) (hx1 : rdOf ByteArray.empty l 1 = x1) (hx2 : rdOf ByteArray.empty l 2 = x2) (h2 : version_zzSplit.f k x1 ⟨#[46]⟩ = some cs) (hs : ∀ c ∈ cs, c.size ≤ 140737488351232) (hn : cs.length ≤ 4294967296) (hns : cs.length < 2) (h3 : True) (hV : VT.V w) :
  Calls Tryd.prog 58 #[.string s, .bool false] w (Post false none w) := by
 replace hs := Aside0.mk hs
 replace hns := Aside0.mk hns
 replace hV := Aside0.mk hV
 replace h2 := Aside0.mk h2
 replace h3 := Aside0.mk h3
 go_enter Tryd.func58, Tryd.ntmps58
 go_wp2_with fail
 refine (version_zzVersion.calls k s l _ h1).mono ?_
 rintro e w1 ⟨v1, rfl, hR1, _, hB1⟩
 obtain ⟨A1, cp1, rfl⟩ := Kd.R_slice hR1
 obtain ⟨g1, cap1, hv1, hbase1, hglt1, cells1, hcells1⟩ := Kd.R_form hR1 (by omega)
 obtain ⟨rfl, rfl⟩ : A1 = some ⟨g1, 0, none⟩ ∧ cp1 = cap1 := by injection hv1 with e1 e2 e3; exact ⟨e1, e3⟩
 have rc1 : w1.cell? ⟨g1, 1, none⟩ = some (.string (rdOf ByteArray.empty l 1)) := (Kd.R_cell (ByteArray.empty) hR1 1 (by omega) (by omega)).1
 have rc2 : w1.cell? ⟨g1, 2, none⟩ = some (.string (rdOf ByteArray.empty l 2)) := (Kd.R_cell (ByteArray.empty) hR1 2 (by omega) (by omega)).1
 rw [hx1] at rc1
 rw [hx2] at rc2
 have z1 : (1 : Int) < (l.length : Int) := by omega
 have z2 : (2 : Int) < (l.length : Int) := by omega
 have hB1 := Aside0.mk hB1
 have hR1 := Aside0.mk hR1
 replace h1 := Aside0.mk h1
 replace hl3 := Aside0.mk hl3
 have hnil := nilNo ⟨g1, 0, none⟩ l.length cp1
 clear hv1 hcells1 hbase1 hglt1 hx1 hx2
 go_upto_region 4 with (fail)
 clear hnil
 go_region
 have hBd := Aside0.mk (show Below w.heap.size w w1.drew from pw_below_drewN hB1.out 1)
 clear rc1 rc2 z1 z2
 go_wp2_with fail
 refine (version_zzSplit.calls k x1 ⟨#[46]⟩ cs _ h2.out).mono ?_
 rintro e w2 ⟨v2, rfl, hR2, hB2⟩
 obtain ⟨A2, c2, rfl, hc2, hC2⟩ := Kd.R_reads hR2
 replace hc2 := Aside0.mk hc2
 have hB2 := Aside0.mk (below_then hBd.out hBd.out.size hB2)
 clear hR2 hB1 hR1 hBd
 have cn1 : decide ((cs.length : Int) < 2) = true := decide_eq_true (by have := hns.out; omega)
 have cn2 : decide (cs.length < 2) = true := decide_eq_true (by have := hns.out; omega)
 go_wp2_with fail
 refine (errNew _ _).mono ?_
 rintro e wE ⟨pE, rfl, hBE⟩
 have hBE := Aside0.mk (below_then hB2.out hB2.out.size hBE)
 go_wp2_with fail
 refine bodyPost_ret (results_list (rs := [.tmp 4, .tmp 5]) rfl (by simp) (.tmp (.tmp .nil))) rfl ?_
 exact ⟨_, rfl, hBE.out⟩
set_option maxHeartbeats 4000000 in
set_option maxRecDepth 100000 in
theorem parse_odd (k : Nat) (s : ByteArray) (l : List ByteArray) (x1 x2 : ByteArray) (cs : List ByteArray) (w : World) (h1 : version_zzVersion.f k s = some l) (hl3 : l.length = 3) (hx1 : rdOf ByteArray.empty l 1 = x1) (hx2 : rdOf ByteArray.empty l 2 = x2) (h2 : version_zzSplit.f k x1 ⟨#[46]⟩ = some cs) (hs : ∀ c ∈ cs, c.size ≤ 140737488351232) (hn : cs.length ≤ 4294967296) (hns : ¬ cs.length = 3) (h3 : True) (hV : VT.V w) :
  Calls Tryd.prog 58 #[.string s, .bool true] w (Post true none w) := by
 replace hs := Aside0.mk hs
 replace hns := Aside0.mk hns
 replace hV := Aside0.mk hV
 replace h2 := Aside0.mk h2
 replace h3 := Aside0.mk h3
 go_enter Tryd.func58, Tryd.ntmps58
 go_wp2_with fail
 refine (version_zzVersion.calls k s l _ h1).mono ?_
 rintro e w1 ⟨v1, rfl, hR1, _, hB1⟩
 obtain ⟨A1, cp1, rfl⟩ := Kd.R_slice hR1
 obtain ⟨g1, cap1, hv1, hbase1, hglt1, cells1, hcells1⟩ := Kd.R_form hR1 (by omega)
 obtain ⟨rfl, rfl⟩ : A1 = some ⟨g1, 0, none⟩ ∧ cp1 = cap1 := by injection hv1 with e1 e2 e3; exact ⟨e1, e3⟩
 have rc1 : w1.cell? ⟨g1, 1, none⟩ = some (.string (rdOf ByteArray.empty l 1)) := (Kd.R_cell (ByteArray.empty) hR1 1 (by omega) (by omega)).1
 have rc2 : w1.cell? ⟨g1, 2, none⟩ = some (.string (rdOf ByteArray.empty l 2)) := (Kd.R_cell (ByteArray.empty) hR1 2 (by omega) (by omega)).1
 rw [hx1] at rc1
 rw [hx2] at rc2
 have z1 : (1 : Int) < (l.length : Int) := by omega
 have z2 : (2 : Int) < (l.length : Int) := by omega
 have hB1 := Aside0.mk hB1
 have hR1 := Aside0.mk hR1
 replace h1 := Aside0.mk h1
 replace hl3 := Aside0.mk hl3
 have hnil := nilNo ⟨g1, 0, none⟩ l.length cp1
 clear hv1 hcells1 hbase1 hglt1 hx1 hx2
 go_upto_region 4 with (fail)
 clear hnil
 go_region
 have hBd := Aside0.mk (show Below w.heap.size w w1.drew from pw_below_drewN hB1.out 1)
 clear rc1 rc2 z1 z2
 go_wp2_with fail
 refine (version_zzSplit.calls k x1 ⟨#[46]⟩ cs _ h2.out).mono ?_
 rintro e w2 ⟨v2, rfl, hR2, hB2⟩
 obtain ⟨A2, c2, rfl, hc2, hC2⟩ := Kd.R_reads hR2
 replace hc2 := Aside0.mk hc2
 have hB2 := Aside0.mk (below_then hBd.out hBd.out.size hB2)
 clear hR2 hB1 hR1 hBd
 have cn1 : ((cs.length : Int) != 3) = true := bne_iff_ne.mpr (by have := hns.out; omega)
 have cn2 : (cs.length != 3) = true := bne_iff_ne.mpr hns.out
 go_wp2_with fail
 refine (errNew _ _).mono ?_
 rintro e wE ⟨pE, rfl, hBE⟩
 have hBE := Aside0.mk (below_then hB2.out hB2.out.size hBE)
 go_wp2_with fail
 refine bodyPost_ret (results_list (rs := [.tmp 4, .tmp 5]) rfl (by simp) (.tmp (.tmp .nil))) rfl ?_
 exact ⟨_, rfl, hBE.out⟩
abbrev PV := List Int × ByteArray × ByteArray
def okV (r : Option PV) : Prop := match r with
 | none => True
 | some (ns, pre, bld) => 2 ≤ ns.length ∧ ns.length ≤ 4294967296 ∧ pre.size ≤ 4294967296 ∧ bld.size ≤ 4294967296
instance (r : Option PV) : Decidable (okV r) := by unfold okV; split <;> infer_instance
def okC (cs : List ByteArray) : Prop := (∀ c ∈ cs, c.size ≤ 140737488351232) ∧ cs.length ≤ 4294967296
instance (cs : List ByteArray) : Decidable (okC cs) := by unfold okC; infer_instance
def restF (k : Nat) (sv : Bool) (x2 : ByteArray) (cs : List ByteArray) : Option (Option PV) :=
 if sv = false then (if cs.length < 2 then some none else some ((compsP false true cs).map fun ns => (ns, E0, E0)))
 else if ¬ cs.length = 3 then some none
 else if x2.toList = [] then some ((compsP true true cs).map fun ns => (ns, E0, E0))
 else (version_zzExtra.f k x2).bind fun ex => if ex = [] then some none else if ex.length = 3 then
  (version_zzSplit.f k (rdOf ByteArray.empty ex 1) ⟨#[46]⟩).bind fun ps => if okC ps then some ((compsP true true cs).bind (tl ps (rdOf ByteArray.empty ex 1) (rdOf ByteArray.empty ex 2))) else none
 else none
def parseF (k : Nat) (sv : Bool) (s : ByteArray) : Option (Option PV) :=
 (version_zzVersion.f k s).bind fun l => if l = [] then some none else if l.length = 3 then
  (version_zzSplit.f k (rdOf ByteArray.empty l 1) ⟨#[46]⟩).bind fun cs => if okC cs then restF k sv (rdOf ByteArray.empty l 2) cs else none
 else none
theorem parse_calls (k : Nat) (s : ByteArray) (sv : Bool) (r : Option PV) (w : World) (h : parseF k sv s = some r) (hV : VT.V w) :
  Calls Tryd.prog 58 #[.string s, .bool sv] w (Post sv r w) := by
 unfold parseF at h
 obtain ⟨l, h1, h⟩ := Option.bind_eq_some_iff.mp h
 by_cases hl : l = []
 ·rw [if_pos hl] at h
  obtain rfl := Option.some.inj h
  subst hl
  exact parse_nil k s sv w h1
 rw [if_neg hl] at h
 by_cases hl3 : l.length = 3
 case neg => rw [if_neg hl3] at h; cases h
 rw [if_pos hl3] at h
 obtain ⟨cs, h2, h⟩ := Option.bind_eq_some_iff.mp h
 by_cases hok : okC cs
 case neg =>
  rw [if_neg hok] at h; cases h
 rw [if_pos hok] at h
 unfold restF at h
 cases sv with
 | false =>
  rw [if_pos rfl] at h
  by_cases hf : cs.length < 2
  ·rw [if_pos hf] at h
   obtain rfl := Option.some.inj h
   exact parse_few k s l _ _ cs w h1 hl3 rfl rfl h2 hok.1 hok.2 hf trivial hV
  ·rw [if_neg hf] at h
   obtain rfl := Option.some.inj h
   exact parse_gen k s l _ _ cs w h1 hl3 rfl rfl h2 hok.1 hok.2 hV hf trivial
 | true =>
  rw [if_neg (by decide)] at h
  by_cases hf : cs.length = 3
  case neg =>
   rw [if_pos hf] at h
   obtain rfl := Option.some.inj h
   exact parse_odd k s l _ _ cs w h1 hl3 rfl rfl h2 hok.1 hok.2 hf trivial hV
  rw [if_neg (fun h => h hf)] at h
  by_cases hx : (rdOf ByteArray.empty l 2).toList = []
  ·rw [if_pos hx] at h
   obtain rfl := Option.some.inj h
   exact parse_sem1 k s l _ _ cs w h1 hl3 rfl rfl h2 hok.1 hok.2 hf hx hV
  rw [if_neg hx] at h
  obtain ⟨ex, h4, h⟩ := Option.bind_eq_some_iff.mp h
  by_cases he : ex = []
  ·rw [if_pos he] at h
   obtain rfl := Option.some.inj h
   have h9 := parse_sem2 k s l _ _ cs w h1 hl3 rfl rfl h2 hok.1 hok.2 hf hx hV k ex h4 he
   rwa [show ((compsP true true cs).bind fun _ => (none : Option PV)) = none from by cases compsP true true cs <;> rfl] at h9
  rw [if_neg he] at h
  by_cases he3 : ex.length = 3
  case neg =>
   rw [if_neg he3] at h; cases h
  rw [if_pos he3] at h
  obtain ⟨ps, h6, h⟩ := Option.bind_eq_some_iff.mp h
  by_cases hop : okC ps
  case neg =>
   rw [if_neg hop] at h; cases h
  rw [if_pos hop] at h
  obtain rfl := Option.some.inj h
  exact parse_sem3 k s l _ _ cs w h1 hl3 rfl rfl h2 hok.1 hok.2 hf hx hV k ex h4 he3 _ _ rfl rfl ps h6 hop.1 hop.2
end Go.Proofs.YtmfgkidppchobaaDoor.Ver5


set_option linter.unusedSimpArgs false
set_option linter.unusedVariables false
namespace Go.Proofs.YtmfgkidppchobaaDoor.Ver6
open Go.RowKit Go.Proofs.YtmfgkidppchobaaDoorW.PrintWords Go.Proofs.YtmfgkidppchobaaDoorW.PrintLast Go.Proofs.YtmfgkidppchobaaDoor.XFnVersionWays Go.Proofs.YtmfgkidppchobaaDoor.Ver1 Go.Proofs.YtmfgkidppchobaaDoor.Ver2 Go.Proofs.YtmfgkidppchobaaDoor.Ver3 Go.Proofs.YtmfgkidppchobaaDoor.Ver4 Go.Proofs.YtmfgkidppchobaaDoor.Ver5
def PostV (r : Option (Bool × PV)) (w : World) (e : Ending) (w' : World) : Prop := match r with
 | none => ∃ p, e = .returned (.tuple #[.pointer none, .iface 107 p]) ∧ Below w.heap.size w w'
 | some (sv, ns, pre, bld) => ∃ g, e = .returned (.tuple #[Ptr g, .nilIface]) ∧ IsVer w' g ns sv pre bld ∧ U64 ns ∧ Below w.heap.size w w'
theorem postV_of {sv : Bool} {r : Option PV} {w w' : World} {e : Ending} (h : Post sv r w e w') : PostV (r.map fun v => (sv, v)) w e w' := by
 cases r with
 | none => exact h
 | some v =>
  obtain ⟨ns, pre, bld⟩ := v
  obtain ⟨g, h1, _, h2, h3, h4⟩ := h
  exact ⟨g, h1, h2, h3, h4⟩
set_option maxHeartbeats 4000000 in
set_option maxRecDepth 100000 in
theorem generic_calls (k : Nat) (s : ByteArray) (r : Option PV) (w : World) (h : parseF k false s = some r) (hV : VT.V w) : Calls Tryd.prog 54 #[.string s] w (Post false r w) := by
 have h0 := Aside0.mk h
 replace hV := Aside0.mk hV
 clear h
 go_enter Tryd.func54, Tryd.ntmps54
 go_wp2_with fail
 refine (parse_calls k s false r _ h0.out hV.out).mono ?_
 intro e w1 h
 cases r with
 | none =>
  obtain ⟨p, rfl, hB⟩ := h
  go_wp2_with fail
  refine bodyPost_ret (results_list (rs := [.tmp 2, .tmp 3]) rfl (by simp) (.tmp (.tmp .nil))) rfl ?_
  exact ⟨_, rfl, hB⟩
 | some v =>
  obtain ⟨ns, pre, bld⟩ := v
  obtain ⟨g, rfl, hg, hI, hU, hB⟩ := h
  unfold Ptr
  go_wp2_with fail
  refine bodyPost_ret (results_list (rs := [.tmp 2, .tmp 3]) rfl (by simp) (.tmp (.tmp .nil))) rfl ?_
  exact ⟨g, rfl, hg, hI, hU, hB⟩
set_option maxHeartbeats 4000000 in
set_option maxRecDepth 100000 in
theorem semantic_calls (k : Nat) (s : ByteArray) (r : Option PV) (w : World) (h : parseF k true s = some r) (hV : VT.V w) : Calls Tryd.prog 55 #[.string s] w (Post true r w) := by
 have h0 := Aside0.mk h
 replace hV := Aside0.mk hV
 clear h
 go_enter Tryd.func55, Tryd.ntmps55
 go_wp2_with fail
 refine (parse_calls k s true r _ h0.out hV.out).mono ?_
 intro e w1 h
 cases r with
 | none =>
  obtain ⟨p, rfl, hB⟩ := h
  go_wp2_with fail
  refine bodyPost_ret (results_list (rs := [.tmp 2, .tmp 3]) rfl (by simp) (.tmp (.tmp .nil))) rfl ?_
  exact ⟨_, rfl, hB⟩
 | some v =>
  obtain ⟨ns, pre, bld⟩ := v
  obtain ⟨g, rfl, hg, hI, hU, hB⟩ := h
  unfold Ptr
  go_wp2_with fail
  refine bodyPost_ret (results_list (rs := [.tmp 2, .tmp 3]) rfl (by simp) (.tmp (.tmp .nil))) rfl ?_
  exact ⟨g, rfl, hg, hI, hU, hB⟩
def anyF (k : Nat) (s : ByteArray) : Option (Option (Bool × PV)) := (parseF k true s).bind fun r => match r with
 | some v => some (some (true, v))
 | none => (parseF k false s).map fun r => r.map fun v => (false, v)
set_option maxHeartbeats 4000000 in
set_option maxRecDepth 100000 in
theorem any_calls (k : Nat) (s : ByteArray) (r : Option (Bool × PV)) (w : World) (h : anyF k s = some r) (hV : VT.V w) : Calls Tryd.prog 57 #[.string s] w (PostV r w) := by
 unfold anyF at h
 obtain ⟨r1, h1, h⟩ := Option.bind_eq_some_iff.mp h
 replace hV := Aside0.mk hV
 replace h1 := Aside0.mk h1
 replace h := Aside0.mk h
 go_enter Tryd.func57, Tryd.ntmps57
 go_wp2_with fail
 refine (parse_calls k s true r1 _ h1.out hV.out).mono ?_
 intro e w1 hp
 cases r1 with
 | some v =>
  obtain rfl := Option.some.inj h.out
  obtain ⟨ns, pre, bld⟩ := v
  obtain ⟨g, rfl, hg, hI, hU, hB⟩ := hp
  unfold Ptr
  go_wp2_with fail
  refine bodyPost_ret (results_list (rs := [.tmp 2, .tmp 3]) rfl (by simp) (.tmp (.tmp .nil))) rfl ?_
  exact ⟨g, rfl, hI, hU, hB⟩
 | none =>
  obtain ⟨p, rfl, hB⟩ := hp
  obtain ⟨r2, h2, h3⟩ := Option.map_eq_some_iff.mp h.out
  replace h2 := Aside0.mk h2
  subst h3
  replace hB := Aside0.mk hB
  clear h
  go_wp2_with fail
  refine (parse_calls k s false r2 _ h2.out (hV.out.below hB.out)).mono ?_
  intro e w2 hp
  cases r2 with
  | none =>
   obtain ⟨p, rfl, hB2⟩ := hp
   go_wp2_with fail
   refine bodyPost_ret (results_list (rs := [.tmp 2, .tmp 3]) rfl (by simp) (.tmp (.tmp .nil))) rfl ?_
   exact ⟨_, rfl, below_then hB.out hB.out.size hB2⟩
  | some v =>
   obtain ⟨ns, pre, bld⟩ := v
   obtain ⟨g, rfl, hg, hI, hU, hB2⟩ := hp
   unfold Ptr
   go_wp2_with fail
   refine bodyPost_ret (results_list (rs := [.tmp 2, .tmp 3]) rfl (by simp) (.tmp (.tmp .nil))) rfl ?_
   exact ⟨g, rfl, hI, hU, below_then hB.out hB.out.size hB2⟩
def twoF (k : Nat) (s : ByteArray) : Option (Option (Bool × PV)) := (parseF k false s).bind fun r => match r with
 | some v => if 2 ≤ v.1.length then some (some (false, [rd v.1 0, rd v.1 1], E0, E0)) else none
 | none => some none
theorem u64_two {ns : List Int} (h : U64 ns) (hl : 2 ≤ ns.length) : U64 [rd ns 0, rd ns 1] := by
 have h0 : rd ns 0 ∈ ns := List.mem_of_getElem? (rd_at (l := ns) (k := 0) rfl (by omega))
 have h1 : rd ns 1 ∈ ns := List.mem_of_getElem? (rd_at (l := ns) (k := 1) rfl (by omega))
 intro x hx
 rcases List.mem_cons.1 hx with rfl | hx
 ·exact h _ h0
 ·rw [List.mem_singleton.1 hx]; exact h _ h1
set_option maxHeartbeats 4000000 in
set_option maxRecDepth 100000 in
theorem two_calls (k : Nat) (s : ByteArray) (r : Option (Bool × PV)) (w : World) (h : twoF k s = some r) (hV : VT.V w) : Calls Tryd.prog 56 #[.string s] w (PostV r w) := by
 unfold twoF at h
 obtain ⟨r1, h1, h⟩ := Option.bind_eq_some_iff.mp h
 replace hV := Aside0.mk hV
 replace h1 := Aside0.mk h1
 replace h := Aside0.mk h
 go_enter Tryd.func56, Tryd.ntmps56
 go_wp2_with fail
 refine (generic_calls k s r1 _ h1.out hV.out).mono ?_
 intro e w1 hp
 cases r1 with
 | none =>
  obtain rfl := Option.some.inj h.out
  obtain ⟨p, rfl, hB⟩ := hp
  go_wp2_with fail
  refine bodyPost_ret (results_list (rs := [.tmp 2, .tmp 3]) rfl (by simp) (.tmp (.tmp .nil))) rfl ?_
  exact ⟨_, rfl, hB⟩
 | some v =>
  obtain ⟨ns, pre, bld⟩ := v
  obtain ⟨g, rfl, hg, hI, hU, hB⟩ := hp
  have h2 := h.out
  by_cases hl : 2 ≤ ns.length
  case neg => simp only [] at h2; rw [if_neg hl] at h2; cases h2
  simp only [] at h2
  rw [if_pos hl] at h2
  obtain rfl := Option.some.inj h2
  replace hl := Aside0.mk hl
  replace hI := Aside0.mk hI
  replace hU := Aside0.mk hU
  replace hB := Aside0.mk hB
  clear h2 h
  unfold Ptr
  go_wp2_with fail
  refine (major_calls g ns false pre bld _ hI.out (by have := hl.out; omega)).mono ?_
  rintro e w2 ⟨rfl, rfl⟩
  go_wp2_with fail
  refine (minor_calls g ns false pre bld _ hI.out (by have := hl.out; omega)).mono ?_
  rintro e w3 ⟨rfl, rfl⟩
  go_wp2_with fail
  refine (majorMinor_calls _ _ _).mono ?_
  rintro e w4 ⟨g2, rfl, hI2, hB2⟩
  unfold Ptr
  go_wp2_with fail
  refine bodyPost_ret (results_list (rs := [.tmp 2, .tmp 3]) rfl (by simp) (.tmp (.tmp .nil))) rfl ?_
  exact ⟨g2, rfl, hI2, u64_two hU.out hl.out, below_then hB.out hB.out.size hB2⟩
def parsedF (k : Nat) (kind : Int) (s : ByteArray) : Option (Option (Bool × PV)) :=
 if kind = 1 then (parseF k false s).map fun r => r.map fun v => (false, v)
 else if kind = 2 then (parseF k true s).map fun r => r.map fun v => (true, v)
 else if kind = 3 then twoF k s else anyF k s
set_option maxHeartbeats 4000000 in
set_option maxRecDepth 100000 in
theorem parsed_calls (k : Nat) (kind : Int) (s : ByteArray) (r : Option (Bool × PV)) (w : World) (h : parsedF k kind s = some r) (hV : VT.V w) : Calls Tryd.prog 27 #[.int .i64 kind, .string s] w (PostV r w) := by
 unfold parsedF at h
 replace hV := Aside0.mk hV
 by_cases k1 : kind = 1
 ·rw [if_pos k1] at h
  subst k1
  obtain ⟨r1, h1, hr⟩ := Option.map_eq_some_iff.mp h
  clear h
  replace h1 := Aside0.mk h1
  replace hr := Aside0.mk hr
  go_enter Tryd.func27, Tryd.ntmps27
  go_wp2_with fail
  refine (generic_calls k s r1 _ h1.out hV.out).mono ?_
  intro e w1 hp0
  have hp := postV_of hp0
  clear hp0
  rw [hr.out] at hp
  cases r with
  | none =>
   obtain ⟨p, rfl, hB⟩ := hp
   go_wp2_with fail
   refine bodyPost_ret (results_list (rs := [.tmp 4, .tmp 5]) rfl (by simp) (.tmp (.tmp .nil))) rfl ?_
   exact ⟨_, rfl, hB⟩
  | some v =>
   obtain ⟨sv, ns, pre, bld⟩ := v
   obtain ⟨g, rfl, hI, hU, hB⟩ := hp
   unfold Ptr
   go_wp2_with fail
   refine bodyPost_ret (results_list (rs := [.tmp 4, .tmp 5]) rfl (by simp) (.tmp (.tmp .nil))) rfl ?_
   exact ⟨g, rfl, hI, hU, hB⟩
 rw [if_neg k1] at h
 have c1 : (kind == 1) = false := beq_eq_false_iff_ne.mpr k1
 clear k1
 by_cases k2 : kind = 2
 ·rw [if_pos k2] at h
  subst k2
  obtain ⟨r1, h1, hr⟩ := Option.map_eq_some_iff.mp h
  clear h
  replace h1 := Aside0.mk h1
  replace hr := Aside0.mk hr
  go_enter Tryd.func27, Tryd.ntmps27
  go_wp2_with fail
  refine (semantic_calls k s r1 _ h1.out hV.out).mono ?_
  intro e w1 hp0
  have hp := postV_of hp0
  clear hp0
  rw [hr.out] at hp
  cases r with
  | none =>
   obtain ⟨p, rfl, hB⟩ := hp
   go_wp2_with fail
   refine bodyPost_ret (results_list (rs := [.tmp 4, .tmp 5]) rfl (by simp) (.tmp (.tmp .nil))) rfl ?_
   exact ⟨_, rfl, hB⟩
  | some v =>
   obtain ⟨sv, ns, pre, bld⟩ := v
   obtain ⟨g, rfl, hI, hU, hB⟩ := hp
   unfold Ptr
   go_wp2_with fail
   refine bodyPost_ret (results_list (rs := [.tmp 4, .tmp 5]) rfl (by simp) (.tmp (.tmp .nil))) rfl ?_
   exact ⟨g, rfl, hI, hU, hB⟩
 rw [if_neg k2] at h
 have c2 : (kind == 2) = false := beq_eq_false_iff_ne.mpr k2
 clear k2
 by_cases k3 : kind = 3
 ·rw [if_pos k3] at h
  subst k3
  replace h := Aside0.mk h
  go_enter Tryd.func27, Tryd.ntmps27
  go_wp2_with fail
  refine (two_calls k s r _ h.out hV.out).mono ?_
  intro e w1 hp
  cases r with
  | none =>
   obtain ⟨p, rfl, hB⟩ := hp
   go_wp2_with fail
   refine bodyPost_ret (results_list (rs := [.tmp 4, .tmp 5]) rfl (by simp) (.tmp (.tmp .nil))) rfl ?_
   exact ⟨_, rfl, hB⟩
  | some v =>
   obtain ⟨sv, ns, pre, bld⟩ := v
   obtain ⟨g, rfl, hI, hU, hB⟩ := hp
   unfold Ptr
   go_wp2_with fail
   refine bodyPost_ret (results_list (rs := [.tmp 4, .tmp 5]) rfl (by simp) (.tmp (.tmp .nil))) rfl ?_
   exact ⟨g, rfl, hI, hU, hB⟩
 rw [if_neg k3] at h
 have c3 : (kind == 3) = false := beq_eq_false_iff_ne.mpr k3
 clear k3
 replace h := Aside0.mk h
 go_enter Tryd.func27, Tryd.ntmps27
 go_wp2_with fail
 refine (any_calls k s r _ h.out hV.out).mono ?_
 intro e w1 hp
 cases r with
 | none =>
  obtain ⟨p, rfl, hB⟩ := hp
  go_wp2_with fail
  refine bodyPost_ret (results_list (rs := [.tmp 4, .tmp 5]) rfl (by simp) (.tmp (.tmp .nil))) rfl ?_
  exact ⟨_, rfl, hB⟩
 | some v =>
  obtain ⟨sv, ns, pre, bld⟩ := v
  obtain ⟨g, rfl, hI, hU, hB⟩ := hp
  unfold Ptr
  go_wp2_with fail
  refine bodyPost_ret (results_list (rs := [.tmp 4, .tmp 5]) rfl (by simp) (.tmp (.tmp .nil))) rfl ?_
  exact ⟨g, rfl, hI, hU, hB⟩
theorem infoU : (Tryd.prog.info? 36).map (fun i => (i.zero, i.size, i.bytes)) = some (some (Value.int .u64 0), 1, 8) := by kernel_rfl
structure VD where
 ok : Bool
 l : List Int
 pre : ByteArray
 bld : ByteArray
 txt : ByteArray
 a : Int
 b : Int
 c : Int
def vd0 : VD := ⟨false, [], E0, E0, E0, 0, 0, 0⟩
def vdOf (l : List Int) (pre bld : ByteArray) : VD := ⟨true, l, pre, bld, text l pre bld, rd l 0, rd l 1, third l⟩
def IsVD (w : World) (base : Nat) (v : Value) (d : VD) : Prop := ∃ A c, v = .agg #[.bool d.ok, .slice A d.l.length c, .string d.pre, .string d.bld, .string d.txt, .int .u64 d.a, .int .u64 d.b, .int .u64 d.c] ∧ (Kd.int .u64).R 36 w base (fun k => base < k) (.slice A d.l.length c) d.l
theorem IsVD.below {w w' : World} {base : Nat} {v : Value} {d : VD} (h : IsVD w base v d) (hb : Below w.heap.size w w') : IsVD w' base v d := by
 obtain ⟨A, c, h1, h2⟩ := h
 exact ⟨A, c, h1, Kd.R_kept h2 (S := fun _ => False) ⟨hb.size, fun i hi _ => hb.block i hi⟩ (fun _ _ h => h)⟩
theorem IsVD.reads {w : World} {base : Nat} {v : Value} {d : VD} (h : IsVD w base v d) : ∃ A c, v = .agg #[.bool d.ok, .slice A d.l.length c, .string d.pre, .string d.bld, .string d.txt, .int .u64 d.a, .int .u64 d.b, .int .u64 d.c] ∧ Kd.C (Kd.int .u64) w A d.l.length d.l ∧ d.l.length ≤ c := by
 obtain ⟨A, c, h1, h2⟩ := h
 obtain ⟨U2, cu2, e2, hcu, hCu⟩ := Kd.R_reads h2
 injection e2 with e2 _ e3
 subst e2
 subst e3
 exact ⟨A, c, h1, hCu, hcu⟩
set_option maxHeartbeats 4000000 in
set_option maxRecDepth 100000 in
theorem ver_ok (g : Nat) (l : List Int) (sv : Bool) (pre bld : ByteArray) (w : World) (hI : IsVer w g l sv pre bld) (hu : U64 l) (h2 : 2 ≤ l.length) (hl : l.length ≤ 4294967296) (hp : pre.size ≤ 4294967296) (hb : bld.size ≤ 4294967296) (hV : VT.V w) : Calls Tryd.prog 37 #[Ptr g, .nilIface] w fun e w' => ∃ v, e = .returned v ∧ IsVD w' w.heap.size v (vdOf l pre bld) ∧ Below w.heap.size w w' := by
 replace hI := Aside0.mk hI
 replace hu := Aside0.mk hu
 replace h2 := Aside0.mk h2
 replace hl := Aside0.mk hl
 replace hp := Aside0.mk hp
 replace hb := Aside0.mk hb
 replace hV := Aside0.mk hV
 unfold Ptr
 go_enter Tryd.func37, Tryd.ntmps37
 go_wp2_with ((with_reducible refine gate_dst (N := 12) rfl ?_); (try (refine gate_guard (by rfl) ?_; dsimp only)); refine Kd.R_lit (Kd.int .u64) (w0 := w) w.heap.size 36 rfl (N := 12) rfl (xs := ([] : List Int)) (inner := []) (ok := fun k => w.heap.size < k) (okp := fun k => w.heap.size < k) (by first | (go_simp; done) | (go_simp; rfl)) (Reps.none _ _) (fun _ hk => hk) (by show w.heap.size < (w.alloc _).heap.size; rw [World.size_alloc]; omega) (below_alloc (Below.refl _ _) _) (by rw [World.size_alloc]; omega) (by simp) ?_; intro u1 w3 ho hb_ hg_ hn_; have hR1 := Aside0.mk ho; have hB1 := Aside0.mk hb_; have hG1 := Aside0.mk hg_; have hN1 := Aside0.mk hn_; clear ho hb_ hg_ hn_)
 have hZ3 := Aside0.mk (show w3.heap[w.heap.size]? = some (.cells #[.bool false, .slice none 0 0, .string ⟨#[]⟩, .string ⟨#[]⟩, .string ⟨#[]⟩, .int .u64 0, .int .u64 0, .int .u64 0] 46 (0, 0)) from blk_grown (heap_alloc_new w _) hG1.out (by simp))
 have hI3 := Aside0.mk (hI.out.below hB1.out)
 have hS3 := Aside0.mk (show w.heap.size < w3.heap.size from blk_lt hZ3.out)
 refine (components_calls g l sv pre bld _ hI3.out).mono ?_
 rintro e w4 ⟨A, c, rfl, rfl, hC, hc⟩
 have hC := Aside0.mk hC
 replace hc := Aside0.mk hc
 go_wp2_with ((with_reducible refine gate_dst (N := 15) rfl ?_); (try (refine gate_guard (by rfl) ?_; dsimp only)); refine Kd.R_append_rows (Kd.int .u64) (w0 := w) w.heap.size rfl (.tmp 12) (.tmp 14) 23 36 (.int .u64 0) 8 rfl Tryd.underlying23 infoU rfl (by decide) (by omega) u1 ([] : List Int) l _ _ _ (fun k => w.heap.size < k) (fun _ => False) rfl rfl hR1.out hC.out (fun _ _ h => h) (fun _ h => h.elim) (fun k hk => by have := hS3.out; omega) hB1.out hB1.out.size (by have := hl.out; simp only [List.length_nil]; omega) ?_; intro u2 w5 ho hb_ hg_ hn_; have hR2 := Aside0.mk ho; have hB5 := Aside0.mk hb_; have hG5 := Aside0.mk hg_; clear ho hb_ hg_ hn_)
 have hZ5 := Aside0.mk (blk_grown hZ3.out hG5.out (by
  obtain ⟨b, hb1, hb2⟩ := hN1.out
  rw [hb1]
  rw [World.size_alloc] at hb2
  intro e
  injection e with e
  omega))
 have hI5 := Aside0.mk (hI.out.below hB5.out)
 replace hR2 := Aside0.mk (show (Kd.int .u64).R 36 w5 w.heap.size (fun k => w.heap.size < k) u2 l from by have h := hR2.out; rwa [List.nil_append] at h)
 obtain ⟨U, cu, e2⟩ := Kd.R_slice hR2.out
 subst e2
 clear hC hG1 hG5 hN1 hI3 hZ3 hR1
 go_wp2_with fail
 refine (preRelease_calls g l sv pre bld _ hI5.out).mono ?_
 rintro e w9 ⟨rfl, rfl⟩
 go_wp2_with fail
 refine (build_calls g l sv pre bld _ hI5.out).mono ?_
 rintro e w9 ⟨rfl, rfl⟩
 go_wp2_with fail
 refine (string_calls g l sv pre bld _ hI5.out hu.out hl.out hp.out hb.out (hV.out.below hB5.out)).mono ?_
 rintro e w6 ⟨rfl, hB6⟩
 have hI6 := Aside0.mk (hI5.out.below hB6)
 have hZ6 := Aside0.mk ((hB6.block _ (blk_lt hZ5.out)).trans hZ5.out)
 replace hR2 := Aside0.mk (Kd.R_kept hR2.out (S := fun _ => False) ⟨hB6.size, fun i hi _ => hB6.block i hi⟩ (fun _ _ h => h))
 have hB7 := Aside0.mk (below_then hB5.out hB5.out.size hB6)
 clear hB6 hZ5 hI5
 go_wp2_with fail
 refine (major_calls g l sv pre bld _ hI6.out (by have := h2.out; omega)).mono ?_
 rintro e w9 ⟨rfl, rfl⟩
 go_wp2_with fail
 refine (minor_calls g l sv pre bld _ hI6.out (by have := h2.out; omega)).mono ?_
 rintro e w9 ⟨rfl, rfl⟩
 go_wp2_with fail
 refine (patch_calls g l sv pre bld _ hI6.out).mono ?_
 rintro e w9 ⟨rfl, rfl⟩
 have zc0 : w9.cell? ⟨w.heap.size, 0, none⟩ = some (.bool false) := (blk_cell hZ6.out 0).trans rfl
 have zf0 : w9.frozen? ⟨w.heap.size, 0, none⟩ = false := blk_frozen hZ6.out 0
 have zc1 : w9.cell? ⟨w.heap.size, 1, none⟩ = some (.slice none 0 0) := (blk_cell hZ6.out 1).trans rfl
 have zf1 : w9.frozen? ⟨w.heap.size, 1, none⟩ = false := blk_frozen hZ6.out 1
 have zc2 : w9.cell? ⟨w.heap.size, 2, none⟩ = some (.string ⟨#[]⟩) := (blk_cell hZ6.out 2).trans rfl
 have zf2 : w9.frozen? ⟨w.heap.size, 2, none⟩ = false := blk_frozen hZ6.out 2
 have zc3 : w9.cell? ⟨w.heap.size, 3, none⟩ = some (.string ⟨#[]⟩) := (blk_cell hZ6.out 3).trans rfl
 have zf3 : w9.frozen? ⟨w.heap.size, 3, none⟩ = false := blk_frozen hZ6.out 3
 have zc4 : w9.cell? ⟨w.heap.size, 4, none⟩ = some (.string ⟨#[]⟩) := (blk_cell hZ6.out 4).trans rfl
 have zf4 : w9.frozen? ⟨w.heap.size, 4, none⟩ = false := blk_frozen hZ6.out 4
 have zc5 : w9.cell? ⟨w.heap.size, 5, none⟩ = some (.int .u64 0) := (blk_cell hZ6.out 5).trans rfl
 have zf5 : w9.frozen? ⟨w.heap.size, 5, none⟩ = false := blk_frozen hZ6.out 5
 have zc6 : w9.cell? ⟨w.heap.size, 6, none⟩ = some (.int .u64 0) := (blk_cell hZ6.out 6).trans rfl
 have zf6 : w9.frozen? ⟨w.heap.size, 6, none⟩ = false := blk_frozen hZ6.out 6
 have zc7 : w9.cell? ⟨w.heap.size, 7, none⟩ = some (.int .u64 0) := (blk_cell hZ6.out 7).trans rfl
 have zf7 : w9.frozen? ⟨w.heap.size, 7, none⟩ = false := blk_frozen hZ6.out 7
 go_wp2_with fail
 refine bodyPost_ret (results_cell_row rfl _ _ w.heap.size 46 _ (0, 0) _ rfl (blk_set (blk_set (blk_set (blk_set (blk_set (blk_set (blk_set (blk_set hZ6.out 0 (.bool true)) 1 (.slice U l.length cu)) 2 (.string pre)) 3 (.string bld)) 4 (.string (text l pre bld))) 5 (.int .u64 (rd l 0))) 6 (.int .u64 (rd l 1))) 7 (.int .u64 (third l))) Tryd.underlying46 rfl (by kernel_rfl)) rfl ?_
 exact ⟨_, rfl, ⟨U, cu, rfl, (Kd.R_far (Kd.R_far (Kd.R_far (Kd.R_far (Kd.R_far (Kd.R_far (Kd.R_far (Kd.R_far hR2.out (p := ⟨w.heap.size, 0, none⟩) (fun k h => by have h : w.heap.size < k := h; show k ≠ w.heap.size; omega) (.bool true)) (p := ⟨w.heap.size, 1, none⟩) (fun k h => by have h : w.heap.size < k := h; show k ≠ w.heap.size; omega) (.slice U l.length cu)) (p := ⟨w.heap.size, 2, none⟩) (fun k h => by have h : w.heap.size < k := h; show k ≠ w.heap.size; omega) (.string pre)) (p := ⟨w.heap.size, 3, none⟩) (fun k h => by have h : w.heap.size < k := h; show k ≠ w.heap.size; omega) (.string bld)) (p := ⟨w.heap.size, 4, none⟩) (fun k h => by have h : w.heap.size < k := h; show k ≠ w.heap.size; omega) (.string (text l pre bld))) (p := ⟨w.heap.size, 5, none⟩) (fun k h => by have h : w.heap.size < k := h; show k ≠ w.heap.size; omega) (.int .u64 (rd l 0))) (p := ⟨w.heap.size, 6, none⟩) (fun k h => by have h : w.heap.size < k := h; show k ≠ w.heap.size; omega) (.int .u64 (rd l 1))) (p := ⟨w.heap.size, 7, none⟩) (fun k h => by have h : w.heap.size < k := h; show k ≠ w.heap.size; omega) (.int .u64 (third l)))⟩, (below_set (below_set (below_set (below_set (below_set (below_set (below_set (below_set hB7.out (Nat.le_refl _)) (Nat.le_refl _)) (Nat.le_refl _)) (Nat.le_refl _)) (Nat.le_refl _)) (Nat.le_refl _)) (Nat.le_refl _)) (Nat.le_refl _))⟩
def tell (r : Option (Bool × PV)) : VD := match r with
 | none => vd0
 | some (_, l, pre, bld) => vdOf l pre bld
def okP (r : Option (Bool × PV)) : Prop := okV (r.map (·.2))
instance (r : Option (Bool × PV)) : Decidable (okP r) := by unfold okP; infer_instance
theorem R_base {α : Type} {d : Kd α} {e b b' : Nat} {w : World} {v : Value} {xs : List α} (hb : b < b') (h : d.R e w b' (fun k => b' < k) v xs) : d.R e w b (fun k => b < k) v xs := Kd.R_mono (Kd.R_lower h (Nat.le_of_lt hb)) (fun k hk => Nat.lt_trans hb hk)
end Go.Proofs.YtmfgkidppchobaaDoor.Ver6


set_option linter.unusedSimpArgs false
set_option linter.unusedVariables false
namespace Go.Proofs.YtmfgkidppchobaaDoor.VerM
open Go.RowKit Go.Proofs.YtmfgkidppchobaaDoorW.PrintWords Go.Proofs.YtmfgkidppchobaaDoorW.PrintLast Go.Proofs.YtmfgkidppchobaaDoor.XFnVersionWays Go.Proofs.YtmfgkidppchobaaDoor.Ver1 Go.Proofs.YtmfgkidppchobaaDoor.Ver3
abbrev MV (w : World) (g : Nat) (M m : Int) : Prop := IsVer w g [M, m] false ⟨#[]⟩ ⟨#[]⟩
def FV (w : World) (base g : Nat) (M m : Int) : Prop := base ≤ g ∧ ∃ a c, w.heap[g]? = some (.cells #[.slice (some ⟨a, 0, none⟩) 2 c, .bool false, .string ⟨#[]⟩, .string ⟨#[]⟩] 87 (0, 0)) ∧ 2 ≤ c ∧ base ≤ a ∧ w.heap[a]? = some (.cells #[.int .u64 M, .int .u64 m] 36 (0, 0))
theorem FV.mv {w : World} {base g : Nat} {M m : Int} (h : FV w base g M m) : MV w g M m := by
 obtain ⟨_, a, c, h1, h2, _, h3⟩ := h
 exact ⟨some ⟨a, 0, none⟩, c, h1, C_row (g := a) [M, m] (by simp) (T := 36) h3, h2⟩
theorem FV.below {w w' : World} {base g : Nat} {M m : Int} (h : FV w base g M m) (hb : Below w.heap.size w w') : FV w' base g M m := by
 obtain ⟨h0, a, c, h1, h2, h4, h3⟩ := h
 exact ⟨h0, a, c, (hb.block _ (blk_lt h1)).trans h1, h2, h4, (hb.block _ (blk_lt h3)).trans h3⟩
theorem FV.lower {w : World} {base base' g : Nat} {M m : Int} (h : FV w base g M m) (hb : base' ≤ base) : FV w base' g M m := by
 obtain ⟨h0, a, c, h1, h2, h4, h3⟩ := h
 exact ⟨Nat.le_trans hb h0, a, c, h1, h2, Nat.le_trans hb h4, h3⟩
theorem FV.grown {w w' : World} {base g : Nat} {M m : Int} {row : Option Nat} (h : FV w base g M m) (hg : w.grownBy w' row) (hne : ∀ j, row = some j → j < base) : FV w' base g M m := by
 obtain ⟨h0, a, c, h1, h2, h4, h3⟩ := h
 exact ⟨h0, a, c, (hg.block _ (blk_lt h1) (fun e => by have := hne g e.symm; omega)).trans h1, h2, h4, (hg.block _ (blk_lt h3) (fun e => by have := hne a e.symm; omega)).trans h3⟩
set_option maxHeartbeats 600000 in
set_option maxRecDepth 100000 in
theorem majorMinorF (a b : Int) (w : World) : Calls Tryd.prog 48 #[.int .u64 a, .int .u64 b] w fun e w' => ∃ g, e = .returned (Ptr g) ∧ FV w' w.heap.size g a b ∧ Below w.heap.size w w' := by
 unfold Ptr
 go_enter Tryd.func48, Tryd.ntmps48
 go_wp2
 go_ret
 refine ⟨w.heap.size + 1, rfl, ⟨by omega, w.heap.size, 2, ?_, Nat.le_refl _, Nat.le_refl _, ?_⟩, below_alloc (below_alloc (Below.refl _ _) _) _⟩
 ·have h := heap_alloc_new (w.alloc (Obj.cells #[Value.int IntKind.u64 a, Value.int IntKind.u64 b] 36)) (Obj.cells #[Value.slice (some ⟨w.heap.size, 0, none⟩) 2 2, Value.bool false, Value.string ⟨#[]⟩, Value.string ⟨#[]⟩] 87)
  rwa [World.size_alloc] at h
 ·rw [Below.heap_alloc _ _ _ (by rw [World.size_alloc]; omega)]
  exact heap_alloc_new w _
set_option maxHeartbeats 1000000 in
set_option maxRecDepth 100000 in
theorem offset_up (g : Nat) (M m n : Int) (w : World) (hI : MV w g M m) (h0 : 0 ≤ m) (h1 : 0 ≤ n) (h2 : m + n ≤ 9223372036854775807) :
  Calls Tryd.prog 45 #[Ptr g, .int .i64 n] w fun e w' => ∃ g', e = .returned (Ptr g') ∧ FV w' w.heap.size g' M (m + n) ∧ Below w.heap.size w w' := by
 have hmi := Aside0.mk (minor_calls g _ _ _ _ w hI (by simp))
 have hma := Aside0.mk (major_calls g _ _ _ _ w hI (by simp))
 have e1 : IntKind.u64.wrap n = n := by rw [IntKind.wrap_u64]; omega
 have e2 : IntKind.u64.wrap (m + n) = m + n := by rw [IntKind.wrap_u64]; omega
 clear hI
 go_enter Tryd.func45, Tryd.ntmps45
 go_wp2_with fail
 refine hmi.out.mono ?_
 rintro e w1 ⟨rfl, rfl⟩
 rw [show rd [M, m] 1 = m from rfl]
 go_wp2_with fail
 refine hma.out.mono ?_
 rintro e w2 ⟨rfl, rfl⟩
 rw [show rd [M, m] 0 = M from rfl]
 go_wp2_with fail
 refine (majorMinorF M (m + n) _).mono ?_
 rintro e w3 ⟨g', rfl, hI, hb⟩
 replace hI := Aside0.mk hI
 replace hb := Aside0.mk hb
 go_wp2_with fail
 go_ret
 exact ⟨g', rfl, hI.out, hb.out⟩
set_option maxHeartbeats 1000000 in
set_option maxRecDepth 100000 in
theorem offset_dn (g : Nat) (M m n : Int) (w : World) (hI : MV w g M (m + n)) (h0 : 0 ≤ m) (h1 : 0 < n) (h2 : m + n ≤ 9223372036854775807) :
  Calls Tryd.prog 45 #[Ptr g, .int .i64 (-n)] w fun e w' => ∃ g', e = .returned (Ptr g') ∧ FV w' w.heap.size g' M m ∧ Below w.heap.size w w' := by
 have hmi := Aside0.mk (minor_calls g _ _ _ _ w hI (by simp))
 have hma := Aside0.mk (major_calls g _ _ _ _ w hI (by simp))
 have e1 : IntKind.u64.wrap n = n := by rw [IntKind.wrap_u64]; omega
 have e2 : IntKind.u64.wrap m = m := by rw [IntKind.wrap_u64]; omega
 clear hI
 have c0 : ¬ 0 ≤ -n := by omega
 have c1 : ¬ n ≤ 0 := by omega
 by_cases hm : 0 < m
 ·have c2 : n < m + n := by omega
  go_enter Tryd.func45, Tryd.ntmps45
  go_wp2_with fail
  refine hmi.out.mono ?_
  rintro e w1 ⟨rfl, rfl⟩
  rw [show rd [M, m + n] 1 = m + n from rfl]
  go_wp2_with fail
  refine hmi.out.mono ?_
  rintro e w1 ⟨rfl, rfl⟩
  rw [show rd [M, m + n] 1 = m + n from rfl]
  go_wp2_with fail
  refine hma.out.mono ?_
  rintro e w2 ⟨rfl, rfl⟩
  rw [show rd [M, m + n] 0 = M from rfl]
  go_wp2_with fail
  refine (majorMinorF M m _).mono ?_
  rintro e w3 ⟨g', rfl, hI, hb⟩
  replace hI := Aside0.mk hI
  replace hb := Aside0.mk hb
  go_wp2_with fail
  go_ret
  exact ⟨g', rfl, hI.out, hb.out⟩
 ·obtain rfl : m = 0 := by omega
  have c2 : ¬ n < 0 + n := by omega
  go_enter Tryd.func45, Tryd.ntmps45
  go_wp2_with fail
  refine hmi.out.mono ?_
  rintro e w1 ⟨rfl, rfl⟩
  rw [show rd [M, 0 + n] 1 = 0 + n from rfl]
  go_wp2_with fail
  refine hma.out.mono ?_
  rintro e w2 ⟨rfl, rfl⟩
  rw [show rd [M, 0 + n] 0 = M from rfl]
  go_wp2_with fail
  refine (majorMinorF M 0 _).mono ?_
  rintro e w3 ⟨g', rfl, hI, hb⟩
  replace hI := Aside0.mk hI
  replace hb := Aside0.mk hb
  go_wp2_with fail
  go_ret
  exact ⟨g', rfl, hI.out, hb.out⟩
theorem offset_down (g : Nat) (M m n : Int) (w : World) (hI : MV w g M (m + n)) (h0 : 0 ≤ m) (h1 : 0 ≤ n) (h2 : m + n ≤ 9223372036854775807) :
  Calls Tryd.prog 45 #[Ptr g, .int .i64 (-n)] w fun e w' => ∃ g', e = .returned (Ptr g') ∧ FV w' w.heap.size g' M m ∧ Below w.heap.size w w' := by
 by_cases hn : 0 < n
 ·exact offset_dn g M m n w hI h0 hn h2
 ·obtain rfl : n = 0 := by omega
  have := offset_up g M m 0 w (by rw [Int.add_zero] at hI; exact hI) h0 (by omega) (by omega)
  rw [Int.add_zero] at this
  exact this
set_option maxHeartbeats 1000000 in
set_option maxRecDepth 100000 in
theorem add_minor (g : Nat) (M m n : Int) (w : World) (hI : MV w g M m) (h0 : 0 ≤ m) (h1 : 0 ≤ n) (h2 : m + n ≤ 9223372036854775807) :
  Calls Tryd.prog 43 #[Ptr g, .int .u64 n] w fun e w' => ∃ g', e = .returned (Ptr g') ∧ FV w' w.heap.size g' M (m + n) ∧ Below w.heap.size w w' := by
 have hc := Aside0.mk (offset_up g M m n w hI h0 h1 h2)
 have e1 : IntKind.i64.wrap n = n := by rw [IntKind.wrap_i64]; omega
 clear hI
 go_enter Tryd.func43, Tryd.ntmps43
 go_wp2_with fail
 refine hc.out.mono ?_
 rintro e w3 ⟨g', rfl, hI, hb⟩
 replace hI := Aside0.mk hI
 replace hb := Aside0.mk hb
 go_wp2_with fail
 go_ret
 exact ⟨g', rfl, hI.out, hb.out⟩
set_option maxHeartbeats 1000000 in
set_option maxRecDepth 100000 in
theorem sub_minor (g : Nat) (M m n : Int) (w : World) (hI : MV w g M (m + n)) (h0 : 0 ≤ m) (h1 : 0 ≤ n) (h2 : m + n ≤ 9223372036854775807) :
  Calls Tryd.prog 44 #[Ptr g, .int .u64 n] w fun e w' => ∃ g', e = .returned (Ptr g') ∧ FV w' w.heap.size g' M m ∧ Below w.heap.size w w' := by
 have hc := Aside0.mk (offset_down g M m n w hI h0 h1 h2)
 have e1 : IntKind.i64.wrap n = n := by rw [IntKind.wrap_i64]; omega
 have e2 : IntKind.i64.wrap (-n) = -n := by rw [IntKind.wrap_i64]; omega
 clear hI
 go_enter Tryd.func44, Tryd.ntmps44
 go_wp2_with fail
 refine hc.out.mono ?_
 rintro e w3 ⟨g', rfl, hI, hb⟩
 replace hI := Aside0.mk hI
 replace hb := Aside0.mk hb
 go_wp2_with fail
 go_ret
 exact ⟨g', rfl, hI.out, hb.out⟩
end Go.Proofs.YtmfgkidppchobaaDoor.VerM

