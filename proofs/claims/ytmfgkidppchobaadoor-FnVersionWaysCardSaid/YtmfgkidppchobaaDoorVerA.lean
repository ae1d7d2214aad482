/- What the rows' listed variables give a walk: strconv's two errors, and the table of the powers of ten. -/
import Derived.Test.YtmfgkidppchobaaDoorVars
import Derived.WalkSmall
import Derived.Lib.LaidTab
import Derived.Lib.ItoaMem
import Derived.Test.YtmfgkidppchobaaDoorProg
import Derived.Test.YtmfgkidppchobaaDoorXFnVersionWaysx4
import Derived.Test.YtmfgkidppchobaaDoorEv
import Derived.Test.YtmfgkidppchobaaDoorShelf
import Derived.Lib.AppendIntMem
import Derived.Lib.BufferOld
import Derived.LoopTactic
namespace Go.Proofs.YtmfgkidppchobaaDoor.VT
open Go.RowKit
def Tab (w : World) : Prop := Lib.TabIs Tryd.prog w "internal/strconv.uint64pow10" .u64 Lib.pow10Tab
theorem gP : Tryd.prog.globalNamed "internal/strconv.uint64pow10" = some 4 := by kernel_rfl
def V (w : World) : Prop := Vars.Vars w ∧ Tab w ∧ 4 < w.heap.size
theorem V.below {w w' : World} (h : V w) (b : Below w.heap.size w w') : V w' := by
  refine ⟨h.1.below b, ?_, Nat.lt_of_lt_of_le h.2.2 b.size⟩
  exact var?_below b gP h.2.2 h.2.1
theorem tab_lt {w : World} (h : Tab w) : 4 < w.heap.size := by
  have := Lib.TabIs.cell h gP 0 (by decide)
  exact Lib.lt_of_cell this
theorem vars_of {w : World} (h : laidMetH Tryd.prog Vars.laid w) : V w := by
  have h1 := Vars.vars_of h
  rw [MakeChecks.laidMetH_plain _ _ _ (by kernel_rfl)] at h
  have h3 : laidMet Tryd.prog (Vars.laid.tail.tail) w := h.tail.tail
  have h4 : Tab w := Lib.tabIs_of_head (rest := Vars.laid.tail.tail.tail) gP (t := 129) (e := 94) (n := 20) (by kernel_rfl) Tryd.underlying129 Tryd.underlying94 (by kernel_rfl) (by kernel_rfl) h3
  exact ⟨h1, h4, tab_lt h4⟩
end Go.Proofs.YtmfgkidppchobaaDoor.VT

set_option linter.unusedSimpArgs false
set_option linter.unusedVariables false
namespace Go.Proofs.YtmfgkidppchobaaDoor.Ver1
open Go.RowKit Go.Proofs.YtmfgkidppchobaaDoorW.PrintWords Go.Proofs.YtmfgkidppchobaaDoorW.PrintLast Go.Proofs.YtmfgkidppchobaaDoor.XFnVersionWays

/-- A version that lies in its own block: its numbers, whether it is semantic, its two texts. -/
def IsVer (w : World) (g : Nat) (l : List Int) (sv : Bool) (pre bld : ByteArray) : Prop :=
  ∃ A c, w.heap[g]? = some (.cells #[.slice A l.length c, .bool sv, .string pre, .string bld] 87 (0, 0)) ∧ Kd.C (Kd.int .u64) w A l.length l ∧ l.length ≤ c
theorem IsVer.lt {w : World} {g : Nat} {l : List Int} {sv : Bool} {pre bld : ByteArray} (h : IsVer w g l sv pre bld) : g < w.heap.size := by
  obtain ⟨A, c, hb, _, _⟩ := h
  exact blk_lt hb
theorem IsVer.below {w w' : World} {g : Nat} {l : List Int} {sv : Bool} {pre bld : ByteArray} (h : IsVer w g l sv pre bld) (b : Below w.heap.size w w') : IsVer w' g l sv pre bld := by
  have hl := h.lt
  obtain ⟨A, c, hb, hr, hc⟩ := h
  exact ⟨A, c, (b.block g hl).trans hb, Kd.C_below hr b, hc⟩
theorem cV0 {W : World} {g n c : Nat} {A : Option Addr} {sv : Bool} {pre bld : ByteArray} (h : W.heap[g]? = some (.cells #[.slice A n c, .bool sv, .string pre, .string bld] 87 (0, 0))) : W.cell? ⟨g, 0, none⟩ = some (.slice A n c) := (blk_cell h 0).trans rfl
theorem cV2 {W : World} {g n c : Nat} {A : Option Addr} {sv : Bool} {pre bld : ByteArray} (h : W.heap[g]? = some (.cells #[.slice A n c, .bool sv, .string pre, .string bld] 87 (0, 0))) : W.cell? ⟨g, 2, none⟩ = some (.string pre) := (blk_cell h 2).trans rfl
theorem cV1 {W : World} {g n c : Nat} {A : Option Addr} {sv : Bool} {pre bld : ByteArray} (h : W.heap[g]? = some (.cells #[.slice A n c, .bool sv, .string pre, .string bld] 87 (0, 0))) : W.cell? ⟨g, 1, none⟩ = some (.bool sv) := (blk_cell h 1).trans rfl
theorem cV3 {W : World} {g n c : Nat} {A : Option Addr} {sv : Bool} {pre bld : ByteArray} (h : W.heap[g]? = some (.cells #[.slice A n c, .bool sv, .string pre, .string bld] 87 (0, 0))) : W.cell? ⟨g, 3, none⟩ = some (.string bld) := (blk_cell h 3).trans rfl
/-- A row of its own, read as numbers. -/
theorem C_row {w : World} {g : Nat} (l : List Int) {T : TypeId} (hl : l.length ≤ 9223372036854775807) (h : w.heap[g]? = some (.cells (l.map (Value.int .u64)).toArray T (0, 0))) : (Kd.int .u64).C w (some ⟨g, 0, none⟩) l.length l := by
  refine ⟨rfl, by omega, fun _ => ⟨_, rfl, fun j p hj => ?_⟩⟩
  refine ⟨[.int .u64 p], rfl, rfl, fun i u hi => ?_⟩
  obtain rfl : i = 0 := by have := (List.getElem?_eq_some_iff.1 hi).1; simp at this; omega
  obtain rfl : Value.int .u64 p = u := by simpa using hi
  have e : (⟨g, 0, none⟩ : Addr).add (j * (Kd.int .u64).sz + 0) = ⟨g, j, none⟩ := by
    show (⟨g, 0, none⟩ : Addr).add (j * 1 + 0) = ⟨g, j, none⟩
    rw [Nat.mul_one, Nat.add_zero]
    unfold Go.Addr.add
    by_cases hj0 : j = 0
    · subst hj0; rfl
    · rw [if_neg hj0, Nat.zero_add]
  rw [e]
  refine (blk_cell h _).trans ?_
  simp [hj]
def Ptr (g : Nat) : Value := .pointer (some ⟨g, 0, none⟩)

set_option maxHeartbeats 600000 in
set_option maxRecDepth 100000 in
theorem errNew (s : ByteArray) (w : World) : Calls Tryd.prog 71 #[.string s] w fun e w' => ∃ p, e = .returned (.iface 107 p) ∧ Below w.heap.size w w' := by
  go_enter Tryd.func71, Tryd.ntmps71
  go_wp2
  go_ret
  exact ⟨_, rfl, below_alloc (Below.refl _ _) _⟩
set_option maxHeartbeats 600000 in
set_option maxRecDepth 100000 in
theorem preRelease_calls (g : Nat) (l : List Int) (sv : Bool) (pre bld : ByteArray) (w : World) (hI : IsVer w g l sv pre bld) : Calls Tryd.prog 63 #[Ptr g] w fun e w' => e = .returned (.string pre) ∧ w' = w := by
  unfold Ptr
  have hIx := Aside0.mk hI
  obtain ⟨A, c, hG, hr, hlc⟩ := hI
  have hc0 := cV0 hG
  have hc1 := cV1 hG
  have hc2 := cV2 hG
  have hc3 := cV3 hG
  clear hG
  clear hr hlc
  go_enter Tryd.func63, Tryd.ntmps63
  go_wp2
  go_ret
  exact ⟨rfl, rfl⟩
set_option maxHeartbeats 600000 in
set_option maxRecDepth 100000 in
theorem build_calls (g : Nat) (l : List Int) (sv : Bool) (pre bld : ByteArray) (w : World) (hI : IsVer w g l sv pre bld) : Calls Tryd.prog 64 #[Ptr g] w fun e w' => e = .returned (.string bld) ∧ w' = w := by
  unfold Ptr
  have hIx := Aside0.mk hI
  obtain ⟨A, c, hG, hr, hlc⟩ := hI
  have hc0 := cV0 hG
  have hc1 := cV1 hG
  have hc2 := cV2 hG
  have hc3 := cV3 hG
  clear hG
  clear hr hlc
  go_enter Tryd.func64, Tryd.ntmps64
  go_wp2
  go_ret
  exact ⟨rfl, rfl⟩
set_option maxHeartbeats 600000 in
set_option maxRecDepth 100000 in
theorem components_calls (g : Nat) (l : List Int) (sv : Bool) (pre bld : ByteArray) (w : World) (hI : IsVer w g l sv pre bld) : Calls Tryd.prog 62 #[Ptr g] w fun e w' => ∃ A c, e = .returned (.slice A l.length c) ∧ w' = w ∧ Kd.C (Kd.int .u64) w A l.length l ∧ l.length ≤ c := by
  unfold Ptr
  have hIx := Aside0.mk hI
  obtain ⟨A, c, hG, hr, hlc⟩ := hI
  have hc0 := cV0 hG
  have hc1 := cV1 hG
  have hc2 := cV2 hG
  have hc3 := cV3 hG
  clear hG
  have hr := Aside0.mk hr
  have hlc := Aside0.mk hlc
  go_enter Tryd.func62, Tryd.ntmps62
  go_wp2
  go_ret
  exact ⟨A, c, rfl, rfl, hr.out, hlc.out⟩
set_option maxHeartbeats 600000 in
set_option maxRecDepth 100000 in
theorem major_calls (g : Nat) (l : List Int) (sv : Bool) (pre bld : ByteArray) (w : World) (hI : IsVer w g l sv pre bld) (hn : 0 < l.length) : Calls Tryd.prog 66 #[Ptr g] w fun e w' => e = .returned (.int .u64 (rd l 0)) ∧ w' = w := by
  unfold Ptr
  have hIx := Aside0.mk hI
  obtain ⟨A, c, hG, hr, hlc⟩ := hI
  have hc0 := cV0 hG
  have hc1 := cV1 hG
  have hc2 := cV2 hG
  have hc3 := cV3 hG
  clear hG
  have p1 : 0 ≤ (0 : Int) := by omega
  have q1 : (0 : Int) < (l.length : Int) := by omega
  obtain ⟨ad, e1, hx⟩ := Kd.at_int hr 0 p1 q1
  cases e1
  try simp only [show (0 : Int).toNat = 0 from rfl, Nat.reduceMul, Nat.reduceEqDiff, Go.Addr.add, ↓reduceIte] at hx
  try rw [Addr.add_zero'] at hx
  have qi : (0 < l.length) = True := eq_true (by omega)
  replace p1 := eq_true p1
  replace q1 := eq_true q1
  clear hr hlc hn
  go_enter Tryd.func66, Tryd.ntmps66
  go_wp2
  go_ret
  exact ⟨rfl, rfl⟩
set_option maxHeartbeats 600000 in
set_option maxRecDepth 100000 in
theorem minor_calls (g : Nat) (l : List Int) (sv : Bool) (pre bld : ByteArray) (w : World) (hI : IsVer w g l sv pre bld) (hn : 1 < l.length) : Calls Tryd.prog 67 #[Ptr g] w fun e w' => e = .returned (.int .u64 (rd l 1)) ∧ w' = w := by
  unfold Ptr
  have hIx := Aside0.mk hI
  obtain ⟨A, c, hG, hr, hlc⟩ := hI
  have hc0 := cV0 hG
  have hc1 := cV1 hG
  have hc2 := cV2 hG
  have hc3 := cV3 hG
  clear hG
  have p1 : 0 ≤ (1 : Int) := by omega
  have q1 : (1 : Int) < (l.length : Int) := by omega
  obtain ⟨ad, e1, hx⟩ := Kd.at_int hr 1 p1 q1
  cases e1
  try simp only [show (1 : Int).toNat = 1 from rfl, Nat.reduceMul, Nat.reduceEqDiff, Go.Addr.add, ↓reduceIte] at hx
  try rw [Addr.add_zero'] at hx
  have qi : (1 < l.length) = True := eq_true (by omega)
  replace p1 := eq_true p1
  replace q1 := eq_true q1
  clear hr hlc hn
  go_enter Tryd.func67, Tryd.ntmps67
  go_wp2
  go_ret
  exact ⟨rfl, rfl⟩
/-- The third number, or 0. -/
def third (l : List Int) : Int := if (l.length : Int) < 3 then 0 else rd l 2
set_option maxHeartbeats 600000 in
set_option maxRecDepth 100000 in
theorem patch_calls (g : Nat) (l : List Int) (sv : Bool) (pre bld : ByteArray) (w : World) (hI : IsVer w g l sv pre bld) : Calls Tryd.prog 68 #[Ptr g] w fun e w' => e = .returned (.int .u64 (third l)) ∧ w' = w := by
  unfold Ptr third
  have hIx := Aside0.mk hI
  obtain ⟨A, c, hG, hr, hlc⟩ := hI
  have hc0 := cV0 hG
  have hc1 := cV1 hG
  have hc2 := cV2 hG
  have hc3 := cV3 hG
  clear hG
  by_cases c2 : (l.length : Int) < 3
  · rw [if_pos c2]
    have c2b0 := decide_eq_true c2
    have c2b1 : decide (l.length < 3) = true := decide_eq_true (by omega)
    clear c2 hr hlc
    go_enter Tryd.func68, Tryd.ntmps68
    go_wp2
    go_ret
    exact ⟨rfl, rfl⟩
  · rw [if_neg c2]
    have c2b0 := decide_eq_false c2
    have c2b1 : decide (l.length < 3) = false := decide_eq_false (by omega)
    have p1 : 0 ≤ (2 : Int) := by omega
    have q1 : (2 : Int) < (l.length : Int) := by omega
    obtain ⟨ad, e1, hx⟩ := Kd.at_int hr 2 p1 q1
    cases e1
    try simp only [show (2 : Int).toNat = 2 from rfl, Nat.reduceMul, Nat.reduceEqDiff, Go.Addr.add, ↓reduceIte] at hx
    try rw [Addr.add_zero'] at hx
    have qi : (2 < l.length) = True := eq_true (by omega)
    replace p1 := eq_true p1
    replace q1 := eq_true q1
    clear hr hlc c2
    go_enter Tryd.func68, Tryd.ntmps68
    go_wp2
    go_ret
    exact ⟨rfl, rfl⟩
set_option maxHeartbeats 600000 in
set_option maxRecDepth 100000 in
theorem majorMinor_calls (a b : Int) (w : World) : Calls Tryd.prog 48 #[.int .u64 a, .int .u64 b] w fun e w' => ∃ g, e = .returned (Ptr g) ∧ IsVer w' g [a, b] false ⟨#[]⟩ ⟨#[]⟩ ∧ Below w.heap.size w w' := by
  unfold Ptr
  go_enter Tryd.func48, Tryd.ntmps48
  go_wp2
  go_ret
  refine ⟨w.heap.size + 1, rfl, ⟨some ⟨w.heap.size, 0, none⟩, 2, ?_, ?_, Nat.le_refl _⟩, below_alloc (below_alloc (Below.refl _ _) _) _⟩
  · have h := heap_alloc_new (w.alloc (Obj.cells #[Value.int IntKind.u64 a, Value.int IntKind.u64 b] 36)) (Obj.cells #[Value.slice (some ⟨w.heap.size, 0, none⟩) 2 2, Value.bool false, Value.string ⟨#[]⟩, Value.string ⟨#[]⟩] 87)
    rwa [World.size_alloc] at h
  · refine C_row (g := w.heap.size) [a, b] (by simp) (T := 36) ?_
    rw [Below.heap_alloc _ _ _ (by rw [World.size_alloc]; omega)]
    exact heap_alloc_new w _
end Go.Proofs.YtmfgkidppchobaaDoor.Ver1

set_option linter.unusedSimpArgs false
set_option linter.unusedVariables false
namespace Go.Proofs.YtmfgkidppchobaaDoor.Ver2
open Go.Sort Go.RowKit Go.Proofs.YtmfgkidppchobaaDoorW.PrintWords Go.Proofs.YtmfgkidppchobaaDoorW.PrintLast Go.Proofs.YtmfgkidppchobaaDoor.XFnVersionWays Go.Proofs.YtmfgkidppchobaaDoor.Ver1

/-- A number's decimal digits as a text. -/
def digs (u : Nat) : ByteArray := ⟨(Lib.decDigits u).toArray⟩
set_option maxHeartbeats 2000000 in
set_option maxRecDepth 100000 in
theorem innerFormat (u : Nat) (hu : u < 18446744073709551616) (w : World) (hV : VT.V w) : Calls Tryd.prog 91 #[.int .u64 u, .int .i64 10] w fun e w' => e = .returned (.string (digs u)) ∧ Below w.heap.size w w' := by
  unfold digs
  by_cases hs : u < 100
  · have hwr : IntKind.i64.wrap (u : Int) = (u : Int) := by rw [i64_w]; unfold wrap64; omega
    have c1 : decide ((u : Int) < 100) = true := decide_eq_true (by omega)
    have c2 : decide (u < 100) = true := decide_eq_true hs
    go_enter Tryd.func91, Tryd.ntmps91
    go_wp2_with fail
    refine (Tryd.internal_strconv_small u hs _).mono ?_
    rintro e w1 ⟨rfl, rfl⟩
    go_wp2_with fail
    go_ret
    exact ⟨rfl, Below.refl _ _⟩
  · have c1 : decide ((u : Int) < 100) = false := decide_eq_false (by omega)
    have c2 : decide (u < 100) = false := decide_eq_false hs
    have hu1 : 1 ≤ u := by omega
    have htab := hV.2.1
    have hnd20 : Lib.nDigits u ≤ 20 := by have := Lib.numDigits_eq u hu1 hu; split at this <;> omega
    have hb3 : Lib.nDigits u ≤ 24 := by omega
    have hal : Tryd.prog.arrayLen 121 = 24 := by kernel_rfl
    have hsl1 : ∀ W, (Instr.sliceAt 121 (.pointer (some ⟨w.heap.size, 0, none⟩)) none (some (.int .i64 (Lib.nDigits u : Int))) none).run Tryd.prog W = .ok (.slice (some ⟨w.heap.size, 0, none⟩) (Lib.nDigits u) 24) W := fun W => by
      rw [run_sliceAt_array_h W 121 ⟨w.heap.size, 0, none⟩ (by kernel_rfl) .i64 (Lib.nDigits u : Int) (by omega) (by rw [hal]; omega)]
      rw [show Tryd.prog.elem 121 = 5 from by kernel_rfl]
      go_simp
      try omega
    have hH0 := Lib.holds_zero0 w 121 (Lib.nDigits u) hb3
    have hfmt := Tryd.internal_strconv_formatBase10 w.heap.size 0 24 u (Array.replicate (Lib.nDigits u) 0) (w.alloc (.cells Lib.zeros24 121)) hH0 (by rw [Array.size_replicate]; exact Lib.lt_pow_nDigits u) hu (by rw [Array.size_replicate]; omega)
    rw [Array.size_replicate] at hfmt
    have HH0 := Lib.hid hH0
    clear hH0 hal
    have hV := Aside0.mk hV
    have hfm := Aside0.mk hfmt
    clear hfmt
    go_enter Tryd.func91, Tryd.ntmps91
    go_wp2_with fail
    refine (Tryd.internal_strconv_numDigits u hu1 hu _ (Lib.tabIs_alloc htab _)).mono ?_
    rintro e w1 ⟨rfl, rfl⟩
    go_wp2_with fail
    refine hfm.out.mono ?_
    rintro e w1 ⟨rfl, k, v', dk, rfl, hF⟩
    have hcv : (convert 91 9 (.slice (some ⟨w.heap.size, 0, none⟩) (Lib.nDigits u) 24)).run Tryd.prog ((putRow (fun (b : UInt8) => Value.int .u8 (b.toNat : Int)) (w.alloc (.cells Lib.zeros24 121)) w.heap.size 0 dk).drewN k) = .ok (.string ⟨(Lib.decDigits u).toArray⟩) ((putRow (fun (b : UInt8) => Value.int .u8 (b.toNat : Int)) (w.alloc (.cells Lib.zeros24 121)) w.heap.size 0 dk).drewN k) := by
      have h := run_convert_bytes_back (P := Tryd.prog) ((putRow (fun (b : UInt8) => Value.int .u8 (b.toNat : Int)) (w.alloc (.cells Lib.zeros24 121)) w.heap.size 0 dk).drewN k) 91 9 5 ⟨w.heap.size, 0, none⟩ 24 (Lib.decDigits u) Tryd.underlying91 Tryd.underlying5 Tryd.underlying9 (fun j hj => by
        rw [Lib.row_is_numeral hF j hj, Lib.add_plain, World.cell?_drewN]
        exact cell?_putRow (fun (b : UInt8) => Value.int .u8 (b.toNat : Int)) _ w.heap.size 0 _ dk HH0.out (by rw [hF.size, Array.size_replicate]) j (by rw [hF.size]; rw [Lib.decDigits_length] at hj; exact hj))
      rw [Lib.decDigits_length] at h
      exact h
    go_wp2_with fail
    go_ret
    obtain ⟨os, eo⟩ := Lib.fin_at w (.cells Lib.zeros24 121) dk k 0
    refine ⟨rfl, ?_⟩
    rw [eo]
    exact ⟨rfl, rfl, rfl, by rw [size_grow]; exact Nat.le_add_right _ _, fun g hg => by
      show ((w.drewN k).heap ++ os)[g]? = w.heap[g]?
      rw [Array.getElem?_append]
      exact if_pos hg⟩
set_option maxHeartbeats 600000 in
set_option maxRecDepth 100000 in
theorem formatUint (u : Nat) (hu : u < 18446744073709551616) (w : World) (hV : VT.V w) : Calls Tryd.prog 78 #[.int .u64 u, .int .i64 10] w fun e w' => e = .returned (.string (digs u)) ∧ Below w.heap.size w w' := by
  have hV := Aside0.mk hV
  go_enter Tryd.func78, Tryd.ntmps78
  go_wp2_with fail
  refine (innerFormat u hu _ hV.out).mono ?_
  rintro e w1 ⟨rfl, hB⟩
  go_wp2_with fail
  go_ret
  exact ⟨rfl, hB⟩
end Go.Proofs.YtmfgkidppchobaaDoor.Ver2

set_option linter.unusedSimpArgs false
set_option linter.unusedVariables false
namespace Go.Proofs.YtmfgkidppchobaaDoor.Ver3
open Go.RowKit Go.Proofs.YtmfgkidppchobaaDoorW.PrintWords Go.Proofs.YtmfgkidppchobaaDoorW.PrintLast Go.Proofs.YtmfgkidppchobaaDoor.XFnVersionWays Go.Proofs.YtmfgkidppchobaaDoor.Ver1 Go.Proofs.YtmfgkidppchobaaDoor.Ver2

/-- Numbers, points between. -/
def nt (l : List Int) : List UInt8 := l.foldl (fun acc n => (if acc = [] then [] else acc ++ [46]) ++ Lib.decDigits n.toNat) []
theorem nt_snoc (l : List Int) (n : Int) : nt (l ++ [n]) = (if nt l = [] then [] else nt l ++ [46]) ++ Lib.decDigits n.toNat := by unfold nt; rw [List.foldl_append]; rfl
theorem dd_pos (u : Nat) : 0 < (Lib.decDigits u).length := by
  rw [Lib.decDigits_length]
  unfold Lib.nDigits
  split <;> omega
theorem dd_le (u : Nat) (hu : u < 18446744073709551616) : (Lib.decDigits u).length ≤ 20 := by
  rw [Lib.decDigits_length]
  by_cases h : 1 ≤ u
  · have := Lib.numDigits_eq u h hu; split at this <;> omega
  · obtain rfl : u = 0 := by omega
    unfold Lib.nDigits
    simp
theorem snoc_ind {P : List Int → Prop} (h0 : P []) (h1 : ∀ l x, P l → P (l ++ [x])) (l : List Int) : P l := by
  rw [← List.reverse_reverse l]
  induction l.reverse with
  | nil => exact h0
  | cons x l ih => rw [List.reverse_cons]; exact h1 _ _ ih
theorem nt_nil (l : List Int) : nt l = [] ↔ l = [] := by
  refine snoc_ind (P := fun l => nt l = [] ↔ l = []) (by simp [nt]) (fun l x _ => ?_) l
  rw [nt_snoc]
  constructor
  · intro h
    have h2 := congrArg List.length h
    rw [List.length_append] at h2
    have := dd_pos x.toNat
    simp only [List.length_nil] at h2
    omega
  · intro h
    simp at h
def U64 (l : List Int) : Prop := ∀ x ∈ l, 0 ≤ x ∧ x < 18446744073709551616
theorem nt_len (l : List Int) : U64 l → (nt l).length ≤ 21 * l.length := by
  refine snoc_ind (P := fun l => U64 l → (nt l).length ≤ 21 * l.length) (by intro _; simp [nt]) (fun l x ih h => ?_) l
  have h1 := ih (fun y hy => h y (List.mem_append_left _ hy))
  have h2 := h x (by simp)
  have h3 := dd_le x.toNat (by omega)
  rw [nt_snoc, List.length_append, List.length_append, List.length_singleton]
  split
  · simp only [List.length_nil]; omega
  · rw [List.length_append, List.length_singleton]; omega
/-- A version's text, as bytes. -/
def textB (l : List Int) (pre bld : ByteArray) : List UInt8 := nt l ++ (if pre.toList = [] then [] else [45] ++ pre.data.toList) ++ (if bld.toList = [] then [] else [43] ++ bld.data.toList)
def text (l : List Int) (pre bld : ByteArray) : ByteArray := ⟨(textB l pre bld).toArray⟩
theorem take_succ {l : List Int} {k : Nat} {x : Int} (h : l[k]? = some x) : l.take (k + 1) = l.take k ++ [x] := by
  rw [List.take_add_one, h]; rfl
theorem rd_at {l : List Int} {k : Nat} {x : Int} (h : rd l (k : Int) = x) (hk : k < l.length) : l[k]? = some x := by
  rw [← h]
  simp [rd, hk]
abbrev Buf (w : World) (b : Nat) (l : List UInt8) : Prop := Lib.IsBuffer 101 5 b b (Lib.byteCells l) w
theorem write_calls (b : Nat) (l : List UInt8) (s : ByteArray) (w : World) (h : Buf w b l) (hb : b ≤ w.heap.size) (hl : l.length + s.size ≤ 140737488355328) :
    Calls Tryd.prog 77 #[.pointer (some ⟨b, 0, none⟩), .string s] w fun e w' => ∃ v, e = .returned v ∧ Buf w' b (l ++ s.data.toList) ∧ Below b w w' := by
  refine (Tryd.Buffer_WriteString_k b b (Lib.byteCells l) s w h hb (Lib.byteCells_one l) (by rw [Lib.byteCells_length]; exact hl)).mono ?_
  rintro e w' ⟨rfl, h1, h2, _⟩
  exact ⟨_, rfl, by rw [Buf, Lib.byteCells_append]; exact h1, h2⟩
theorem meas {k n : Nat} (h : k + 1 ≤ n) : n - (intOf (.int .i64 ((k + 1 : Nat) : Int))).toNat < n - (intOf (.int .i64 (k : Int))).toNat := by
  show n - ((k + 1 : Nat) : Int).toNat < n - (k : Int).toNat
  rw [Int.toNat_natCast, Int.toNat_natCast]
  omega

set_option maxHeartbeats 2000000 in
set_option maxRecDepth 100000 in
theorem string_calls (g : Nat) (l : List Int) (sv : Bool) (pre bld : ByteArray) (w : World) (hI : IsVer w g l sv pre bld) (hu : U64 l) (hl : l.length ≤ 4294967296) (hp : pre.size ≤ 4294967296) (hb : bld.size ≤ 4294967296) (hV : VT.V w) :
    Calls Tryd.prog 65 #[Ptr g] w fun e w' => e = .returned (.string (text l pre bld)) ∧ Below w.heap.size w w' := by
  unfold Ptr
  have hg := hI.lt
  have hIx := Aside0.mk hI
  replace hu := Aside0.mk hu
  have hlx := Aside0.mk hl
  have hpx := Aside0.mk hp
  have hbx := Aside0.mk hb
  replace hV := Aside0.mk hV
  obtain ⟨A, c, hG, hr, hlc⟩ := hI
  have hc0 := cV0 hG
  have hc2 := cV2 hG
  have hc3 := cV3 hG
  replace hlc := Aside0.mk hlc
  clear hG hp hb
  go_enter Tryd.func65, Tryd.ntmps65
  go_wp2_with fail
  go_loopw [13] (fun i wr => ∃ k : Nat, k ≤ l.length ∧ i = .int .i64 k ∧ Buf wr w.heap.size (nt (l.take k)) ∧ Below w.heap.size w wr) (fun i _ => l.length - (intOf i).toNat)
  case atStart => exact ⟨0, Nat.zero_le _, rfl, Lib.fresh_isBuffer _ _ w, below_alloc (Below.refl _ _) _⟩
  case round =>
    obtain ⟨k, hk, rfl, hM, hB⟩ := hrel
    have hrk := Kd.C_below hr hB
    have hg0 := Aside0.mk ((hB.cell (show (⟨g, 0, none⟩ : Addr).block < w.heap.size from hg)).trans hc0)
    have hg2 := (hB.cell (show (⟨g, 2, none⟩ : Addr).block < w.heap.size from hg)).trans hc2
    have hg3 := (hB.cell (show (⟨g, 3, none⟩ : Addr).block < w.heap.size from hg)).trans hc3
    replace hM := Aside0.mk hM
    replace hB := Aside0.mk hB
    by_cases c3 : (k : Int) < (l.length : Int)
    · obtain ⟨x, hx⟩ : ∃ x, rd l (k : Int) = x := ⟨_, rfl⟩
      have hxl := Aside0.mk (rd_at hx (by omega))
      have hxu := hu.out x (List.mem_of_getElem? hxl.out)
      have p := Int.natCast_nonneg k
      obtain ⟨ad, e1, hcell⟩ := Kd.at_int hrk (k : Int) p c3
      rw [hx, Int.toNat_natCast] at hcell
      cases e1
      have c3b := decide_eq_true c3
      have hk2 := Aside0.mk (show k + 1 ≤ l.length by omega)
      obtain ⟨u, rfl⟩ : ∃ u : Nat, x = (u : Int) := ⟨x.toNat, by omega⟩
      have hxu := Aside0.mk (show u < 18446744073709551616 by omega)
      have hsz := Aside0.mk hB.out.size
      have hlen := Aside0.mk (show (nt (l.take k)).length ≤ 21 * l.length from Nat.le_trans (nt_len (l.take k) (fun y hy => hu.out y (List.mem_of_mem_take hy))) (Nat.mul_le_mul_left 21 (by rw [List.length_take]; omega)))
      replace p := eq_true p
      replace c3 := eq_true c3
      clear hrk hx hg2 hg3
      by_cases c0 : k = 0
      · have c0b : decide (0 < (k : Int)) = false := decide_eq_false (by omega)
        have c0c : decide (0 < k) = false := decide_eq_false (by omega)
        replace c0 := Aside0.mk c0
        go_wp2_with fail
        refine (formatUint u hxu.out _ (hV.out.below hB.out)).mono ?_
        rintro e w2 ⟨rfl, hB2⟩
        replace hM := Aside0.mk (hM.out.old hB2)
        replace hB := Aside0.mk (below_then hB.out hB.out.size hB2)
        clear hB2
        go_wp2_with fail
        refine (write_calls w.heap.size _ _ _ hM.out hB.out.size (by rw [show (digs u).size = (Lib.decDigits u).length from rfl]; have := dd_le u hxu.out; have := hlen.out; have := hlx.out; omega)).mono ?_
        rintro e w3 ⟨v, rfl, hM3, hB3⟩
        replace hM3 := Aside0.mk hM3
        replace hB := Aside0.mk (hB.out.trans hB3)
        clear hB3
        go_wp2_with fail
        go_roundw
        case measure => have := hk2.out; first | exact meas this | (rw [show (k : Int) + 1 = ((k + 1 : Nat) : Int) from rfl]; exact meas this)
        case rel =>
          refine ⟨k + 1, hk2.out, by go_num, ?_, hB.out⟩
          have e0 : nt (l.take k) = [] := (nt_nil _).2 (by rw [c0.out]; rfl)
          have h3 := hM3.out
          rw [e0] at h3
          rw [take_succ hxl.out, nt_snoc, if_pos e0, Int.toNat_natCast]
          exact h3
      · have c0b : decide (0 < (k : Int)) = true := decide_eq_true (by omega)
        have c0c : decide (0 < k) = true := decide_eq_true (by omega)
        have c0x := Aside0.mk (show ¬ nt (l.take k) = [] from fun e => by
          have := congrArg List.length ((nt_nil _).1 e)
          rw [List.length_take] at this
          simp only [List.length_nil] at this
          omega)
        clear c0
        go_wp2_with fail
        refine (write_calls w.heap.size _ ⟨#[46]⟩ _ hM.out hB.out.size (by rw [show (⟨#[46]⟩ : ByteArray).size = 1 from rfl]; have := hlen.out; have := hlx.out; omega)).mono ?_
        rintro e w1 ⟨v, rfl, hM1, hB1⟩
        replace hM1 := Aside0.mk hM1
        replace hB := Aside0.mk (hB.out.trans hB1)
        clear hB1
        go_wp2_with fail
        refine (formatUint u hxu.out _ (hV.out.below hB.out)).mono ?_
        rintro e w2 ⟨rfl, hB2⟩
        replace hM1 := Aside0.mk (hM1.out.old hB2)
        replace hB := Aside0.mk (below_then hB.out hB.out.size hB2)
        clear hB2
        go_wp2_with fail
        refine (write_calls w.heap.size _ _ _ hM1.out hB.out.size (by rw [show (digs u).size = (Lib.decDigits u).length from rfl, List.length_append]; have := dd_le u hxu.out; have := hlen.out; have := hlx.out; have : ([46] : List UInt8).length = 1 := rfl; have : (⟨#[46]⟩ : ByteArray).data.toList.length = 1 := rfl; omega)).mono ?_
        rintro e w3 ⟨v, rfl, hM3, hB3⟩
        replace hM3 := Aside0.mk hM3
        replace hB := Aside0.mk (hB.out.trans hB3)
        clear hB3
        go_wp2_with fail
        go_roundw
        case measure => have := hk2.out; first | exact meas this | (rw [show (k : Int) + 1 = ((k + 1 : Nat) : Int) from rfl]; exact meas this)
        case rel =>
          refine ⟨k + 1, hk2.out, by go_num, ?_, hB.out⟩
          rw [take_succ hxl.out, nt_snoc, if_neg c0x.out, Int.toNat_natCast]
          exact hM3.out
    · have c3b := decide_eq_false c3
      obtain rfl : k = l.length := by omega
      rw [List.take_length] at hM
      have hlen := Aside0.mk (nt_len l hu.out)
      clear hrk c3
      clear hg2 hg3
      by_cases epre : pre.toList = []
      · have qpre : (pre.toList == []) = true := by rw [epre]; rfl
        have rpre : pre.toList.isEmpty = true := by rw [epre]; rfl
        by_cases ebld : bld.toList = []
        · have qbld : (bld.toList == []) = true := by rw [ebld]; rfl
          have rbld : bld.toList.isEmpty = true := by rw [ebld]; rfl
          have ebx := Aside0.mk ebld
          have epx := Aside0.mk epre
          clear ebld epre
          have hg2 := (hB.out.cell (show (⟨g, 2, none⟩ : Addr).block < w.heap.size from hg)).trans hc2
          have hg3 := (hB.out.cell (show (⟨g, 3, none⟩ : Addr).block < w.heap.size from hg)).trans hc3
          go_wp2_with fail
          refine (Tryd.Buffer_String w.heap.size w.heap.size _ _ hM.out).mono ?_
          rintro e w1 ⟨rfl, n, rfl⟩
          go_wp2_with fail
          go_ret
          refine ⟨?_, pw_below_drewN hB.out n⟩
          unfold text textB
          rw [if_pos epx.out, if_pos ebx.out]
          simp only [List.append_nil, List.append_assoc]
          rfl
        · have qbld : (bld.toList == []) = false := beq_eq_false_iff_ne.mpr ebld
          have rbld : bld.toList.isEmpty = false := by cases h : bld.toList with
            | nil => exact absurd h ebld
            | cons a t => rfl
          have ebx := Aside0.mk ebld
          have epx := Aside0.mk epre
          clear ebld epre
          have hg2 := (hB.out.cell (show (⟨g, 2, none⟩ : Addr).block < w.heap.size from hg)).trans hc2
          have hg3 := (hB.out.cell (show (⟨g, 3, none⟩ : Addr).block < w.heap.size from hg)).trans hc3
          go_wp2_with fail
          refine (write_calls w.heap.size _ ⟨#[43]⟩ _ hM.out hB.out.size (by simp only [List.length_append, show (⟨#[45]⟩ : ByteArray).data.toList.length = 1 from rfl, show (⟨#[45]⟩ : ByteArray).size = 1 from rfl, show (⟨#[43]⟩ : ByteArray).data.toList.length = 1 from rfl, show (⟨#[43]⟩ : ByteArray).size = 1 from rfl, show pre.data.toList.length = pre.size from rfl, show bld.data.toList.length = bld.size from rfl]; have := hlen.out; have := hpx.out; have := hbx.out; omega)).mono ?_
          rintro e w1 ⟨v, rfl, hM1, hB1⟩
          replace hM := Aside0.mk hM1
          replace hB := Aside0.mk (hB.out.trans hB1)
          clear hM1 hB1
          clear hg2 hg3
          have hg2 := (hB.out.cell (show (⟨g, 2, none⟩ : Addr).block < w.heap.size from hg)).trans hc2
          have hg3 := (hB.out.cell (show (⟨g, 3, none⟩ : Addr).block < w.heap.size from hg)).trans hc3
          go_wp2_with fail
          refine (write_calls w.heap.size _ bld _ hM.out hB.out.size (by simp only [List.length_append, show (⟨#[45]⟩ : ByteArray).data.toList.length = 1 from rfl, show (⟨#[45]⟩ : ByteArray).size = 1 from rfl, show (⟨#[43]⟩ : ByteArray).data.toList.length = 1 from rfl, show (⟨#[43]⟩ : ByteArray).size = 1 from rfl, show pre.data.toList.length = pre.size from rfl, show bld.data.toList.length = bld.size from rfl]; have := hlen.out; have := hpx.out; have := hbx.out; omega)).mono ?_
          rintro e w1 ⟨v, rfl, hM1, hB1⟩
          replace hM := Aside0.mk hM1
          replace hB := Aside0.mk (hB.out.trans hB1)
          clear hM1 hB1
          clear hg2 hg3
          have hg2 := (hB.out.cell (show (⟨g, 2, none⟩ : Addr).block < w.heap.size from hg)).trans hc2
          have hg3 := (hB.out.cell (show (⟨g, 3, none⟩ : Addr).block < w.heap.size from hg)).trans hc3
          go_wp2_with fail
          refine (Tryd.Buffer_String w.heap.size w.heap.size _ _ hM.out).mono ?_
          rintro e w1 ⟨rfl, n, rfl⟩
          go_wp2_with fail
          go_ret
          refine ⟨?_, pw_below_drewN hB.out n⟩
          unfold text textB
          rw [if_pos epx.out, if_neg ebx.out]
          simp only [List.append_nil, List.append_assoc]
          rfl
      · have qpre : (pre.toList == []) = false := beq_eq_false_iff_ne.mpr epre
        have rpre : pre.toList.isEmpty = false := by cases h : pre.toList with
          | nil => exact absurd h epre
          | cons a t => rfl
        by_cases ebld : bld.toList = []
        · have qbld : (bld.toList == []) = true := by rw [ebld]; rfl
          have rbld : bld.toList.isEmpty = true := by rw [ebld]; rfl
          have ebx := Aside0.mk ebld
          have epx := Aside0.mk epre
          clear ebld epre
          have hg2 := (hB.out.cell (show (⟨g, 2, none⟩ : Addr).block < w.heap.size from hg)).trans hc2
          have hg3 := (hB.out.cell (show (⟨g, 3, none⟩ : Addr).block < w.heap.size from hg)).trans hc3
          go_wp2_with fail
          refine (write_calls w.heap.size _ ⟨#[45]⟩ _ hM.out hB.out.size (by simp only [List.length_append, show (⟨#[45]⟩ : ByteArray).data.toList.length = 1 from rfl, show (⟨#[45]⟩ : ByteArray).size = 1 from rfl, show (⟨#[43]⟩ : ByteArray).data.toList.length = 1 from rfl, show (⟨#[43]⟩ : ByteArray).size = 1 from rfl, show pre.data.toList.length = pre.size from rfl, show bld.data.toList.length = bld.size from rfl]; have := hlen.out; have := hpx.out; have := hbx.out; omega)).mono ?_
          rintro e w1 ⟨v, rfl, hM1, hB1⟩
          replace hM := Aside0.mk hM1
          replace hB := Aside0.mk (hB.out.trans hB1)
          clear hM1 hB1
          clear hg2 hg3
          have hg2 := (hB.out.cell (show (⟨g, 2, none⟩ : Addr).block < w.heap.size from hg)).trans hc2
          have hg3 := (hB.out.cell (show (⟨g, 3, none⟩ : Addr).block < w.heap.size from hg)).trans hc3
          go_wp2_with fail
          refine (write_calls w.heap.size _ pre _ hM.out hB.out.size (by simp only [List.length_append, show (⟨#[45]⟩ : ByteArray).data.toList.length = 1 from rfl, show (⟨#[45]⟩ : ByteArray).size = 1 from rfl, show (⟨#[43]⟩ : ByteArray).data.toList.length = 1 from rfl, show (⟨#[43]⟩ : ByteArray).size = 1 from rfl, show pre.data.toList.length = pre.size from rfl, show bld.data.toList.length = bld.size from rfl]; have := hlen.out; have := hpx.out; have := hbx.out; omega)).mono ?_
          rintro e w1 ⟨v, rfl, hM1, hB1⟩
          replace hM := Aside0.mk hM1
          replace hB := Aside0.mk (hB.out.trans hB1)
          clear hM1 hB1
          clear hg2 hg3
          have hg2 := (hB.out.cell (show (⟨g, 2, none⟩ : Addr).block < w.heap.size from hg)).trans hc2
          have hg3 := (hB.out.cell (show (⟨g, 3, none⟩ : Addr).block < w.heap.size from hg)).trans hc3
          go_wp2_with fail
          refine (Tryd.Buffer_String w.heap.size w.heap.size _ _ hM.out).mono ?_
          rintro e w1 ⟨rfl, n, rfl⟩
          go_wp2_with fail
          go_ret
          refine ⟨?_, pw_below_drewN hB.out n⟩
          unfold text textB
          rw [if_neg epx.out, if_pos ebx.out]
          simp only [List.append_nil, List.append_assoc]
          rfl
        · have qbld : (bld.toList == []) = false := beq_eq_false_iff_ne.mpr ebld
          have rbld : bld.toList.isEmpty = false := by cases h : bld.toList with
            | nil => exact absurd h ebld
            | cons a t => rfl
          have ebx := Aside0.mk ebld
          have epx := Aside0.mk epre
          clear ebld epre
          have hg2 := (hB.out.cell (show (⟨g, 2, none⟩ : Addr).block < w.heap.size from hg)).trans hc2
          have hg3 := (hB.out.cell (show (⟨g, 3, none⟩ : Addr).block < w.heap.size from hg)).trans hc3
          go_wp2_with fail
          refine (write_calls w.heap.size _ ⟨#[45]⟩ _ hM.out hB.out.size (by simp only [List.length_append, show (⟨#[45]⟩ : ByteArray).data.toList.length = 1 from rfl, show (⟨#[45]⟩ : ByteArray).size = 1 from rfl, show (⟨#[43]⟩ : ByteArray).data.toList.length = 1 from rfl, show (⟨#[43]⟩ : ByteArray).size = 1 from rfl, show pre.data.toList.length = pre.size from rfl, show bld.data.toList.length = bld.size from rfl]; have := hlen.out; have := hpx.out; have := hbx.out; omega)).mono ?_
          rintro e w1 ⟨v, rfl, hM1, hB1⟩
          replace hM := Aside0.mk hM1
          replace hB := Aside0.mk (hB.out.trans hB1)
          clear hM1 hB1
          clear hg2 hg3
          have hg2 := (hB.out.cell (show (⟨g, 2, none⟩ : Addr).block < w.heap.size from hg)).trans hc2
          have hg3 := (hB.out.cell (show (⟨g, 3, none⟩ : Addr).block < w.heap.size from hg)).trans hc3
          go_wp2_with fail
          refine (write_calls w.heap.size _ pre _ hM.out hB.out.size (by simp only [List.length_append, show (⟨#[45]⟩ : ByteArray).data.toList.length = 1 from rfl, show (⟨#[45]⟩ : ByteArray).size = 1 from rfl, show (⟨#[43]⟩ : ByteArray).data.toList.length = 1 from rfl, show (⟨#[43]⟩ : ByteArray).size = 1 from rfl, show pre.data.toList.length = pre.size from rfl, show bld.data.toList.length = bld.size from rfl]; have := hlen.out; have := hpx.out; have := hbx.out; omega)).mono ?_
          rintro e w1 ⟨v, rfl, hM1, hB1⟩
          replace hM := Aside0.mk hM1
          replace hB := Aside0.mk (hB.out.trans hB1)
          clear hM1 hB1
          clear hg2 hg3
          have hg2 := (hB.out.cell (show (⟨g, 2, none⟩ : Addr).block < w.heap.size from hg)).trans hc2
          have hg3 := (hB.out.cell (show (⟨g, 3, none⟩ : Addr).block < w.heap.size from hg)).trans hc3
          go_wp2_with fail
          refine (write_calls w.heap.size _ ⟨#[43]⟩ _ hM.out hB.out.size (by simp only [List.length_append, show (⟨#[45]⟩ : ByteArray).data.toList.length = 1 from rfl, show (⟨#[45]⟩ : ByteArray).size = 1 from rfl, show (⟨#[43]⟩ : ByteArray).data.toList.length = 1 from rfl, show (⟨#[43]⟩ : ByteArray).size = 1 from rfl, show pre.data.toList.length = pre.size from rfl, show bld.data.toList.length = bld.size from rfl]; have := hlen.out; have := hpx.out; have := hbx.out; omega)).mono ?_
          rintro e w1 ⟨v, rfl, hM1, hB1⟩
          replace hM := Aside0.mk hM1
          replace hB := Aside0.mk (hB.out.trans hB1)
          clear hM1 hB1
          clear hg2 hg3
          have hg2 := (hB.out.cell (show (⟨g, 2, none⟩ : Addr).block < w.heap.size from hg)).trans hc2
          have hg3 := (hB.out.cell (show (⟨g, 3, none⟩ : Addr).block < w.heap.size from hg)).trans hc3
          go_wp2_with fail
          refine (write_calls w.heap.size _ bld _ hM.out hB.out.size (by simp only [List.length_append, show (⟨#[45]⟩ : ByteArray).data.toList.length = 1 from rfl, show (⟨#[45]⟩ : ByteArray).size = 1 from rfl, show (⟨#[43]⟩ : ByteArray).data.toList.length = 1 from rfl, show (⟨#[43]⟩ : ByteArray).size = 1 from rfl, show pre.data.toList.length = pre.size from rfl, show bld.data.toList.length = bld.size from rfl]; have := hlen.out; have := hpx.out; have := hbx.out; omega)).mono ?_
          rintro e w1 ⟨v, rfl, hM1, hB1⟩
          replace hM := Aside0.mk hM1
          replace hB := Aside0.mk (hB.out.trans hB1)
          clear hM1 hB1
          clear hg2 hg3
          have hg2 := (hB.out.cell (show (⟨g, 2, none⟩ : Addr).block < w.heap.size from hg)).trans hc2
          have hg3 := (hB.out.cell (show (⟨g, 3, none⟩ : Addr).block < w.heap.size from hg)).trans hc3
          go_wp2_with fail
          refine (Tryd.Buffer_String w.heap.size w.heap.size _ _ hM.out).mono ?_
          rintro e w1 ⟨rfl, n, rfl⟩
          go_wp2_with fail
          go_ret
          refine ⟨?_, pw_below_drewN hB.out n⟩
          unfold text textB
          rw [if_neg epx.out, if_neg ebx.out]
          simp only [List.append_nil, List.append_assoc]
          rfl
end Go.Proofs.YtmfgkidppchobaaDoor.Ver3
