/- A text of this session: the functions of the law FnIntStrParse, by a program that calls the kit's print and lays this session's own contracts of single functions beside. -/
import Derived.Test.YtmkpkpkcoieeiaaDoorXFnIntStrParsex0
namespace Go.Proofs.YtmkpkpkcoieeiaaDoor.XFnIntStrParse
open Go.RowKit Go.Proofs.YtmkpkpkcoieeiaaDoorW.PrintWords Go.Proofs.YtmkpkpkcoieeiaaDoorW.PrintLast Go.Proofs.YtmkpkpkcoieeiaaDoorW.PrintMore
attribute [local go_sem] max2_int min2_int max_two min_two max_three min_three max_four min_four   -- for this text's walks alone
set_option linter.unusedVariables false
set_option linter.unusedSimpArgs false

-- NOT PRINTED: function 46 (strconv_lower)

-- NOT PRINTED: function 47 (strconv_underscoreOK)

-- NOT PRINTED: function 39 (strconv_ParseUint)

-- NOT PRINTED: function 33 (strconv_ParseInt_33)

-- NOT PRINTED: function 48 (stringslite_Clone)

-- NOT PRINTED: function 40 (strconv_syntaxError)

-- NOT PRINTED: function 41 (strconv_rangeError)

-- NOT PRINTED: function 49 (errors_New)

-- NOT PRINTED: function 53 (strconv_small)

-- NOT PRINTED: function 57 (strconv_log10Pow2)

-- NOT PRINTED: function 58 (bits_Len64)

-- NOT PRINTED: function 59 (strconv_bool2_int)

-- NOT PRINTED: function 54 (strconv_numDigits)

-- NOT PRINTED: function 55 (strconv_formatBase10)

-- NOT PRINTED: function 60 (strconv_isPowerOfTwo)

-- NOT PRINTED: function 62 (bits_TrailingZeros32)

-- NOT PRINTED: function 63 (bits_TrailingZeros64)

-- NOT PRINTED: function 61 (bits_TrailingZeros)

-- NOT PRINTED: function 56 (strconv_formatBits)

-- NOT PRINTED: function 52 (strconv_FormatInt)

-- NOT PRINTED: function 51 (strconv_Itoa_51)

-- NOT PRINTED: function 50 (strconv_Itoa_50)

-- NOT PRINTED: function 42 (strconv_baseError)

-- NOT PRINTED: function 43 (strconv_bitSizeError)

-- NOT PRINTED: function 34 (strconv_toError)

-- NOT PRINTED: function 24 (strconv_ParseInt_24)

/-! ### intstr_FromString: function 25 -/
def intstr_FromString.f (a0 : ByteArray) : Option (Int × Int × ByteArray) := some (1, 0, a0)
set_option maxHeartbeats 8000000 in
set_option maxRecDepth 100000 in
theorem intstr_FromString.calls (a0 : ByteArray) (r1 : Int) (r2 : Int) (r3 : ByteArray) (w : World) (h : intstr_FromString.f a0 = some (r1, r2, r3)) :
    Calls Tryd.prog 25 #[.string a0] w fun e w' => e = .returned (.agg #[.int .i64 r1, .int .i32 r2, .string r3]) ∧ Below w.heap.size w w' := by
  have hu41 := Tryd.underlying41
  have HB := Aside0.mk (Below.refl w.heap.size w)
  have H : (some (1, 0, a0)) = some (r1, r2, r3) := h
  clear h
  simp only [Option.some.injEq, Prod.mk.injEq] at H
  obtain ⟨rfl, rfl, rfl⟩ := H
  go_enter Tryd.func25, Tryd.ntmps25
  go_wp2_with (first | ((with_reducible refine gate_dst (N := 2) rfl ?_); refine box_event ?hg (N := 2) ?hd (cs := #[.int .i64 0, .int .i32 0, .string (⟨#[]⟩ : ByteArray)]) (t := 41) ?hr ?_; (case hd => rfl); (case hg => rfl); (case hr => first | (go_simp; done) | (go_simp; rfl)); intro gb101 hg w2 hbox hb; have n0_ := Aside0.mk (below_step (by repeat (first | (with_reducible first | exact HB.out | apply below_alloc | apply pw_below_drewN | apply below_drew1) | exact HB.out)) hb); have n1_ := Aside0.mk (hbox); have n2_ := Aside0.mk ((by rw [hg]; exact (below_size (by repeat (first | (with_reducible first | exact HB.out | apply below_alloc | apply pw_below_drewN | apply below_drew1) | exact HB.out))) : w.heap.size ≤ gb101)); have n3_ := Aside0.mk ((by rw [hg]; exact (below_size (by repeat (first | (with_reducible first | exact HB.out | apply below_alloc | apply pw_below_drewN | apply below_drew1) | exact HB.out))) : w.heap.size ≤ gb101)); clear HB; have HB := n0_; have BK101 := n1_; have GW101 := n2_; have GE101 := n3_; clear n0_ n1_ n2_ n3_; clear hb hbox hg; have hcz3_0 : w2.cell? ⟨gb101, 0, none⟩ = some (.int .i64 0) := (blk_cell BK101.out 0).trans rfl; have hcz3_1 : w2.cell? ⟨gb101, 1, none⟩ = some (.int .i32 0) := (blk_cell BK101.out 1).trans rfl; have hcz3_2 : w2.cell? ⟨gb101, 2, none⟩ = some (.string (⟨#[]⟩ : ByteArray)) := (blk_cell BK101.out 2).trans rfl; have hfz3_0 := blk_frozen BK101.out 0; have hfz3_1 := blk_frozen BK101.out 1; have hfz3_2 := blk_frozen BK101.out 2))
  refine bodyPost_ret (results_cell_row rfl _ _ gb101 41 #[.int .i64 1, .int .i32 0, .string a0] (0, 0) _ rfl (by (with_reducible repeat (first | refine blk_drewN ?_ _ | refine blk_drew ?_ | refine blk_alloc ?_ _)); refine blk_put (cs := #[.int .i64 1, .int .i32 0, .string (⟨#[]⟩ : ByteArray)]) ?_ 2 _ rfl; (with_reducible repeat (first | refine blk_drewN ?_ _ | refine blk_drew ?_ | refine blk_alloc ?_ _)); refine blk_put (cs := #[.int .i64 1, .int .i32 0, .string (⟨#[]⟩ : ByteArray)]) ?_ 1 _ rfl; (with_reducible repeat (first | refine blk_drewN ?_ _ | refine blk_drew ?_ | refine blk_alloc ?_ _)); refine blk_put (cs := #[.int .i64 0, .int .i32 0, .string (⟨#[]⟩ : ByteArray)]) ?_ 0 _ rfl; (with_reducible repeat (first | refine blk_drewN ?_ _ | refine blk_drew ?_ | refine blk_alloc ?_ _)); exact BK101.out) Tryd.underlying41 rfl (by kernel_rfl)) rfl ?_
  exact ⟨by first | rfl | (simp [errW_none, errW_some] <;> rfl) | (simp [*, errW_none, errW_some] <;> rfl), by repeat (first | (with_reducible first | exact HB.out | apply below_alloc | apply pw_below_drewN | apply below_drew1 | refine below_set ?_ GE101.out) | exact HB.out)⟩

/-! ### intstr_FromInt32: function 26 -/
def intstr_FromInt32.f (a0 : Int) : Option (Int × Int × ByteArray) := some (0, a0, (⟨#[]⟩ : ByteArray))
set_option maxHeartbeats 8000000 in
set_option maxRecDepth 100000 in
theorem intstr_FromInt32.calls (a0 : Int) (r1 : Int) (r2 : Int) (r3 : ByteArray) (w : World) (h : intstr_FromInt32.f a0 = some (r1, r2, r3)) :
    Calls Tryd.prog 26 #[.int .i32 a0] w fun e w' => e = .returned (.agg #[.int .i64 r1, .int .i32 r2, .string r3]) ∧ Below w.heap.size w w' := by
  have hu41 := Tryd.underlying41
  have HB := Aside0.mk (Below.refl w.heap.size w)
  have H : (some (0, a0, (⟨#[]⟩ : ByteArray))) = some (r1, r2, r3) := h
  clear h
  simp only [Option.some.injEq, Prod.mk.injEq] at H
  obtain ⟨rfl, rfl, rfl⟩ := H
  go_enter Tryd.func26, Tryd.ntmps26
  go_wp2_with (first | ((with_reducible refine gate_dst (N := 2) rfl ?_); refine box_event ?hg (N := 2) ?hd (cs := #[.int .i64 0, .int .i32 0, .string (⟨#[]⟩ : ByteArray)]) (t := 41) ?hr ?_; (case hd => rfl); (case hg => rfl); (case hr => first | (go_simp; done) | (go_simp; rfl)); intro gb102 hg w2 hbox hb; have n0_ := Aside0.mk (below_step (by repeat (first | (with_reducible first | exact HB.out | apply below_alloc | apply pw_below_drewN | apply below_drew1) | exact HB.out)) hb); have n1_ := Aside0.mk (hbox); have n2_ := Aside0.mk ((by rw [hg]; exact (below_size (by repeat (first | (with_reducible first | exact HB.out | apply below_alloc | apply pw_below_drewN | apply below_drew1) | exact HB.out))) : w.heap.size ≤ gb102)); have n3_ := Aside0.mk ((by rw [hg]; exact (below_size (by repeat (first | (with_reducible first | exact HB.out | apply below_alloc | apply pw_below_drewN | apply below_drew1) | exact HB.out))) : w.heap.size ≤ gb102)); clear HB; have HB := n0_; have BK102 := n1_; have GW102 := n2_; have GE102 := n3_; clear n0_ n1_ n2_ n3_; clear hb hbox hg; have hcz3_0 : w2.cell? ⟨gb102, 0, none⟩ = some (.int .i64 0) := (blk_cell BK102.out 0).trans rfl; have hcz3_1 : w2.cell? ⟨gb102, 1, none⟩ = some (.int .i32 0) := (blk_cell BK102.out 1).trans rfl; have hcz3_2 : w2.cell? ⟨gb102, 2, none⟩ = some (.string (⟨#[]⟩ : ByteArray)) := (blk_cell BK102.out 2).trans rfl; have hfz3_0 := blk_frozen BK102.out 0; have hfz3_1 := blk_frozen BK102.out 1; have hfz3_2 := blk_frozen BK102.out 2))
  refine bodyPost_ret (results_cell_row rfl _ _ gb102 41 #[.int .i64 0, .int .i32 a0, .string (⟨#[]⟩ : ByteArray)] (0, 0) _ rfl (by (with_reducible repeat (first | refine blk_drewN ?_ _ | refine blk_drew ?_ | refine blk_alloc ?_ _)); refine blk_put (cs := #[.int .i64 0, .int .i32 a0, .string (⟨#[]⟩ : ByteArray)]) ?_ 2 _ rfl; (with_reducible repeat (first | refine blk_drewN ?_ _ | refine blk_drew ?_ | refine blk_alloc ?_ _)); refine blk_put (cs := #[.int .i64 0, .int .i32 0, .string (⟨#[]⟩ : ByteArray)]) ?_ 1 _ rfl; (with_reducible repeat (first | refine blk_drewN ?_ _ | refine blk_drew ?_ | refine blk_alloc ?_ _)); refine blk_put (cs := #[.int .i64 0, .int .i32 0, .string (⟨#[]⟩ : ByteArray)]) ?_ 0 _ rfl; (with_reducible repeat (first | refine blk_drewN ?_ _ | refine blk_drew ?_ | refine blk_alloc ?_ _)); exact BK102.out) Tryd.underlying41 rfl (by kernel_rfl)) rfl ?_
  exact ⟨by first | rfl | (simp [errW_none, errW_some] <;> rfl) | (simp [*, errW_none, errW_some] <;> rfl), by repeat (first | (with_reducible first | exact HB.out | apply below_alloc | apply pw_below_drewN | apply below_drew1 | refine below_set ?_ GE102.out) | exact HB.out)⟩

/-! ### intstr_Parse: function 17 -/
def intstr_Parse.f (_ : Nat) (a0 : ByteArray) : Option (Int × Int × ByteArray) := if a0.size ≤ 140737488351232 then some (match Num.whole (-2147483648) 2147483647 a0.data.toList with | some v => (0, v, (⟨#[]⟩ : ByteArray)) | none => (1, 0, a0)) else none
theorem intstr_Parse.mono : ∀ a0 k, LeO (intstr_Parse.f k a0) (intstr_Parse.f (k + 1) a0) := by
  intro a0 k
  exact LeO.refl _
theorem whole_bounds {a b v : Int} {l : List UInt8} (h : Num.whole a b l = some v) : a ≤ v ∧ v ≤ b := by
  unfold Num.whole at h
  split at h
  · rename_i hc
    injection h with h
    subst h
    exact ⟨hc.2.2.1, hc.2.2.2⟩
  · cases h
theorem parse_yes (a0 : ByteArray) (v : Int) (w : World) (hs : a0.size ≤ 140737488351232) (hp : Lib.parseIntB 32 a0.data.toList = .ok v) (h0 : -2147483648 ≤ v) (h1 : v ≤ 2147483647) :
    Calls Tryd.prog 17 #[.string a0] w fun e w' => e = .returned (.agg #[.int .i64 0, .int .i32 v, .string ⟨#[]⟩]) ∧ Below w.heap.size w w' := by
  go_enter Tryd.func17, Tryd.ntmps17
  go_wp2_with fail
  (with_reducible refine (Tryd.strconv_ParseInt_10_at32_ok a0 (by omega) v hp _).mono ?_)
  rintro e w1 ⟨rfl, hW⟩
  have hb : Below (w.alloc (.cells #[.int .i64 0, .int .i32 0, .string ⟨#[]⟩] 41)).heap.size (w.alloc (.cells #[.int .i64 0, .int .i32 0, .string ⟨#[]⟩] 41)) w1 := by
    rcases hW with rfl | ⟨t, rfl⟩
    · exact Below.refl _ _
    · exact Lib.bytesWorld_below _ _ _
  clear hW
  have hz := hb.size
  simp at hz
  have hy : w.heap.size < w1.heap.size := by omega
  have R0 : w1.heap[w.heap.size]? = some (.cells #[.int .i64 0, .int .i32 0, .string ⟨#[]⟩] 41 (0, 0)) := blk_below (by simpa using heap_alloc_new w (.cells #[.int .i64 0, .int .i32 0, .string ⟨#[]⟩] 41)) hb
  have HB : Below w.heap.size w w1 := (below_alloc (Below.refl _ _) _).trans (hb.mono (by simp))
  have HR := Aside0.mk R0
  have HB1 := Aside0.mk HB
  clear hb hz R0 HB
  go_wp2_with fail
  (with_reducible refine (intstr_FromInt32.calls v _ _ _ _ rfl).mono ?_)
  rintro e w2 ⟨rfl, hb2⟩
  have R1 := blk_below HR.out hb2
  have HB2 : Below w.heap.size w w2 := HB1.out.trans (hb2.mono (by omega))
  have hy2 : w.heap.size < w2.heap.size := by have := hb2.size; omega
  have f0 : w2.cell? ⟨w.heap.size, 0, none⟩ = some (.int .i64 0) := (blk_cell R1 0).trans rfl
  have f1 : w2.cell? ⟨w.heap.size, 1, none⟩ = some (.int .i32 0) := (blk_cell R1 1).trans rfl
  have f2 : w2.cell? ⟨w.heap.size, 2, none⟩ = some (.string ⟨#[]⟩) := (blk_cell R1 2).trans rfl
  have f3 := blk_frozen R1 0
  have f4 := blk_frozen R1 1
  have f5 := blk_frozen R1 2
  have HR2 := Aside0.mk R1
  have HB3 := Aside0.mk HB2
  clear hb2 R1 HB2 HR HB1
  go_wp2_with fail
  refine bodyPost_ret (results_cell_row rfl _ _ w.heap.size 41 #[.int .i64 0, .int .i32 v, .string ⟨#[]⟩] (0, 0) _ rfl (blk_put (cs := #[.int .i64 0, .int .i32 v, .string ⟨#[]⟩]) (blk_put (cs := #[.int .i64 0, .int .i32 0, .string ⟨#[]⟩]) (blk_put (cs := #[.int .i64 0, .int .i32 0, .string ⟨#[]⟩]) (HR2.out) 0 _ rfl) 1 _ rfl) 2 _ rfl) Tryd.underlying41 rfl (by kernel_rfl)) rfl ?_
  exact ⟨rfl, below_set (below_set (below_set HB3.out (Nat.le_refl _)) (Nat.le_refl _)) (Nat.le_refl _)⟩
theorem parse_no (a0 : ByteArray) (w : World) (hs : a0.size ≤ 140737488351232) (hp : ∀ v, Lib.parseIntB 32 a0.data.toList ≠ .ok v) (hV : Vars.Vars w) :
    Calls Tryd.prog 17 #[.string a0] w fun e w' => e = .returned (.agg #[.int .i64 1, .int .i32 0, .string a0]) ∧ Below w.heap.size w w' := by
  have hV1 : Vars.Vars (w.alloc (.cells #[.int .i64 0, .int .i32 0, .string ⟨#[]⟩] 41)) := hV.below (below_alloc (Below.refl _ _) _)
  have fails : Calls Tryd.prog 24 #[.string a0, .int .i64 10, .int .i64 32] (w.alloc (.cells #[.int .i64 0, .int .i32 0, .string ⟨#[]⟩] 41)) fun e w' => ∃ n p, e = .returned (.tuple #[.int .i64 n, .iface 69 p]) ∧ Below (w.alloc (.cells #[.int .i64 0, .int .i32 0, .string ⟨#[]⟩] 41)).heap.size (w.alloc (.cells #[.int .i64 0, .int .i32 0, .string ⟨#[]⟩] 41)) w' := by
    obtain ⟨⟨e0, hc0, he0⟩, ⟨e1, hc1, he1⟩⟩ := hV1
    cases hq : Lib.parseIntB 32 a0.data.toList with
    | ok v => exact absurd hq (hp v)
    | range =>
      refine (Tryd.strconv_ParseInt_10_at32_range a0 (by omega) hq e1 _ hc1 he1).mono ?_
      rintro e w1 ⟨N, rfl, _, _, hb⟩
      exact ⟨_, _, rfl, hb⟩
    | _ =>
      refine (Tryd.strconv_ParseInt_10_at32_syntax a0 (by omega) ⟨(fun _ hh => nomatch (hq.symm.trans hh)), (fun hh => nomatch (hq.symm.trans hh))⟩ e0 _ hc0 he0).mono ?_
      rintro e w1 ⟨N, rfl, _, _, hb⟩
      exact ⟨_, _, rfl, hb⟩
  go_enter Tryd.func17, Tryd.ntmps17
  go_wp2_with fail
  (with_reducible refine fails.mono ?_)
  rintro e w1 ⟨n, p, rfl, hb⟩
  have hz := hb.size
  simp at hz
  have hy : w.heap.size < w1.heap.size := by omega
  have R0 : w1.heap[w.heap.size]? = some (.cells #[.int .i64 0, .int .i32 0, .string ⟨#[]⟩] 41 (0, 0)) := blk_below (by simpa using heap_alloc_new w (.cells #[.int .i64 0, .int .i32 0, .string ⟨#[]⟩] 41)) hb
  have HB : Below w.heap.size w w1 := (below_alloc (Below.refl _ _) _).trans (hb.mono (by simp))
  have HR := Aside0.mk R0
  have HB1 := Aside0.mk HB
  clear hb hz R0 HB fails hV1
  go_wp2_with fail
  (with_reducible refine (intstr_FromString.calls a0 _ _ _ _ rfl).mono ?_)
  rintro e w2 ⟨rfl, hb2⟩
  have R1 := blk_below HR.out hb2
  have HB2 : Below w.heap.size w w2 := HB1.out.trans (hb2.mono (by omega))
  have hy2 : w.heap.size < w2.heap.size := by have := hb2.size; omega
  have f0 : w2.cell? ⟨w.heap.size, 0, none⟩ = some (.int .i64 0) := (blk_cell R1 0).trans rfl
  have f1 : w2.cell? ⟨w.heap.size, 1, none⟩ = some (.int .i32 0) := (blk_cell R1 1).trans rfl
  have f2 : w2.cell? ⟨w.heap.size, 2, none⟩ = some (.string ⟨#[]⟩) := (blk_cell R1 2).trans rfl
  have f3 := blk_frozen R1 0
  have f4 := blk_frozen R1 1
  have f5 := blk_frozen R1 2
  have HR2 := Aside0.mk R1
  have HB3 := Aside0.mk HB2
  clear hb2 R1 HB2 HR HB1
  go_wp2_with fail
  refine bodyPost_ret (results_cell_row rfl _ _ w.heap.size 41 #[.int .i64 1, .int .i32 0, .string a0] (0, 0) _ rfl (blk_put (cs := #[.int .i64 1, .int .i32 0, .string ⟨#[]⟩]) (blk_put (cs := #[.int .i64 1, .int .i32 0, .string ⟨#[]⟩]) (blk_put (cs := #[.int .i64 0, .int .i32 0, .string ⟨#[]⟩]) (HR2.out) 0 _ rfl) 1 _ rfl) 2 _ rfl) Tryd.underlying41 rfl (by kernel_rfl)) rfl ?_
  exact ⟨rfl, below_set (below_set (below_set HB3.out (Nat.le_refl _)) (Nat.le_refl _)) (Nat.le_refl _)⟩
theorem intstr_Parse.calls (k : Nat) (a0 : ByteArray) (r1 r2 : Int) (r3 : ByteArray) (w : World) (h : intstr_Parse.f k a0 = some (r1, r2, r3)) (hV : Vars.Vars w := by first | assumption | exact Vars.Vars.below hV HB.out | exact Vars.Vars.below hV HB | exact Vars.Vars.below hV (below_alloc (Below.refl _ _) _) | exact Vars.Vars.below hV (below_alloc HB.out _)) :
    Calls Tryd.prog 17 #[.string a0] w fun e w' => e = .returned (.agg #[.int .i64 r1, .int .i32 r2, .string r3]) ∧ Below w.heap.size w w' := by
  unfold intstr_Parse.f at h
  by_cases hs : a0.size ≤ 140737488351232
  · rw [if_pos hs] at h
    cases hw : Num.whole (-2147483648) 2147483647 a0.data.toList with
    | some v =>
      rw [hw] at h
      simp only [Option.some.injEq, Prod.mk.injEq] at h
      obtain ⟨rfl, rfl, rfl⟩ := h
      obtain ⟨h0, h1⟩ := whole_bounds hw
      exact parse_yes a0 _ w hs ((Num.pi32_ok _ _).2 hw) h0 h1
    | none =>
      rw [hw] at h
      simp only [Option.some.injEq, Prod.mk.injEq] at h
      obtain ⟨rfl, rfl, rfl⟩ := h
      exact parse_no a0 w hs (fun v hv => by rw [(Num.pi32_ok _ _).1 hv] at hw; cases hw) hV
  · rw [if_neg hs] at h; cases h

/-! ### impl_IntStrParse: function 7 -/
def impl_IntStrParse.f (k : Nat) (a0 : ByteArray) : Option (Int × Int × ByteArray) := (intstr_Parse.f k a0).bind fun bt104 => (some (bt104.1, bt104.2.1, bt104.2.2))
theorem impl_IntStrParse.mono : ∀ a0 k, LeO (impl_IntStrParse.f k a0) (impl_IntStrParse.f (k + 1) a0) := by
  intro a0 k
  unfold impl_IntStrParse.f
  repeat' first
      | (with_reducible exact intstr_Parse.mono _ _)
      | (with_reducible exact LeO.refl _)
      | (with_reducible exact LeO.none _)
      | (with_reducible refine LeO.ite ?_ ?_)
      | (with_reducible refine LeO.bind ?_ (fun _ => ?_))
      | exact intstr_Parse.mono _ _
      | exact LeO.none _
      | refine LeO.ite ?_ ?_
      | refine LeO.bind ?_ (fun _ => ?_)
set_option maxHeartbeats 8000000 in
set_option maxRecDepth 100000 in
theorem impl_IntStrParse.calls (k : Nat) (a0 : ByteArray) (r1 : Int) (r2 : Int) (r3 : ByteArray) (w : World) (h : impl_IntStrParse.f k a0 = some (r1, r2, r3)) (hV : Vars.Vars w := by first | assumption | exact Vars.Vars.below hV HB.out | exact Vars.Vars.below hV HB | exact Vars.Vars.below hV (below_alloc (Below.refl _ _) _) | exact Vars.Vars.below hV (below_alloc HB.out _)) :
    Calls Tryd.prog 7 #[.string a0] w fun e w' => e = .returned (.agg #[.int .i64 r1, .int .i32 r2, .string r3]) ∧ Below w.heap.size w w' := by
  have hu23 := Tryd.underlying23
  have hu41 := Tryd.underlying41
  have HB := Aside0.mk (Below.refl w.heap.size w)
  have H : ((intstr_Parse.f k a0).bind fun bt104 => (some (bt104.1, bt104.2.1, bt104.2.2))) = some (r1, r2, r3) := h
  clear h
  replace H := Option.bind_eq_some_iff.mp H
  obtain ⟨⟨t104, t105, t106⟩, A20, H⟩ := H
  replace H : (some (t104, t105, t106)) = some (r1, r2, r3) := H
  have A2 := Aside0.mk A20
  clear A20
  simp only [Option.some.injEq, Prod.mk.injEq] at H
  obtain ⟨rfl, rfl, rfl⟩ := H
  go_enter Tryd.func7, Tryd.ntmps7
  go_wp2_with (first | ((with_reducible refine gate_dst (N := 2) rfl ?_); refine box_event ?hg (N := 2) ?hd (cs := #[.int .i64 0, .int .i32 0, .string (⟨#[]⟩ : ByteArray)]) (t := 23) ?hr ?_; (case hd => rfl); (case hg => rfl); (case hr => first | (go_simp; done) | (go_simp; rfl)); intro gb103 hg w3 hbox hb; have n0_ := Aside0.mk (below_step (by repeat (first | (with_reducible first | exact HB.out | apply below_alloc | apply pw_below_drewN | apply below_drew1) | exact HB.out)) hb); have n1_ := Aside0.mk (hbox); have n2_ := Aside0.mk ((by rw [hg]; exact (below_size (by repeat (first | (with_reducible first | exact HB.out | apply below_alloc | apply pw_below_drewN | apply below_drew1) | exact HB.out))) : w.heap.size ≤ gb103)); have n3_ := Aside0.mk ((by rw [hg]; exact (below_size (by repeat (first | (with_reducible first | exact HB.out | apply below_alloc | apply pw_below_drewN | apply below_drew1) | exact HB.out))) : w.heap.size ≤ gb103)); clear HB; have HB := n0_; have BK103 := n1_; have GW103 := n2_; have GE103 := n3_; clear n0_ n1_ n2_ n3_; clear hb hbox hg) | ((with_reducible refine gate_callee (f := 17) rfl ?_); refine goesL_ (some 5) rfl rfl Tryd.func17 (by kernel_rfl) rfl #[.string a0] rfl (by (try simp only [List.map_toArray, List.map_cons, List.map_nil]); first | done | rfl | (simp only [List.length_drop, List.length_take]; rfl)) ?_; (with_reducible refine (intstr_Parse.calls k a0 t104 t105 t106 _ A2.out).mono ?_); rintro e w4 ⟨rfl, hb⟩; refine ⟨_, rfl, ?_⟩; have n0_ := Aside0.mk (blk_below (g := gb103) (o := .cells #[.int .i64 0, .int .i32 0, .string (⟨#[]⟩ : ByteArray)] 23 (0, 0)) (by (with_reducible repeat (first | refine blk_drewN ?_ _ | refine blk_drew ?_ | refine blk_alloc ?_ _)); exact BK103.out) hb); have n1_ := Aside0.mk (below_step (by repeat (first | (with_reducible first | exact HB.out | apply below_alloc | apply pw_below_drewN | apply below_drew1 | refine below_set ?_ GE103.out) | exact HB.out)) hb); clear BK103; clear HB; have BK103 := n0_; have HB := n1_; clear n0_ n1_; (try clear hb); (try clear hb2); (try clear hk); (try clear hi)) | ((with_reducible refine gate_dst (N := 3) rfl ?_); refine box_event ?hg (N := 3) ?hd (cs := #[.int .i64 0, .int .i32 0, .string (⟨#[]⟩ : ByteArray)]) (t := 41) ?hr ?_; (case hd => rfl); (case hg => rfl); (case hr => first | (go_simp; done) | (go_simp; rfl)); intro gb107 hg w5 hbox hb; have n0_ := Aside0.mk (blk_below (g := gb103) (o := .cells #[.int .i64 0, .int .i32 0, .string (⟨#[]⟩ : ByteArray)] 23 (0, 0)) (by (with_reducible repeat (first | refine blk_drewN ?_ _ | refine blk_drew ?_ | refine blk_alloc ?_ _)); exact BK103.out) hb); have n1_ := Aside0.mk (below_step (by repeat (first | (with_reducible first | exact HB.out | apply below_alloc | apply pw_below_drewN | apply below_drew1 | refine below_set ?_ GE103.out) | exact HB.out)) hb); have n2_ := Aside0.mk (hbox); have n3_ := Aside0.mk ((by rw [hg]; exact (below_size (by repeat (first | (with_reducible first | exact HB.out | apply below_alloc | apply pw_below_drewN | apply below_drew1 | refine below_set ?_ GE103.out) | exact HB.out))) : w.heap.size ≤ gb107)); have n4_ := Aside0.mk ((by rw [hg]; exact (below_size (by repeat (first | (with_reducible first | exact HB.out | apply below_alloc | apply pw_below_drewN | apply below_drew1 | refine below_set ?_ GE103.out) | exact HB.out))) : w.heap.size ≤ gb107)); have n5_ := Aside0.mk ((by rw [hg]; exact Nat.ne_of_lt (blk_lt (g := gb103) (o := .cells #[.int .i64 0, .int .i32 0, .string (⟨#[]⟩ : ByteArray)] 23 (0, 0)) (by (with_reducible repeat (first | refine blk_drewN ?_ _ | refine blk_drew ?_ | refine blk_alloc ?_ _)); exact BK103.out)) : gb103 ≠ gb107)); have n6_ := Aside0.mk ((by rw [hg]; exact Nat.ne_of_gt (blk_lt (g := gb103) (o := .cells #[.int .i64 0, .int .i32 0, .string (⟨#[]⟩ : ByteArray)] 23 (0, 0)) (by (with_reducible repeat (first | refine blk_drewN ?_ _ | refine blk_drew ?_ | refine blk_alloc ?_ _)); exact BK103.out)) : gb107 ≠ gb103)); clear BK103; clear HB; have BK103 := n0_; have HB := n1_; have BK107 := n2_; have GW107 := n3_; have GE107 := n4_; have NB103_107 := n5_; have NB107_103 := n6_; clear n0_ n1_ n2_ n3_ n4_ n5_ n6_; clear hb hbox hg; have hnb6 := NB107_103.out; have hnc6 := NB103_107.out; have hcz7_0 : w5.cell? ⟨gb107, 0, none⟩ = some (.int .i64 0) := (blk_cell BK107.out 0).trans rfl; have hcz7_1 : w5.cell? ⟨gb107, 1, none⟩ = some (.int .i32 0) := (blk_cell BK107.out 1).trans rfl; have hcz7_2 : w5.cell? ⟨gb107, 2, none⟩ = some (.string (⟨#[]⟩ : ByteArray)) := (blk_cell BK107.out 2).trans rfl; have hfz7_0 := blk_frozen BK107.out 0; have hfz7_1 := blk_frozen BK107.out 1; have hfz7_2 := blk_frozen BK107.out 2; have hcz8_0 : w5.cell? ⟨gb103, 0, none⟩ = some (.int .i64 0) := (blk_cell BK103.out 0).trans rfl; have hcz8_1 : w5.cell? ⟨gb103, 1, none⟩ = some (.int .i32 0) := (blk_cell BK103.out 1).trans rfl; have hcz8_2 : w5.cell? ⟨gb103, 2, none⟩ = some (.string (⟨#[]⟩ : ByteArray)) := (blk_cell BK103.out 2).trans rfl; have hfz8_0 := blk_frozen BK103.out 0; have hfz8_1 := blk_frozen BK103.out 1; have hfz8_2 := blk_frozen BK103.out 2))
  refine bodyPost_ret (results_cell_row rfl _ _ gb103 23 #[.int .i64 t104, .int .i32 t105, .string t106] (0, 0) _ rfl (by (with_reducible repeat (first | refine blk_drewN ?_ _ | refine blk_drew ?_ | refine blk_alloc ?_ _)); refine blk_put (cs := #[.int .i64 t104, .int .i32 t105, .string (⟨#[]⟩ : ByteArray)]) ?_ 2 _ rfl; (with_reducible repeat (first | refine blk_drewN ?_ _ | refine blk_drew ?_ | refine blk_alloc ?_ _)); refine blk_put (cs := #[.int .i64 t104, .int .i32 0, .string (⟨#[]⟩ : ByteArray)]) ?_ 1 _ rfl; (with_reducible repeat (first | refine blk_drewN ?_ _ | refine blk_drew ?_ | refine blk_alloc ?_ _)); refine blk_put (cs := #[.int .i64 0, .int .i32 0, .string (⟨#[]⟩ : ByteArray)]) ?_ 0 _ rfl; (with_reducible repeat (first | refine blk_drewN ?_ _ | refine blk_drew ?_ | refine blk_alloc ?_ _)); refine blk_far ?_ NB103_107.out _; (with_reducible repeat (first | refine blk_drewN ?_ _ | refine blk_drew ?_ | refine blk_alloc ?_ _)); refine blk_far ?_ NB103_107.out _; (with_reducible repeat (first | refine blk_drewN ?_ _ | refine blk_drew ?_ | refine blk_alloc ?_ _)); refine blk_far ?_ NB103_107.out _; (with_reducible repeat (first | refine blk_drewN ?_ _ | refine blk_drew ?_ | refine blk_alloc ?_ _)); exact BK103.out) Tryd.underlying23 rfl (by kernel_rfl)) rfl ?_
  exact ⟨by first | rfl | (simp [errW_none, errW_some] <;> rfl) | (simp [*, errW_none, errW_some] <;> rfl), by repeat (first | (with_reducible first | exact HB.out | apply below_alloc | apply pw_below_drewN | apply below_drew1 | refine below_set ?_ GE103.out | refine below_set ?_ GE107.out) | exact HB.out)⟩

/-! ### spec_NumWhole: function 8 -/
mutual
def spec_NumWhole.j0 : Nat → ByteArray → Int → Int → Bool → Option (Int × Bool)
  | 0, _, _, _, _ => none
  | k + 1, x0, x1, x2, x8 => if x8 = true then (spec_NumWhole.j1 k x0 x1 x2 x8 true) else (if x0.toList = ([] : List UInt8) then (spec_NumWhole.j1 k x0 x1 x2 x8 false) else (if 0 < (x0.size : Int) then (spec_NumWhole.j1 k x0 x1 x2 x8 ((bt x0 0) == 43)) else (none)))
def spec_NumWhole.j1 : Nat → ByteArray → Int → Int → Bool → Bool → Option (Int × Bool)
  | 0, _, _, _, _, _ => none
  | k + 1, x0, x1, x2, x8, x28 => if x28 = true then (if 1 ≤ (x0.size : Int) then (spec_NumWhole.j2 k (x0.extract 1 x0.size) x1 x2 x8) else (none)) else (spec_NumWhole.j2 k x0 x1 x2 x8)
def spec_NumWhole.j2 : Nat → ByteArray → Int → Int → Bool → Option (Int × Bool)
  | 0, _, _, _, _ => none
  | k + 1, x0, x1, x2, x8 => if x0.toList = ([] : List UInt8) then (some (0, false)) else (spec_NumWhole.l0 k x0 x1 x2 x8 0 0)
def spec_NumWhole.l0 : Nat → ByteArray → Int → Int → Bool → Int → Int → Option (Int × Bool)
  | 0, _, _, _, _, _, _ => none
  | k + 1, x0, x1, x2, x8, x9, x10 => if x10 < (x0.size : Int) then (if 0 ≤ x10 then (if (wrap64 ((wrap64 (bt x0 x10)) - 48)) < 0 then (spec_NumWhole.j4 k x0 x1 x2 x8 x9 x10 (wrap64 ((wrap64 (bt x0 x10)) - 48)) true) else (spec_NumWhole.j4 k x0 x1 x2 x8 x9 x10 (wrap64 ((wrap64 (bt x0 x10)) - 48)) (decide ((wrap64 ((wrap64 (bt x0 x10)) - 48)) > 9)))) else (none)) else (if x9 ≥ x1 then (some (x9, decide (x9 ≤ x2))) else (some (x9, false)))
def spec_NumWhole.j4 : Nat → ByteArray → Int → Int → Bool → Int → Int → Int → Bool → Option (Int × Bool)
  | 0, _, _, _, _, _, _, _, _ => none
  | k + 1, x0, x1, x2, x8, x9, x10, x11, x49 => if x49 = true then (some (0, false)) else (if x8 = true then (if x9 < (wrap64 (Int.tdiv (wrap64 (x1 + x11)) 10)) then (some (0, false)) else (spec_NumWhole.l0 k x0 x1 x2 x8 (wrap64 ((wrap64 (10 * x9)) - x11)) (wrap64 (x10 + 1)))) else (if x9 > (wrap64 (Int.tdiv (wrap64 (x2 - x11)) 10)) then (some (0, false)) else (spec_NumWhole.l0 k x0 x1 x2 x8 (wrap64 ((wrap64 (10 * x9)) + x11)) (wrap64 (x10 + 1)))))
end
def spec_NumWhole.f (k : Nat) (a0 : ByteArray) (a1 : Int) (a2 : Int) : Option (Int × Bool) := if a0.toList = ([] : List UInt8) then (spec_NumWhole.j0 k a0 a1 a2 false) else (if 0 < (a0.size : Int) then (spec_NumWhole.j0 k a0 a1 a2 ((bt a0 0) == 45)) else (none))
theorem spec_NumWhole.mono_l : ∀ k, (∀ y0 y1 y2 y3, LeO (spec_NumWhole.j0 k y0 y1 y2 y3) (spec_NumWhole.j0 (k + 1) y0 y1 y2 y3)) ∧ (∀ y0 y1 y2 y3 y4, LeO (spec_NumWhole.j1 k y0 y1 y2 y3 y4) (spec_NumWhole.j1 (k + 1) y0 y1 y2 y3 y4)) ∧ (∀ y0 y1 y2 y3, LeO (spec_NumWhole.j2 k y0 y1 y2 y3) (spec_NumWhole.j2 (k + 1) y0 y1 y2 y3)) ∧ (∀ y0 y1 y2 y3 y4 y5, LeO (spec_NumWhole.l0 k y0 y1 y2 y3 y4 y5) (spec_NumWhole.l0 (k + 1) y0 y1 y2 y3 y4 y5)) ∧ (∀ y0 y1 y2 y3 y4 y5 y6 y7, LeO (spec_NumWhole.j4 k y0 y1 y2 y3 y4 y5 y6 y7) (spec_NumWhole.j4 (k + 1) y0 y1 y2 y3 y4 y5 y6 y7))
  | 0 => ⟨fun _ _ _ _ r h => by simp [spec_NumWhole.j0] at h, fun _ _ _ _ _ r h => by simp [spec_NumWhole.j1] at h, fun _ _ _ _ r h => by simp [spec_NumWhole.j2] at h, fun _ _ _ _ _ _ r h => by simp [spec_NumWhole.l0] at h, fun _ _ _ _ _ _ _ _ r h => by simp [spec_NumWhole.j4] at h⟩
  | k + 1 => by
    obtain ⟨ih0, ih1, ih2, ih3, ih4⟩ := spec_NumWhole.mono_l k
    refine ⟨?_, ?_, ?_, ?_, ?_⟩
    · intro y0 y1 y2 y3
      unfold spec_NumWhole.j0
      repeat' first
      | (with_reducible exact ih0 _ _ _ _)
      | (with_reducible exact ih1 _ _ _ _ _)
      | (with_reducible exact ih2 _ _ _ _)
      | (with_reducible exact ih3 _ _ _ _ _ _)
      | (with_reducible exact ih4 _ _ _ _ _ _ _ _)
      | (with_reducible exact LeO.refl _)
      | (with_reducible exact LeO.none _)
      | (with_reducible refine LeO.ite ?_ ?_)
      | (with_reducible refine LeO.bind ?_ (fun _ => ?_))
      | exact ih0 _ _ _ _
      | exact ih1 _ _ _ _ _
      | exact ih2 _ _ _ _
      | exact ih3 _ _ _ _ _ _
      | exact ih4 _ _ _ _ _ _ _ _
      | exact LeO.none _
      | refine LeO.ite ?_ ?_
      | refine LeO.bind ?_ (fun _ => ?_)
    · intro y0 y1 y2 y3 y4
      unfold spec_NumWhole.j1
      repeat' first
      | (with_reducible exact ih0 _ _ _ _)
      | (with_reducible exact ih1 _ _ _ _ _)
      | (with_reducible exact ih2 _ _ _ _)
      | (with_reducible exact ih3 _ _ _ _ _ _)
      | (with_reducible exact ih4 _ _ _ _ _ _ _ _)
      | (with_reducible exact LeO.refl _)
      | (with_reducible exact LeO.none _)
      | (with_reducible refine LeO.ite ?_ ?_)
      | (with_reducible refine LeO.bind ?_ (fun _ => ?_))
      | exact ih0 _ _ _ _
      | exact ih1 _ _ _ _ _
      | exact ih2 _ _ _ _
      | exact ih3 _ _ _ _ _ _
      | exact ih4 _ _ _ _ _ _ _ _
      | exact LeO.none _
      | refine LeO.ite ?_ ?_
      | refine LeO.bind ?_ (fun _ => ?_)
    · intro y0 y1 y2 y3
      unfold spec_NumWhole.j2
      repeat' first
      | (with_reducible exact ih0 _ _ _ _)
      | (with_reducible exact ih1 _ _ _ _ _)
      | (with_reducible exact ih2 _ _ _ _)
      | (with_reducible exact ih3 _ _ _ _ _ _)
      | (with_reducible exact ih4 _ _ _ _ _ _ _ _)
      | (with_reducible exact LeO.refl _)
      | (with_reducible exact LeO.none _)
      | (with_reducible refine LeO.ite ?_ ?_)
      | (with_reducible refine LeO.bind ?_ (fun _ => ?_))
      | exact ih0 _ _ _ _
      | exact ih1 _ _ _ _ _
      | exact ih2 _ _ _ _
      | exact ih3 _ _ _ _ _ _
      | exact ih4 _ _ _ _ _ _ _ _
      | exact LeO.none _
      | refine LeO.ite ?_ ?_
      | refine LeO.bind ?_ (fun _ => ?_)
    · intro y0 y1 y2 y3 y4 y5
      unfold spec_NumWhole.l0
      repeat' first
      | (with_reducible exact ih0 _ _ _ _)
      | (with_reducible exact ih1 _ _ _ _ _)
      | (with_reducible exact ih2 _ _ _ _)
      | (with_reducible exact ih3 _ _ _ _ _ _)
      | (with_reducible exact ih4 _ _ _ _ _ _ _ _)
      | (with_reducible exact LeO.refl _)
      | (with_reducible exact LeO.none _)
      | (with_reducible refine LeO.ite ?_ ?_)
      | (with_reducible refine LeO.bind ?_ (fun _ => ?_))
      | exact ih0 _ _ _ _
      | exact ih1 _ _ _ _ _
      | exact ih2 _ _ _ _
      | exact ih3 _ _ _ _ _ _
      | exact ih4 _ _ _ _ _ _ _ _
      | exact LeO.none _
      | refine LeO.ite ?_ ?_
      | refine LeO.bind ?_ (fun _ => ?_)
    · intro y0 y1 y2 y3 y4 y5 y6 y7
      unfold spec_NumWhole.j4
      repeat' first
      | (with_reducible exact ih0 _ _ _ _)
      | (with_reducible exact ih1 _ _ _ _ _)
      | (with_reducible exact ih2 _ _ _ _)
      | (with_reducible exact ih3 _ _ _ _ _ _)
      | (with_reducible exact ih4 _ _ _ _ _ _ _ _)
      | (with_reducible exact LeO.refl _)
      | (with_reducible exact LeO.none _)
      | (with_reducible refine LeO.ite ?_ ?_)
      | (with_reducible refine LeO.bind ?_ (fun _ => ?_))
      | exact ih0 _ _ _ _
      | exact ih1 _ _ _ _ _
      | exact ih2 _ _ _ _
      | exact ih3 _ _ _ _ _ _
      | exact ih4 _ _ _ _ _ _ _ _
      | exact LeO.none _
      | refine LeO.ite ?_ ?_
      | refine LeO.bind ?_ (fun _ => ?_)
theorem spec_NumWhole.mono : ∀ a0 a1 a2 k, LeO (spec_NumWhole.f k a0 a1 a2) (spec_NumWhole.f (k + 1) a0 a1 a2) := by
  intro a0 a1 a2 k
  obtain ⟨ih0, ih1, ih2, ih3, ih4⟩ := spec_NumWhole.mono_l k
  unfold spec_NumWhole.f
  repeat' first
      | (with_reducible exact ih0 _ _ _ _)
      | (with_reducible exact ih1 _ _ _ _ _)
      | (with_reducible exact ih2 _ _ _ _)
      | (with_reducible exact ih3 _ _ _ _ _ _)
      | (with_reducible exact ih4 _ _ _ _ _ _ _ _)
      | (with_reducible exact LeO.refl _)
      | (with_reducible exact LeO.none _)
      | (with_reducible refine LeO.ite ?_ ?_)
      | (with_reducible refine LeO.bind ?_ (fun _ => ?_))
      | exact ih0 _ _ _ _
      | exact ih1 _ _ _ _ _
      | exact ih2 _ _ _ _
      | exact ih3 _ _ _ _ _ _
      | exact ih4 _ _ _ _ _ _ _ _
      | exact LeO.none _
      | refine LeO.ite ?_ ?_
      | refine LeO.bind ?_ (fun _ => ?_)
set_option maxHeartbeats 8000000 in
set_option maxRecDepth 100000 in
theorem spec_NumWhole.calls (k : Nat) (a0 : ByteArray) (a1 : Int) (a2 : Int) (r1 : Int) (r2 : Bool) (w : World) (h : spec_NumWhole.f k a0 a1 a2 = some (r1, r2)) :
    Calls Tryd.prog 8 #[.string a0, .int .i64 a1, .int .i64 a2] w fun e w' => e = .returned (.tuple #[.int .i64 r1, .bool r2]) ∧ Drawn0 w w' := by
  have H : (if a0.toList = ([] : List UInt8) then (spec_NumWhole.j0 k a0 a1 a2 false) else (if 0 < (a0.size : Int) then (spec_NumWhole.j0 k a0 a1 a2 ((bt a0 0) == 45)) else (none))) = some (r1, r2) := h
  clear h
  have HC4 := Aside0.mk H
  clear H
  go_enter Tryd.func8, Tryd.ntmps8
  go_upto_region 1 with (fail)
  go_cut [8] (fun v8 wc => ∃ (kq : Nat) (x8_3 : Bool), v8 = .bool x8_3 ∧ Aside0 (spec_NumWhole.j0 kq a0 a1 a2 x8_3 = some (r1, r2)) ∧ Aside0 (kq ≤ k) ∧ Drawn0 w wc)
  case first =>
    have H := HC4.out
    clear HC4
    by_cases c5 : a0.toList = ([] : List UInt8)
    · rw [if_pos c5] at H
      have c5b0 : (a0.toList == ([] : List UInt8)) = true := beq_iff_eq.mpr c5
      have c5b1 : (a0.toList != ([] : List UInt8)) = false := bne_eq_false_iff_eq.mpr c5
      clear c5
      (first | rw [c5b0] | (simp only [i64_w, i32_w]; rw [c5b0]) | skip)
      have H' := Aside0.mk H
      clear H
      go_wp2
      go_meet
      case rel => exact ⟨_, (false), (by first | rfl | (simp; done) | (simp [*]; done)), H', ⟨by first | omega | exact Nat.le_refl _⟩, by repeat (first | exact Drawn0.refl _ | apply Drawn0.step)⟩
    · rw [if_neg c5] at H
      have c5b0 : (a0.toList == ([] : List UInt8)) = false := beq_eq_false_iff_ne.mpr c5
      have c5b1 : (a0.toList != ([] : List UInt8)) = true := bne_iff_ne.mpr c5
      (first | rw [c5b0] | (simp only [i64_w, i32_w]; rw [c5b0]) | skip)
      by_cases c6 : 0 < (a0.size : Int)
      · rw [if_pos c6] at H
        have c6b0 : decide (0 < (a0.size : Int)) = true := decide_eq_true c6
        have c6b1 : decide (0 < a0.size) = true := decide_eq_true (by omega)
        clear c6
        have H' := Aside0.mk H
        clear H
        have p7 : 0 ≤ (0 : Int) := (by omega)
        have q7 : 0 < a0.size := (by have : (0 : Int) < (a0.size : Int) := of_decide_eq_true (by first | (with_reducible assumption) | assumption); omega)
        have hx7 : ∀ h : 0 < a0.size, ((a0[0]'h).toNat : Int) = bt a0 0 := bt_at a0 0
        clear p7
        have qi7 : (0 < (a0.size : Int)) = True := eq_true (of_decide_eq_true (by first | (with_reducible assumption) | assumption))
        replace q7 := eq_true q7
        go_wp2
        go_meet
        case rel => exact ⟨_, (((bt a0 0) == 45)), (by first | rfl | (simp; done) | (simp [*]; done)), H', ⟨by first | omega | exact Nat.le_refl _⟩, by repeat (first | exact Drawn0.refl _ | apply Drawn0.step)⟩
      · rw [if_neg c6] at H
        exact absurd H (by simp)
  case rest =>
    clear HC4
    try clear p2
    try clear c5
    try clear c5b0
    try clear c5b1
    try clear c6
    try clear c6b0
    try clear c6b1
    try clear p7
    try clear q7
    try clear hx7
    try clear qi7
    try clear p7
    try clear q7
    obtain ⟨kq, x8_3, rfl, HA, HJ3, ⟨mc3, rfl⟩⟩ := hcut
    cases kq with
    | zero => exact absurd HA.out (by simp [spec_NumWhole.j0])
    | succ kj3 =>
      have H := HA.out
      clear HA
      simp only [spec_NumWhole.j0] at H
      have HC8 := Aside0.mk H
      clear H
      go_upto_region 2 with (fail)
      go_cut [28] (fun v28 wc => ∃ (kq : Nat) (x28_7 : Bool), v28 = .bool x28_7 ∧ Aside0 (spec_NumWhole.j1 kq a0 a1 a2 x8_3 x28_7 = some (r1, r2)) ∧ Aside0 (kq ≤ kj3) ∧ Drawn0 w wc)
      case first =>
        have H := HC8.out
        clear HC8
        by_cases c9 : x8_3 = true
        · subst c9
          have H1 : (spec_NumWhole.j1 kj3 a0 a1 a2 true true) = some (r1, r2) := by rw [if_pos rfl] at H; exact H
          clear H
          have H := H1
          clear H1
          have H' := Aside0.mk H
          clear H
          go_wp2
          go_meet
          case rel => exact ⟨_, (true), (by first | rfl | (simp; done) | (simp [*]; done)), H', ⟨by have := HJ3.out; first | omega | exact Nat.le_refl _⟩, by repeat (first | exact Drawn0.refl _ | apply Drawn0.step)⟩
        · replace c9 := Bool.eq_false_iff.mpr c9
          subst c9
          have H1 : (if a0.toList = ([] : List UInt8) then (spec_NumWhole.j1 kj3 a0 a1 a2 false false) else (if 0 < (a0.size : Int) then (spec_NumWhole.j1 kj3 a0 a1 a2 false ((bt a0 0) == 43)) else (none))) = some (r1, r2) := by rw [if_neg (show ¬ (false = true) by decide)] at H; exact H
          clear H
          have H := H1
          clear H1
          by_cases c10 : a0.toList = ([] : List UInt8)
          · rw [if_pos c10] at H
            have c10b0 : (a0.toList == ([] : List UInt8)) = true := beq_iff_eq.mpr c10
            have c10b1 : (a0.toList != ([] : List UInt8)) = false := bne_eq_false_iff_eq.mpr c10
            clear c10
            (first | rw [c10b0] | (simp only [i64_w, i32_w]; rw [c10b0]) | skip)
            have H' := Aside0.mk H
            clear H
            go_wp2
            go_meet
            case rel => exact ⟨_, (false), (by first | rfl | (simp; done) | (simp [*]; done)), H', ⟨by have := HJ3.out; first | omega | exact Nat.le_refl _⟩, by repeat (first | exact Drawn0.refl _ | apply Drawn0.step)⟩
          · rw [if_neg c10] at H
            have c10b0 : (a0.toList == ([] : List UInt8)) = false := beq_eq_false_iff_ne.mpr c10
            have c10b1 : (a0.toList != ([] : List UInt8)) = true := bne_iff_ne.mpr c10
            (first | rw [c10b0] | (simp only [i64_w, i32_w]; rw [c10b0]) | skip)
            by_cases c11 : 0 < (a0.size : Int)
            · rw [if_pos c11] at H
              have c11b0 : decide (0 < (a0.size : Int)) = true := decide_eq_true c11
              have c11b1 : decide (0 < a0.size) = true := decide_eq_true (by omega)
              clear c11
              have H' := Aside0.mk H
              clear H
              have p12 : 0 ≤ (0 : Int) := (by omega)
              have q12 : 0 < a0.size := (by have : (0 : Int) < (a0.size : Int) := of_decide_eq_true (by first | (with_reducible assumption) | assumption); omega)
              have hx12 : ∀ h : 0 < a0.size, ((a0[0]'h).toNat : Int) = bt a0 0 := bt_at a0 0
              clear p12
              have qi12 : (0 < (a0.size : Int)) = True := eq_true (of_decide_eq_true (by first | (with_reducible assumption) | assumption))
              replace q12 := eq_true q12
              go_wp2
              go_meet
              case rel => exact ⟨_, (((bt a0 0) == 43)), (by first | rfl | (simp; done) | (simp [*]; done)), H', ⟨by have := HJ3.out; first | omega | exact Nat.le_refl _⟩, by repeat (first | exact Drawn0.refl _ | apply Drawn0.step)⟩
            · rw [if_neg c11] at H
              exact absurd H (by simp)
      case rest =>
        clear HC8
        try clear c1
        try clear p1
        try clear q1
        try clear hx1
        try clear qi1
        try clear p2
        try clear c3
        try clear c5
        try clear c5b0
        try clear c5b1
        try clear c6
        try clear c6b0
        try clear c6b1
        try clear p7
        try clear q7
        try clear hx7
        try clear qi7
        try clear c8
        try clear c9
        try clear c10
        try clear c10b0
        try clear c10b1
        try clear c11
        try clear c11b0
        try clear c11b1
        try clear p12
        try clear q12
        try clear hx12
        try clear qi12
        try clear p12
        try clear p2
        try clear p7
        try clear q12
        try clear q7
        obtain ⟨kq, x28_7, rfl, HA, HJ7, ⟨mc7, rfl⟩⟩ := hcut
        cases kq with
        | zero => exact absurd HA.out (by simp [spec_NumWhole.j1])
        | succ kj7 =>
          have H := HA.out
          clear HA
          simp only [spec_NumWhole.j1] at H
          have HC13 := Aside0.mk H
          clear H
          go_upto_if 28 with (fail)
          go_cut [0] (fun v0 wc => ∃ (kq : Nat) (x0_12 : ByteArray), v0 = .string x0_12 ∧ Aside0 (spec_NumWhole.j2 kq x0_12 a1 a2 x8_3 = some (r1, r2)) ∧ Aside0 (kq ≤ kj7) ∧ Drawn0 w wc)
          case first =>
            have H := HC13.out
            clear HC13
            by_cases c14 : x28_7 = true
            · subst c14
              have H1 : (if 1 ≤ (a0.size : Int) then (spec_NumWhole.j2 kj7 (a0.extract 1 a0.size) a1 a2 x8_3) else (none)) = some (r1, r2) := by rw [if_pos rfl] at H; exact H
              clear H
              have H := H1
              clear H1
              by_cases c15 : 1 ≤ (a0.size : Int)
              · rw [if_pos c15] at H
                have c15b0 := eq_true c15
                have c15b1 : decide (1 ≤ (a0.size : Int)) = true := decide_eq_true c15
                clear c15
                have H' := Aside0.mk H
                clear H
                go_wp2
                go_meet
                case rel => exact ⟨_, (a0.extract 1 a0.size), (by first | rfl | (simp; done) | (simp [*]; done)), H', ⟨by have := HJ3.out; have := HJ7.out; first | omega | exact Nat.le_refl _⟩, by repeat (first | exact Drawn0.refl _ | apply Drawn0.step)⟩
              · rw [if_neg c15] at H
                exact absurd H (by simp)
            · replace c14 := Bool.eq_false_iff.mpr c14
              subst c14
              have H1 : (spec_NumWhole.j2 kj7 a0 a1 a2 x8_3) = some (r1, r2) := by rw [if_neg (show ¬ (false = true) by decide)] at H; exact H
              clear H
              have H := H1
              clear H1
              have H' := Aside0.mk H
              clear H
              go_wp2
              go_meet
              case rel => exact ⟨_, (a0), (by first | rfl | (simp; done) | (simp [*]; done)), H', ⟨by have := HJ3.out; have := HJ7.out; first | omega | exact Nat.le_refl _⟩, by repeat (first | exact Drawn0.refl _ | apply Drawn0.step)⟩
          case rest =>
            clear HC13
            try clear c1
            try clear p1
            try clear q1
            try clear hx1
            try clear qi1
            try clear p2
            try clear c3
            try clear c5
            try clear c5b0
            try clear c5b1
            try clear c6
            try clear c6b0
            try clear c6b1
            try clear c7
            try clear p7
            try clear q7
            try clear hx7
            try clear qi7
            try clear c8
            try clear c9
            try clear c10
            try clear c10b0
            try clear c10b1
            try clear c11
            try clear c11b0
            try clear c11b1
            try clear p12
            try clear q12
            try clear hx12
            try clear qi12
            try clear c14
            try clear c15
            try clear c15b0
            try clear c15b1
            try clear p1
            try clear p12
            try clear p2
            try clear p7
            try clear q1
            try clear q12
            try clear q7
            obtain ⟨kq, x0_12, rfl, HA, HJ12, ⟨mc12, rfl⟩⟩ := hcut
            cases kq with
            | zero => exact absurd HA.out (by simp [spec_NumWhole.j2])
            | succ kj12 =>
              have H := HA.out
              clear HA
              simp only [spec_NumWhole.j2] at H
              by_cases c16 : x0_12.toList = ([] : List UInt8)
              · rw [if_pos c16] at H
                have c16b0 : (x0_12.toList == ([] : List UInt8)) = true := beq_iff_eq.mpr c16
                have c16b1 : (x0_12.toList != ([] : List UInt8)) = false := bne_eq_false_iff_eq.mpr c16
                clear c16
                simp only [Option.some.injEq, Prod.mk.injEq] at H
                obtain ⟨rfl, rfl⟩ := H
                go_wp2
                go_ret2
                exact ⟨by first | rfl | (simp; done) | (simp [*]; done), by repeat (first | exact Drawn0.refl _ | apply Drawn0.step)⟩
              · rw [if_neg c16] at H
                have c16b0 : (x0_12.toList == ([] : List UInt8)) = false := beq_eq_false_iff_ne.mpr c16
                have c16b1 : (x0_12.toList != ([] : List UInt8)) = true := bne_iff_ne.mpr c16
                have H' := Aside0.mk H
                clear H
                go_wp2
                go_loopg [9, 10] kj12 (fun kq v9 v10 w' => ∃ (x9_4 : Int) (x10_4 : Int), v9 = .int .i64 x9_4 ∧ v10 = .int .i64 x10_4 ∧ Aside0 (spec_NumWhole.l0 kq x0_12 a1 a2 x8_3 x9_4 x10_4 = some (r1, r2)) ∧ Aside0 (kq ≤ kj12) ∧ Drawn0 w w')
                case atStart => exact ⟨(0), (0), (by first | rfl | (simp; done) | (simp [*]; done)), (by first | rfl | (simp; done) | (simp [*]; done)), H', ⟨Nat.le_refl _⟩, by repeat (first | exact Drawn0.refl _ | apply Drawn0.step)⟩
                case round =>
                  clear H'
                  try clear c1
                  try clear p1
                  try clear q1
                  try clear hx1
                  try clear qi1
                  try clear p2
                  try clear c3
                  try clear c5
                  try clear c5b0
                  try clear c5b1
                  try clear c6
                  try clear c6b0
                  try clear c6b1
                  try clear c7
                  try clear p7
                  try clear q7
                  try clear hx7
                  try clear qi7
                  try clear c8
                  try clear c9
                  try clear c10
                  try clear c10b0
                  try clear c10b1
                  try clear c11
                  try clear c11b0
                  try clear c11b1
                  try clear c12
                  try clear p12
                  try clear q12
                  try clear hx12
                  try clear qi12
                  try clear c14
                  try clear c15
                  try clear c15b0
                  try clear c15b1
                  try clear c16
                  try clear c16b0
                  try clear c16b1
                  try clear p1
                  try clear p12
                  try clear p2
                  try clear p7
                  try clear q1
                  try clear q12
                  try clear q7
                  obtain ⟨x9_4, x10_4, rfl, rfl, HA, HK4, ⟨m4, rfl⟩⟩ := hrel
                  cases gk with
                  | zero => exact absurd HA.out (by simp [spec_NumWhole.l0])
                  | succ k4 =>
                    have H := HA.out
                    clear HA
                    simp only [spec_NumWhole.l0] at H
                    by_cases c17 : x10_4 < (x0_12.size : Int)
                    · rw [if_pos c17] at H
                      have c17b0 : decide (x10_4 < (x0_12.size : Int)) = true := decide_eq_true c17
                      clear c17
                      by_cases c18 : 0 ≤ x10_4
                      · rw [if_pos c18] at H
                        have c18b0 : decide (0 ≤ x10_4) = true := decide_eq_true c18
                        clear c18
                        have HC20 := Aside0.mk H
                        clear H
                        have p19 : 0 ≤ (x10_4 : Int) := of_decide_eq_true (by first | (with_reducible assumption) | assumption)
                        have q19 : x10_4 < (x0_12.size : Int) := of_decide_eq_true (by first | (with_reducible assumption) | assumption)
                        have hx19 := bt_at x0_12 x10_4
                        replace p19 := eq_true p19
                        replace q19 := eq_true q19
                        go_upto_region 11 with (fail)
                        go_cut [49] (fun v49 wc => ∃ (kq : Nat) (x49_19 : Bool), v49 = .bool x49_19 ∧ Aside0 (spec_NumWhole.j4 kq x0_12 a1 a2 x8_3 x9_4 x10_4 (wrap64 ((wrap64 (bt x0_12 x10_4)) - 48)) x49_19 = some (r1, r2)) ∧ Aside0 (kq ≤ k4) ∧ Drawn0 w wc)
                        case first =>
                          have H := HC20.out
                          clear HC20
                          by_cases c21 : (wrap64 ((wrap64 (bt x0_12 x10_4)) - 48)) < 0
                          · rw [if_pos c21] at H
                            have c21b0 : decide ((wrap64 ((wrap64 (bt x0_12 x10_4)) - 48)) < 0) = true := decide_eq_true c21
                            clear c21
                            (first | rw [c21b0] | (simp only [i64_w, i32_w]; rw [c21b0]) | skip)
                            have H' := Aside0.mk H
                            clear H
                            go_wp2
                            go_meet
                            case rel => exact ⟨_, (true), (by first | rfl | (simp; done) | (simp [*]; done)), H', ⟨by have := HJ3.out; have := HJ7.out; have := HJ12.out; have := HK4.out; first | omega | exact Nat.le_refl _⟩, by repeat (first | exact Drawn0.refl _ | apply Drawn0.step)⟩
                          · rw [if_neg c21] at H
                            have c21b0 : decide ((wrap64 ((wrap64 (bt x0_12 x10_4)) - 48)) < 0) = false := decide_eq_false c21
                            clear c21
                            (first | rw [c21b0] | (simp only [i64_w, i32_w]; rw [c21b0]) | skip)
                            have H' := Aside0.mk H
                            clear H
                            go_wp2
                            go_meet
                            case rel => exact ⟨_, (decide ((wrap64 ((wrap64 (bt x0_12 x10_4)) - 48)) > 9)), (by first | rfl | (simp; done) | (simp [*]; done)), H', ⟨by have := HJ3.out; have := HJ7.out; have := HJ12.out; have := HK4.out; first | omega | exact Nat.le_refl _⟩, by repeat (first | exact Drawn0.refl _ | apply Drawn0.step)⟩
                        case rest =>
                          clear HC20
                          try clear c1
                          try clear p1
                          try clear q1
                          try clear hx1
                          try clear qi1
                          try clear c2
                          try clear p2
                          try clear c3
                          try clear c5
                          try clear c5b0
                          try clear c5b1
                          try clear c6
                          try clear c6b0
                          try clear c6b1
                          try clear p6
                          try clear c7
                          try clear p7
                          try clear q7
                          try clear hx7
                          try clear qi7
                          try clear c8
                          try clear c9
                          try clear c10
                          try clear c10b0
                          try clear c10b1
                          try clear c11
                          try clear c11b0
                          try clear c11b1
                          try clear c12
                          try clear p12
                          try clear q12
                          try clear hx12
                          try clear qi12
                          try clear c14
                          try clear c15
                          try clear c15b0
                          try clear c15b1
                          try clear c16
                          try clear c16b0
                          try clear c16b1
                          try clear c17
                          try clear c17b0
                          try clear c18
                          try clear c18b0
                          try clear p19
                          try clear q19
                          try clear hx19
                          try clear c21
                          try clear c21b0
                          try clear p1
                          try clear p12
                          try clear p19
                          try clear p2
                          try clear p7
                          try clear q1
                          try clear q12
                          try clear q19
                          try clear q7
                          obtain ⟨kq, x49_19, rfl, HA, HJ19, ⟨mc19, rfl⟩⟩ := hcut
                          cases kq with
                          | zero => exact absurd HA.out (by simp [spec_NumWhole.j4])
                          | succ kj19 =>
                            have H := HA.out
                            clear HA
                            simp only [spec_NumWhole.j4] at H
                            by_cases c22 : x49_19 = true
                            · subst c22
                              have H1 : (some (0, false)) = some (r1, r2) := by rw [if_pos rfl] at H; exact H
                              clear H
                              have H := H1
                              clear H1
                              simp only [Option.some.injEq, Prod.mk.injEq] at H
                              obtain ⟨rfl, rfl⟩ := H
                              go_wp2
                              go_ret2
                              exact ⟨by first | rfl | (simp; done) | (simp [*]; done), by repeat (first | exact Drawn0.refl _ | apply Drawn0.step)⟩
                            · replace c22 := Bool.eq_false_iff.mpr c22
                              subst c22
                              have H1 : (if x8_3 = true then (if x9_4 < (wrap64 (Int.tdiv (wrap64 (a1 + (wrap64 ((wrap64 (bt x0_12 x10_4)) - 48)))) 10)) then (some (0, false)) else (spec_NumWhole.l0 kj19 x0_12 a1 a2 x8_3 (wrap64 ((wrap64 (10 * x9_4)) - (wrap64 ((wrap64 (bt x0_12 x10_4)) - 48)))) (wrap64 (x10_4 + 1)))) else (if x9_4 > (wrap64 (Int.tdiv (wrap64 (a2 - (wrap64 ((wrap64 (bt x0_12 x10_4)) - 48)))) 10)) then (some (0, false)) else (spec_NumWhole.l0 kj19 x0_12 a1 a2 x8_3 (wrap64 ((wrap64 (10 * x9_4)) + (wrap64 ((wrap64 (bt x0_12 x10_4)) - 48)))) (wrap64 (x10_4 + 1))))) = some (r1, r2) := by rw [if_neg (show ¬ (false = true) by decide)] at H; exact H
                              clear H
                              have H := H1
                              clear H1
                              by_cases c23 : x8_3 = true
                              · subst c23
                                have H1 : (if x9_4 < (wrap64 (Int.tdiv (wrap64 (a1 + (wrap64 ((wrap64 (bt x0_12 x10_4)) - 48)))) 10)) then (some (0, false)) else (spec_NumWhole.l0 kj19 x0_12 a1 a2 true (wrap64 ((wrap64 (10 * x9_4)) - (wrap64 ((wrap64 (bt x0_12 x10_4)) - 48)))) (wrap64 (x10_4 + 1)))) = some (r1, r2) := by rw [if_pos rfl] at H; exact H
                                clear H
                                have H := H1
                                clear H1
                                by_cases c24 : x9_4 < (wrap64 (Int.tdiv (wrap64 (a1 + (wrap64 ((wrap64 (bt x0_12 x10_4)) - 48)))) 10))
                                · rw [if_pos c24] at H
                                  have c24b0 : decide (x9_4 < (wrap64 (Int.tdiv (wrap64 (a1 + (wrap64 ((wrap64 (bt x0_12 x10_4)) - 48)))) 10))) = true := decide_eq_true c24
                                  clear c24
                                  simp only [Option.some.injEq, Prod.mk.injEq] at H
                                  obtain ⟨rfl, rfl⟩ := H
                                  go_wp2
                                  go_ret2
                                  exact ⟨by first | rfl | (simp; done) | (simp [*]; done), by repeat (first | exact Drawn0.refl _ | apply Drawn0.step)⟩
                                · rw [if_neg c24] at H
                                  have c24b0 : decide (x9_4 < (wrap64 (Int.tdiv (wrap64 (a1 + (wrap64 ((wrap64 (bt x0_12 x10_4)) - 48)))) 10))) = false := decide_eq_false c24
                                  clear c24
                                  have H' := Aside0.mk H
                                  clear H
                                  go_wp2
                                  go_roundg kj19
                                  case measure => have := HJ3.out; have := HJ7.out; have := HJ12.out; have := HK4.out; have := HJ19.out; omega
                                  case rel => exact ⟨(wrap64 ((wrap64 (10 * x9_4)) - (wrap64 ((wrap64 (bt x0_12 x10_4)) - 48)))), (wrap64 (x10_4 + 1)), (by first | rfl | (simp; done) | (simp [*]; done)), (by first | rfl | (simp; done) | (simp [*]; done)), H', ⟨by have := HJ3.out; have := HJ7.out; have := HJ12.out; have := HK4.out; have := HJ19.out; omega⟩, by repeat (first | exact Drawn0.refl _ | apply Drawn0.step)⟩
                              · replace c23 := Bool.eq_false_iff.mpr c23
                                subst c23
                                have H1 : (if x9_4 > (wrap64 (Int.tdiv (wrap64 (a2 - (wrap64 ((wrap64 (bt x0_12 x10_4)) - 48)))) 10)) then (some (0, false)) else (spec_NumWhole.l0 kj19 x0_12 a1 a2 false (wrap64 ((wrap64 (10 * x9_4)) + (wrap64 ((wrap64 (bt x0_12 x10_4)) - 48)))) (wrap64 (x10_4 + 1)))) = some (r1, r2) := by rw [if_neg (show ¬ (false = true) by decide)] at H; exact H
                                clear H
                                have H := H1
                                clear H1
                                by_cases c25 : x9_4 > (wrap64 (Int.tdiv (wrap64 (a2 - (wrap64 ((wrap64 (bt x0_12 x10_4)) - 48)))) 10))
                                · rw [if_pos c25] at H
                                  have c25b0 : decide ((wrap64 (Int.tdiv (wrap64 (a2 - (wrap64 ((wrap64 (bt x0_12 x10_4)) - 48)))) 10)) < x9_4) = true := decide_eq_true c25
                                  clear c25
                                  simp only [Option.some.injEq, Prod.mk.injEq] at H
                                  obtain ⟨rfl, rfl⟩ := H
                                  go_wp2
                                  go_ret2
                                  exact ⟨by first | rfl | (simp; done) | (simp [*]; done), by repeat (first | exact Drawn0.refl _ | apply Drawn0.step)⟩
                                · rw [if_neg c25] at H
                                  have c25b0 : decide ((wrap64 (Int.tdiv (wrap64 (a2 - (wrap64 ((wrap64 (bt x0_12 x10_4)) - 48)))) 10)) < x9_4) = false := decide_eq_false c25
                                  clear c25
                                  have H' := Aside0.mk H
                                  clear H
                                  go_wp2
                                  go_roundg kj19
                                  case measure => have := HJ3.out; have := HJ7.out; have := HJ12.out; have := HK4.out; have := HJ19.out; omega
                                  case rel => exact ⟨(wrap64 ((wrap64 (10 * x9_4)) + (wrap64 ((wrap64 (bt x0_12 x10_4)) - 48)))), (wrap64 (x10_4 + 1)), (by first | rfl | (simp; done) | (simp [*]; done)), (by first | rfl | (simp; done) | (simp [*]; done)), H', ⟨by have := HJ3.out; have := HJ7.out; have := HJ12.out; have := HK4.out; have := HJ19.out; omega⟩, by repeat (first | exact Drawn0.refl _ | apply Drawn0.step)⟩
                      · rw [if_neg c18] at H
                        exact absurd H (by simp)
                    · rw [if_neg c17] at H
                      have c17b0 : decide (x10_4 < (x0_12.size : Int)) = false := decide_eq_false c17
                      clear c17
                      by_cases c26 : x9_4 ≥ a1
                      · rw [if_pos c26] at H
                        have c26b0 : decide (a1 ≤ x9_4) = true := decide_eq_true c26
                        clear c26
                        simp only [Option.some.injEq, Prod.mk.injEq] at H
                        obtain ⟨rfl, rfl⟩ := H
                        go_wp2
                        go_ret2
                        exact ⟨by first | rfl | (simp; done) | (simp [*]; done), by repeat (first | exact Drawn0.refl _ | apply Drawn0.step)⟩
                      · rw [if_neg c26] at H
                        have c26b0 : decide (a1 ≤ x9_4) = false := decide_eq_false c26
                        clear c26
                        simp only [Option.some.injEq, Prod.mk.injEq] at H
                        obtain ⟨rfl, rfl⟩ := H
                        go_wp2
                        go_ret2
                        exact ⟨by first | rfl | (simp; done) | (simp [*]; done), by repeat (first | exact Drawn0.refl _ | apply Drawn0.step)⟩

end Go.Proofs.YtmkpkpkcoieeiaaDoor.XFnIntStrParse
