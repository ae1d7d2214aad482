/- A text of this session: the functions of the law FnFieldAgain, by a program that calls the kit's print and lays this session's own contracts of single functions beside. -/
import Derived.Test.YtccdnmachpepcaaDoorXFnFieldAgainx0
import Derived.Test.YtccdnmachpepcaaDoorXFnFieldAgainx1
namespace Go.Proofs.YtccdnmachpepcaaDoor.XFnFieldAgain
open Go.RowKit Go.Proofs.YtccdnmachpepcaaDoorW.PrintWords Go.Proofs.YtccdnmachpepcaaDoorW.PrintLast Go.Proofs.YtccdnmachpepcaaDoorW.PrintMore
attribute [local go_sem] max2_int min2_int max_two min_two max_three min_three max_four min_four   -- for this text's walks alone
set_option linter.unusedVariables false
set_option linter.unusedSimpArgs false

attribute [local go_sem high] eqA50
/-! ### laws_plainText: function 6 -/
def laws_plainText.f (_ : Nat) (a0 : ByteArray) : Option Bool := if a0.size ≤ 1099511627775 then some (FuM.pt a0) else none
theorem laws_plainText.mono : ∀ a0 k, LeO (laws_plainText.f k a0) (laws_plainText.f (k + 1) a0) := by
  intro a0 k
  exact LeO.refl _
theorem laws_plainText.calls (k : Nat) (a0 : ByteArray) (r : Bool) (w : World) (h : laws_plainText.f k a0 = some r) :
    Calls Tryd.prog 6 #[.string a0] w fun e w' => e = .returned (.bool r) ∧ Below w.heap.size w w' := by
  unfold laws_plainText.f at h
  split at h
  · rename_i hb
    obtain rfl := Option.some.inj h
    exact FuP.plain_calls a0 (Nat.le_trans hb (by decide)) w
  · cases h

-- NOT PRINTED: function 25 (fields_splitTerms)

-- NOT PRINTED: function 45 (bits_Len32)

-- NOT PRINTED: function 46 (bits_Len64)

-- NOT PRINTED: function 37 (bits_Len)

-- NOT PRINTED: function 47 (sort_insertionSort)

-- NOT PRINTED: function 59 (sort_siftDown)

-- NOT PRINTED: function 48 (sort_heapSort)

-- NOT PRINTED: function 60 (sort_nextPowerOfTwo)

-- NOT PRINTED: function 61 (sort_xorshift_Next)

-- NOT PRINTED: function 49 (sort_breakPatterns)

-- NOT PRINTED: function 65 (sort_order2)

-- NOT PRINTED: function 63 (sort_median)

-- NOT PRINTED: function 62 (sort_medianAdjacent)

-- NOT PRINTED: function 50 (sort_choosePivot)

-- NOT PRINTED: function 51 (sort_reverseRange)

-- NOT PRINTED: function 52 (sort_partialInsertionSort)

-- NOT PRINTED: function 53 (sort_partitionEqual)

-- NOT PRINTED: function 54 (sort_partition)

-- NOT PRINTED: function 38 (sort_pdqsort)

-- NOT PRINTED: function 31 (sort_Sort)

-- NOT PRINTED: function 26 (sort_StringSlice_Sort)

-- NOT PRINTED: function 39 (stringslite_HasPrefix)

-- NOT PRINTED: function 32 (strings_HasPrefix)

-- NOT PRINTED: function 27 (fields_splitTerm)

-- NOT PRINTED: function 28 (errors_New)

-- NOT PRINTED: function 40 (fields_zzIndexAny)

-- NOT PRINTED: function 33 (fields_zzContainsAny)

-- NOT PRINTED: function 34 (bytes_NewBuffer)

-- NOT PRINTED: function 42 (bytes_Buffer_tryGrowByReslice)

-- NOT PRINTED: function 55 (bytes_Buffer_Len)

-- NOT PRINTED: function 56 (bytes_Buffer_Reset)

-- NOT PRINTED: function 57 (bytes_growSlice)

-- NOT PRINTED: function 43 (bytes_Buffer_grow)

-- NOT PRINTED: function 41 (bytes_Buffer_WriteByte)

-- NOT PRINTED: function 58 (utf8_appendRuneNonASCII)

-- NOT PRINTED: function 44 (utf8_AppendRune)

-- NOT PRINTED: function 35 (bytes_Buffer_WriteRune)

-- NOT PRINTED: function 36 (bytes_Buffer_String)

-- NOT PRINTED: function 29 (fields_UnescapeValue)

-- NOT PRINTED: function 30 (fields_andTerm_Transform)

-- NOT PRINTED: function 23 (fields_parseSelector)

-- NOT PRINTED: function 19 (fields_ParseSelector)

-- NOT PRINTED: function 21 (impl_terms)

/-! ### impl_FieldParse: function 12 -/
def toS (t : FsK.Tm) : S50 := ⟨t.f, FtR.opOf t, t.v⟩
theorem toS_R {e : Nat} {w : World} {base : Nat} {ok : Nat → Prop} {v : Value} {ts : List FsK.Tm} (h : Kd.R FtT.kt e w base ok v ts) : Kd.R k50 e w base ok v (ts.map toS) := by
  obtain ⟨hok, inner, how, hr⟩ := h
  refine ⟨hok, inner, by rw [List.length_map]; exact how, by rw [List.length_map]; exact hr.1, fun j p hp => ?_⟩
  rw [List.getElem?_map] at hp
  cases hq : ts[j]? with
  | none => rw [hq] at hp; cases hp
  | some q =>
    rw [hq] at hp
    obtain rfl := Option.some.inj hp
    exact hr.2 j q hq
instance fitDec (ts : List FsK.Tm) : Decidable (FtP.Fit ts) := by unfold FtP.Fit; infer_instance
def impl_FieldParse.f (_ : Nat) (a0 : ByteArray) : Option (List S50 × ByteArray × Bool) := if a0.size ≤ 1099511627775 ∧ FuM.pt a0 = true then (match FsQ.termsOf a0 with | none => some ([], ⟨#[]⟩, true) | some ts => if FtP.Fit ts then some (ts.map toS, FtS.strL ts, false) else none) else none
theorem impl_FieldParse.mono : ∀ a0 k, LeO (impl_FieldParse.f k a0) (impl_FieldParse.f (k + 1) a0) := fun _ _ => LeO.refl _
theorem impl_FieldParse.calls (k : Nat) (a0 : ByteArray) (r1 : List S50) (r2 : ByteArray) (r3 : Bool) (w : World) (h : impl_FieldParse.f k a0 = some (r1, r2, r3)) :
    Calls Tryd.prog 12 #[.string a0] w fun e w' => ∃ v0_ : Value, e = .returned (.tuple #[v0_, .string r2, .bool r3]) ∧ Kd.R k50 50 w' w.heap.size (fun _ => True) v0_ r1 ∧ Below w.heap.size w w' := by
  unfold impl_FieldParse.f at h
  split at h
  · rename_i hb
    have hc := FtP.fp_calls a0 hb.1 hb.2
    cases hr : FsQ.termsOf a0 with
    | none =>
      rw [hr] at h
      have h2 := Option.some.inj h
      cases h2
      refine (hc (fun ts ht => by rw [hr] at ht; cases ht) w).mono ?_
      rintro e w' ⟨hf, hb⟩
      rw [hr] at hf
      exact ⟨_, hf, Kd.R_nil _ _ _ _ _, hb⟩
    | some ts =>
      rw [hr] at h
      simp only at h
      split at h
      · rename_i hF
        have h2 := Option.some.inj h
        cases h2
        refine (hc (fun ts' ht => by rw [hr] at ht; cases ht; exact hF) w).mono ?_
        rintro e w' ⟨hf, hb⟩
        rw [hr] at hf
        obtain ⟨u, he, hD⟩ := hf
        exact ⟨u, he, toS_R hD, hb⟩
      · cases h
  · cases h

/-! ### spec_TermsRow: function 13 -/
mutual
def spec_TermsRow.l0 : Nat → List (S50) → List (S50) → Int → Option (Bool)
  | 0, _, _, _ => none
  | k + 1, x0, x1, x5 => if x5 < (x0.length : Int) then (spec_TermsRow.l1 k x0 x1 x5 0 0 0) else (some true)
def spec_TermsRow.l1 : Nat → List (S50) → List (S50) → Int → Int → Int → Int → Option (Bool)
  | 0, _, _, _, _, _, _ => none
  | k + 1, x0, x1, x5, x6, x7, x8 => if x8 < (x0.length : Int) then (if 0 ≤ x5 then (if x5 < (x0.length : Int) then (if 0 ≤ x8 then (if ((((rd_T50 x0 x5).f0).toList) == (((rd_T50 x0 x8).f0).toList) && ((((rd_T50 x0 x5).f1).toList) == (((rd_T50 x0 x8).f1).toList) && ((((rd_T50 x0 x5).f2).toList) == (((rd_T50 x0 x8).f2).toList)))) = true then (if x8 < (x1.length : Int) then (if ((((rd_T50 x0 x5).f0).toList) == (((rd_T50 x1 x8).f0).toList) && ((((rd_T50 x0 x5).f1).toList) == (((rd_T50 x1 x8).f1).toList) && ((((rd_T50 x0 x5).f2).toList) == (((rd_T50 x1 x8).f2).toList)))) = true then (spec_TermsRow.l1 k x0 x1 x5 (wrap64 (x6 + 1)) (wrap64 (x7 + 1)) (wrap64 (x8 + 1))) else (spec_TermsRow.l1 k x0 x1 x5 (wrap64 (x6 + 1)) x7 (wrap64 (x8 + 1)))) else (none)) else (if x8 < (x1.length : Int) then (if ((((rd_T50 x0 x5).f0).toList) == (((rd_T50 x1 x8).f0).toList) && ((((rd_T50 x0 x5).f1).toList) == (((rd_T50 x1 x8).f1).toList) && ((((rd_T50 x0 x5).f2).toList) == (((rd_T50 x1 x8).f2).toList)))) = true then (spec_TermsRow.l1 k x0 x1 x5 x6 (wrap64 (x7 + 1)) (wrap64 (x8 + 1))) else (spec_TermsRow.l1 k x0 x1 x5 x6 x7 (wrap64 (x8 + 1)))) else (none))) else (none)) else (none)) else (none)) else (if x6 = x7 then (spec_TermsRow.l0 k x0 x1 (wrap64 (x5 + 1))) else (some false))
end
def spec_TermsRow.f (k : Nat) (l0 : List (S50)) (l1 : List (S50)) : Option (Bool) := if (l0.length : Int) = (l1.length : Int) then (spec_TermsRow.l0 k l0 l1 0) else (some false)
theorem spec_TermsRow.mono_l : ∀ k, (∀ y0 y1 y2, LeO (spec_TermsRow.l0 k y0 y1 y2) (spec_TermsRow.l0 (k + 1) y0 y1 y2)) ∧ (∀ y0 y1 y2 y3 y4 y5, LeO (spec_TermsRow.l1 k y0 y1 y2 y3 y4 y5) (spec_TermsRow.l1 (k + 1) y0 y1 y2 y3 y4 y5))
  | 0 => ⟨fun _ _ _ r h => by simp [spec_TermsRow.l0] at h, fun _ _ _ _ _ _ r h => by simp [spec_TermsRow.l1] at h⟩
  | k + 1 => by
    obtain ⟨ih0, ih1⟩ := spec_TermsRow.mono_l k
    refine ⟨?_, ?_⟩
    · intro y0 y1 y2
      unfold spec_TermsRow.l0
      repeat' first
      | (with_reducible exact ih0 _ _ _)
      | (with_reducible exact ih1 _ _ _ _ _ _)
      | (with_reducible exact LeO.refl _)
      | (with_reducible exact LeO.none _)
      | (with_reducible refine LeO.ite ?_ ?_)
      | (with_reducible refine LeO.bind ?_ (fun _ => ?_))
      | exact ih0 _ _ _
      | exact ih1 _ _ _ _ _ _
      | exact LeO.none _
      | refine LeO.ite ?_ ?_
      | refine LeO.bind ?_ (fun _ => ?_)
    · intro y0 y1 y2 y3 y4 y5
      unfold spec_TermsRow.l1
      repeat' first
      | (with_reducible exact ih0 _ _ _)
      | (with_reducible exact ih1 _ _ _ _ _ _)
      | (with_reducible exact LeO.refl _)
      | (with_reducible exact LeO.none _)
      | (with_reducible refine LeO.ite ?_ ?_)
      | (with_reducible refine LeO.bind ?_ (fun _ => ?_))
      | exact ih0 _ _ _
      | exact ih1 _ _ _ _ _ _
      | exact LeO.none _
      | refine LeO.ite ?_ ?_
      | refine LeO.bind ?_ (fun _ => ?_)
theorem spec_TermsRow.mono : ∀ a0 a1 k, LeO (spec_TermsRow.f k a0 a1) (spec_TermsRow.f (k + 1) a0 a1) := by
  intro a0 a1 k
  obtain ⟨ih0, ih1⟩ := spec_TermsRow.mono_l k
  unfold spec_TermsRow.f
  repeat' first
      | (with_reducible exact ih0 _ _ _)
      | (with_reducible exact ih1 _ _ _ _ _ _)
      | (with_reducible exact LeO.refl _)
      | (with_reducible exact LeO.none _)
      | (with_reducible refine LeO.ite ?_ ?_)
      | (with_reducible refine LeO.bind ?_ (fun _ => ?_))
      | exact ih0 _ _ _
      | exact ih1 _ _ _ _ _ _
      | exact LeO.none _
      | refine LeO.ite ?_ ?_
      | refine LeO.bind ?_ (fun _ => ?_)
set_option maxHeartbeats 8000000 in
set_option maxRecDepth 100000 in
theorem spec_TermsRow.calls (k : Nat) (A0 : Option Addr) (c0 : Nat) (l0 : List (S50)) (A1 : Option Addr) (c1 : Nat) (l1 : List (S50)) (r : Bool) (w : World) (hr0 : Kd.C k50 w A0 l0.length l0) (hc0 : l0.length ≤ c0) (hr1 : Kd.C k50 w A1 l1.length l1) (hc1 : l1.length ≤ c1) (h : spec_TermsRow.f k l0 l1 = some r) :
    Calls Tryd.prog 13 #[.slice A0 l0.length c0, .slice A1 l1.length c1] w fun e w' => e = .returned (.bool r) ∧ Drawn0 w w' := by
  have hu50 := Tryd.underlying50
  have HR0 := Aside0.mk hr0
  have HC0 := Aside0.mk hc0
  clear hr0 hc0
  have HR1 := Aside0.mk hr1
  have HC1 := Aside0.mk hc1
  clear hr1 hc1
  have H : (if (l0.length : Int) = (l1.length : Int) then (spec_TermsRow.l0 k l0 l1 0) else (some false)) = some r := h
  clear h
  by_cases c3 : (l0.length : Int) = (l1.length : Int)
  · rw [if_pos c3] at H
    have c3b0 : ((l0.length : Int) == (l1.length : Int)) = true := beq_iff_eq.mpr c3
    have c3b1 : ((l0.length : Int) != (l1.length : Int)) = false := bne_eq_false_iff_eq.mpr c3
    have c3b2 : (l0.length == l1.length) = true := by first | simpa using c3 | (simp at c3 ⊢; omega)
    clear c3
    have H' := Aside0.mk H
    clear H
    go_enter Tryd.func13, Tryd.ntmps13
    go_wp2
    repeat (go_quiet (fail); try go_wp2)
    go_loopg [5] k (fun kq v5 w' => ∃ (x5_1 : Int), v5 = .int .i64 x5_1 ∧ Aside0 (spec_TermsRow.l0 kq l0 l1 x5_1 = some r) ∧ Aside0 (kq ≤ k) ∧ Drawn0 w w')
    case atStart => exact ⟨(0), (by first | rfl | (simp; done) | (simp [*]; done)), H', ⟨Nat.le_refl _⟩, by repeat (first | exact Drawn0.refl _ | apply Drawn0.step)⟩
    case round =>
      clear H'
      try clear c1
      try clear p2
      try clear c3
      try clear c3b0
      try clear c3b1
      try clear c3b2
      obtain ⟨x5_1, rfl, HA, HK1, ⟨m1, rfl⟩⟩ := hrel
      cases gk with
      | zero => exact absurd HA.out (by simp [spec_TermsRow.l0])
      | succ k1 =>
        have H := HA.out
        clear HA
        simp only [spec_TermsRow.l0] at H
        by_cases c4 : x5_1 < (l0.length : Int)
        · rw [if_pos c4] at H
          have c4b0 : decide (x5_1 < (l0.length : Int)) = true := decide_eq_true c4
          clear c4
          have H' := Aside0.mk H
          clear H
          go_wp2
          repeat (go_quiet (fail); try go_wp2)
          go_loopg [6, 7, 8] k1 (fun kq v6 v7 v8 w' => ∃ (x6_2 : Int) (x7_2 : Int) (x8_2 : Int), v6 = .int .i64 x6_2 ∧ v7 = .int .i64 x7_2 ∧ v8 = .int .i64 x8_2 ∧ Aside0 (spec_TermsRow.l1 kq l0 l1 x5_1 x6_2 x7_2 x8_2 = some r) ∧ Aside0 (kq ≤ k1) ∧ Drawn0 w w')
          case atStart => exact ⟨(0), (0), (0), (by first | rfl | (simp; done) | (simp [*]; done)), (by first | rfl | (simp; done) | (simp [*]; done)), (by first | rfl | (simp; done) | (simp [*]; done)), H', ⟨Nat.le_refl _⟩, by repeat (first | exact Drawn0.refl _ | apply Drawn0.step)⟩
          case round =>
            clear H'
            try clear c1
            try clear p2
            try clear c3
            try clear c3b0
            try clear c3b1
            try clear c3b2
            try clear c4
            try clear c4b0
            try clear p2
            obtain ⟨x6_2, x7_2, x8_2, rfl, rfl, rfl, HA, HK2, ⟨m2, rfl⟩⟩ := hrel
            cases gk with
            | zero => exact absurd HA.out (by simp [spec_TermsRow.l1])
            | succ k2 =>
              have H := HA.out
              clear HA
              simp only [spec_TermsRow.l1] at H
              by_cases c5 : x8_2 < (l0.length : Int)
              · rw [if_pos c5] at H
                have c5b0 : decide (x8_2 < (l0.length : Int)) = true := decide_eq_true c5
                clear c5
                by_cases c6 : 0 ≤ x5_1
                · rw [if_pos c6] at H
                  have c6b0 : decide (0 ≤ x5_1) = true := decide_eq_true c6
                  clear c6
                  by_cases c7 : x5_1 < (l0.length : Int)
                  · rw [if_pos c7] at H
                    have c7b0 : decide (x5_1 < (l0.length : Int)) = true := decide_eq_true c7
                    clear c7
                    by_cases c8 : 0 ≤ x8_2
                    · rw [if_pos c8] at H
                      have c8b0 : decide (0 ≤ x8_2) = true := decide_eq_true c8
                      clear c8
                      by_cases c9 : ((((rd_T50 l0 x5_1).f0).toList) == (((rd_T50 l0 x8_2).f0).toList) && ((((rd_T50 l0 x5_1).f1).toList) == (((rd_T50 l0 x8_2).f1).toList) && ((((rd_T50 l0 x5_1).f2).toList) == (((rd_T50 l0 x8_2).f2).toList)))) = true
                      · rw [if_pos c9] at H
                        have c9b0 : ((((rd_T50 l0 x5_1).f0).toList) == (((rd_T50 l0 x8_2).f0).toList) && ((((rd_T50 l0 x5_1).f1).toList) == (((rd_T50 l0 x8_2).f1).toList) && ((((rd_T50 l0 x5_1).f2).toList) == (((rd_T50 l0 x8_2).f2).toList)))) = true := c9
                        (try (have c9b1 : decide ((((rd_T50 l0 x5_1).f0).toList) = (((rd_T50 l0 x8_2).f0).toList) && ((((rd_T50 l0 x5_1).f1).toList) == (((rd_T50 l0 x8_2).f1).toList) && ((((rd_T50 l0 x5_1).f2).toList) == (((rd_T50 l0 x8_2).f2).toList)))) = true := by simpa using c9))
                        (try (have c9b2 : ((((rd_T50 l0 x5_1).f0).toList) == (((rd_T50 l0 x8_2).f0).toList) && ((((rd_T50 l0 x5_1).f1).toList) == (((rd_T50 l0 x8_2).f1).toList) && ((((rd_T50 l0 x5_1).f2).toList) == (((rd_T50 l0 x8_2).f2).toList)))) = true := by simpa using c9))
                        clear c9
                        by_cases c10 : x8_2 < (l1.length : Int)
                        · rw [if_pos c10] at H
                          have c10b0 : decide (x8_2 < (l1.length : Int)) = true := decide_eq_true c10
                          clear c10
                          by_cases c11 : ((((rd_T50 l0 x5_1).f0).toList) == (((rd_T50 l1 x8_2).f0).toList) && ((((rd_T50 l0 x5_1).f1).toList) == (((rd_T50 l1 x8_2).f1).toList) && ((((rd_T50 l0 x5_1).f2).toList) == (((rd_T50 l1 x8_2).f2).toList)))) = true
                          · rw [if_pos c11] at H
                            have c11b0 : ((((rd_T50 l0 x5_1).f0).toList) == (((rd_T50 l1 x8_2).f0).toList) && ((((rd_T50 l0 x5_1).f1).toList) == (((rd_T50 l1 x8_2).f1).toList) && ((((rd_T50 l0 x5_1).f2).toList) == (((rd_T50 l1 x8_2).f2).toList)))) = true := c11
                            (try (have c11b1 : decide ((((rd_T50 l0 x5_1).f0).toList) = (((rd_T50 l1 x8_2).f0).toList) && ((((rd_T50 l0 x5_1).f1).toList) == (((rd_T50 l1 x8_2).f1).toList) && ((((rd_T50 l0 x5_1).f2).toList) == (((rd_T50 l1 x8_2).f2).toList)))) = true := by simpa using c11))
                            (try (have c11b2 : ((((rd_T50 l0 x5_1).f0).toList) == (((rd_T50 l1 x8_2).f0).toList) && ((((rd_T50 l0 x5_1).f1).toList) == (((rd_T50 l1 x8_2).f1).toList) && ((((rd_T50 l0 x5_1).f2).toList) == (((rd_T50 l1 x8_2).f2).toList)))) = true := by simpa using c11))
                            clear c11
                            have H' := Aside0.mk H
                            clear H
                            have p101 : 0 ≤ (x5_1 : Int) := of_decide_eq_true (by first | (with_reducible assumption) | assumption)
                            have q101 : x5_1 < (l0.length : Int) := of_decide_eq_true (by first | (with_reducible assumption) | assumption)
                            obtain ⟨ad101, e101, hx101_0, hx101_1, hx101_2⟩ := at_T50 HR0.out x5_1 p101 q101
                            cases e101
                            replace p101 := eq_true p101
                            replace q101 := eq_true q101
                            have p102 : 0 ≤ (x8_2 : Int) := of_decide_eq_true (by first | (with_reducible assumption) | assumption)
                            have q102 : x8_2 < (l0.length : Int) := of_decide_eq_true (by first | (with_reducible assumption) | assumption)
                            obtain ⟨ad102, e102, hx102_0, hx102_1, hx102_2⟩ := at_T50 HR0.out x8_2 p102 q102
                            obtain rfl : ad101 = ad102 := (by injection e102)
                            replace p102 := eq_true p102
                            replace q102 := eq_true q102
                            have p103 : 0 ≤ (x5_1 : Int) := of_decide_eq_true (by first | (with_reducible assumption) | assumption)
                            have q103 : x5_1 < (l0.length : Int) := of_decide_eq_true (by first | (with_reducible assumption) | assumption)
                            obtain ⟨ad103, e103, hx103_0, hx103_1, hx103_2⟩ := at_T50 HR0.out x5_1 p103 q103
                            obtain rfl : ad101 = ad103 := (by injection e103)
                            replace p103 := eq_true p103
                            replace q103 := eq_true q103
                            have p104 : 0 ≤ (x8_2 : Int) := of_decide_eq_true (by first | (with_reducible assumption) | assumption)
                            have q104 : x8_2 < (l1.length : Int) := of_decide_eq_true (by first | (with_reducible assumption) | assumption)
                            obtain ⟨ad104, e104, hx104_0, hx104_1, hx104_2⟩ := at_T50 HR1.out x8_2 p104 q104
                            cases e104
                            replace p104 := eq_true p104
                            replace q104 := eq_true q104
                            go_wp2
                            repeat (go_quiet (fail); try go_wp2)
                            go_roundg k2
                            case measure => have := HK1.out; have := HK2.out; omega
                            case rel => exact ⟨(wrap64 (x6_2 + 1)), (wrap64 (x7_2 + 1)), (wrap64 (x8_2 + 1)), (by first | rfl | (simp; done) | (simp [*]; done)), (by first | rfl | (simp; done) | (simp [*]; done)), (by first | rfl | (simp; done) | (simp [*]; done)), H', ⟨by have := HK1.out; have := HK2.out; omega⟩, by repeat (first | exact Drawn0.refl _ | apply Drawn0.step)⟩
                          · rw [if_neg c11] at H
                            have c11b0 : ((((rd_T50 l0 x5_1).f0).toList) == (((rd_T50 l1 x8_2).f0).toList) && ((((rd_T50 l0 x5_1).f1).toList) == (((rd_T50 l1 x8_2).f1).toList) && ((((rd_T50 l0 x5_1).f2).toList) == (((rd_T50 l1 x8_2).f2).toList)))) = false := by simpa using c11
                            (try (have c11b1 : decide ((((rd_T50 l0 x5_1).f0).toList) = (((rd_T50 l1 x8_2).f0).toList) && ((((rd_T50 l0 x5_1).f1).toList) == (((rd_T50 l1 x8_2).f1).toList) && ((((rd_T50 l0 x5_1).f2).toList) == (((rd_T50 l1 x8_2).f2).toList)))) = false := by simpa using c11))
                            (try (have c11b2 : ((((rd_T50 l0 x5_1).f0).toList) == (((rd_T50 l1 x8_2).f0).toList) && ((((rd_T50 l0 x5_1).f1).toList) == (((rd_T50 l1 x8_2).f1).toList) && ((((rd_T50 l0 x5_1).f2).toList) == (((rd_T50 l1 x8_2).f2).toList)))) = false := by simpa using c11))
                            (try (have c11b3 : ¬ ((((rd_T50 l0 x5_1).f0).toList) = (((rd_T50 l1 x8_2).f0).toList) && ((((rd_T50 l0 x5_1).f1).toList) == (((rd_T50 l1 x8_2).f1).toList) && ((((rd_T50 l0 x5_1).f2).toList) == (((rd_T50 l1 x8_2).f2).toList)))) := by simpa using c11))
                            clear c11
                            have H' := Aside0.mk H
                            clear H
                            have p101 : 0 ≤ (x5_1 : Int) := of_decide_eq_true (by first | (with_reducible assumption) | assumption)
                            have q101 : x5_1 < (l0.length : Int) := of_decide_eq_true (by first | (with_reducible assumption) | assumption)
                            obtain ⟨ad101, e101, hx101_0, hx101_1, hx101_2⟩ := at_T50 HR0.out x5_1 p101 q101
                            cases e101
                            replace p101 := eq_true p101
                            replace q101 := eq_true q101
                            have p102 : 0 ≤ (x8_2 : Int) := of_decide_eq_true (by first | (with_reducible assumption) | assumption)
                            have q102 : x8_2 < (l0.length : Int) := of_decide_eq_true (by first | (with_reducible assumption) | assumption)
                            obtain ⟨ad102, e102, hx102_0, hx102_1, hx102_2⟩ := at_T50 HR0.out x8_2 p102 q102
                            obtain rfl : ad101 = ad102 := (by injection e102)
                            replace p102 := eq_true p102
                            replace q102 := eq_true q102
                            have p103 : 0 ≤ (x5_1 : Int) := of_decide_eq_true (by first | (with_reducible assumption) | assumption)
                            have q103 : x5_1 < (l0.length : Int) := of_decide_eq_true (by first | (with_reducible assumption) | assumption)
                            obtain ⟨ad103, e103, hx103_0, hx103_1, hx103_2⟩ := at_T50 HR0.out x5_1 p103 q103
                            obtain rfl : ad101 = ad103 := (by injection e103)
                            replace p103 := eq_true p103
                            replace q103 := eq_true q103
                            have p104 : 0 ≤ (x8_2 : Int) := of_decide_eq_true (by first | (with_reducible assumption) | assumption)
                            have q104 : x8_2 < (l1.length : Int) := of_decide_eq_true (by first | (with_reducible assumption) | assumption)
                            obtain ⟨ad104, e104, hx104_0, hx104_1, hx104_2⟩ := at_T50 HR1.out x8_2 p104 q104
                            cases e104
                            replace p104 := eq_true p104
                            replace q104 := eq_true q104
                            go_wp2
                            repeat (go_quiet (fail); try go_wp2)
                            go_roundg k2
                            case measure => have := HK1.out; have := HK2.out; omega
                            case rel => exact ⟨(wrap64 (x6_2 + 1)), (x7_2), (wrap64 (x8_2 + 1)), (by first | rfl | (simp; done) | (simp [*]; done)), (by first | rfl | (simp; done) | (simp [*]; done)), (by first | rfl | (simp; done) | (simp [*]; done)), H', ⟨by have := HK1.out; have := HK2.out; omega⟩, by repeat (first | exact Drawn0.refl _ | apply Drawn0.step)⟩
                        · rw [if_neg c10] at H
                          exact absurd H (by simp)
                      · rw [if_neg c9] at H
                        have c9b0 : ((((rd_T50 l0 x5_1).f0).toList) == (((rd_T50 l0 x8_2).f0).toList) && ((((rd_T50 l0 x5_1).f1).toList) == (((rd_T50 l0 x8_2).f1).toList) && ((((rd_T50 l0 x5_1).f2).toList) == (((rd_T50 l0 x8_2).f2).toList)))) = false := by simpa using c9
                        (try (have c9b1 : decide ((((rd_T50 l0 x5_1).f0).toList) = (((rd_T50 l0 x8_2).f0).toList) && ((((rd_T50 l0 x5_1).f1).toList) == (((rd_T50 l0 x8_2).f1).toList) && ((((rd_T50 l0 x5_1).f2).toList) == (((rd_T50 l0 x8_2).f2).toList)))) = false := by simpa using c9))
                        (try (have c9b2 : ((((rd_T50 l0 x5_1).f0).toList) == (((rd_T50 l0 x8_2).f0).toList) && ((((rd_T50 l0 x5_1).f1).toList) == (((rd_T50 l0 x8_2).f1).toList) && ((((rd_T50 l0 x5_1).f2).toList) == (((rd_T50 l0 x8_2).f2).toList)))) = false := by simpa using c9))
                        (try (have c9b3 : ¬ ((((rd_T50 l0 x5_1).f0).toList) = (((rd_T50 l0 x8_2).f0).toList) && ((((rd_T50 l0 x5_1).f1).toList) == (((rd_T50 l0 x8_2).f1).toList) && ((((rd_T50 l0 x5_1).f2).toList) == (((rd_T50 l0 x8_2).f2).toList)))) := by simpa using c9))
                        clear c9
                        by_cases c12 : x8_2 < (l1.length : Int)
                        · rw [if_pos c12] at H
                          have c12b0 : decide (x8_2 < (l1.length : Int)) = true := decide_eq_true c12
                          clear c12
                          by_cases c13 : ((((rd_T50 l0 x5_1).f0).toList) == (((rd_T50 l1 x8_2).f0).toList) && ((((rd_T50 l0 x5_1).f1).toList) == (((rd_T50 l1 x8_2).f1).toList) && ((((rd_T50 l0 x5_1).f2).toList) == (((rd_T50 l1 x8_2).f2).toList)))) = true
                          · rw [if_pos c13] at H
                            have c13b0 : ((((rd_T50 l0 x5_1).f0).toList) == (((rd_T50 l1 x8_2).f0).toList) && ((((rd_T50 l0 x5_1).f1).toList) == (((rd_T50 l1 x8_2).f1).toList) && ((((rd_T50 l0 x5_1).f2).toList) == (((rd_T50 l1 x8_2).f2).toList)))) = true := c13
                            (try (have c13b1 : decide ((((rd_T50 l0 x5_1).f0).toList) = (((rd_T50 l1 x8_2).f0).toList) && ((((rd_T50 l0 x5_1).f1).toList) == (((rd_T50 l1 x8_2).f1).toList) && ((((rd_T50 l0 x5_1).f2).toList) == (((rd_T50 l1 x8_2).f2).toList)))) = true := by simpa using c13))
                            (try (have c13b2 : ((((rd_T50 l0 x5_1).f0).toList) == (((rd_T50 l1 x8_2).f0).toList) && ((((rd_T50 l0 x5_1).f1).toList) == (((rd_T50 l1 x8_2).f1).toList) && ((((rd_T50 l0 x5_1).f2).toList) == (((rd_T50 l1 x8_2).f2).toList)))) = true := by simpa using c13))
                            clear c13
                            have H' := Aside0.mk H
                            clear H
                            have p101 : 0 ≤ (x5_1 : Int) := of_decide_eq_true (by first | (with_reducible assumption) | assumption)
                            have q101 : x5_1 < (l0.length : Int) := of_decide_eq_true (by first | (with_reducible assumption) | assumption)
                            obtain ⟨ad101, e101, hx101_0, hx101_1, hx101_2⟩ := at_T50 HR0.out x5_1 p101 q101
                            cases e101
                            replace p101 := eq_true p101
                            replace q101 := eq_true q101
                            have p102 : 0 ≤ (x8_2 : Int) := of_decide_eq_true (by first | (with_reducible assumption) | assumption)
                            have q102 : x8_2 < (l0.length : Int) := of_decide_eq_true (by first | (with_reducible assumption) | assumption)
                            obtain ⟨ad102, e102, hx102_0, hx102_1, hx102_2⟩ := at_T50 HR0.out x8_2 p102 q102
                            obtain rfl : ad101 = ad102 := (by injection e102)
                            replace p102 := eq_true p102
                            replace q102 := eq_true q102
                            have p105 : 0 ≤ (x5_1 : Int) := of_decide_eq_true (by first | (with_reducible assumption) | assumption)
                            have q105 : x5_1 < (l0.length : Int) := of_decide_eq_true (by first | (with_reducible assumption) | assumption)
                            obtain ⟨ad105, e105, hx105_0, hx105_1, hx105_2⟩ := at_T50 HR0.out x5_1 p105 q105
                            obtain rfl : ad101 = ad105 := (by injection e105)
                            replace p105 := eq_true p105
                            replace q105 := eq_true q105
                            have p106 : 0 ≤ (x8_2 : Int) := of_decide_eq_true (by first | (with_reducible assumption) | assumption)
                            have q106 : x8_2 < (l1.length : Int) := of_decide_eq_true (by first | (with_reducible assumption) | assumption)
                            obtain ⟨ad106, e106, hx106_0, hx106_1, hx106_2⟩ := at_T50 HR1.out x8_2 p106 q106
                            cases e106
                            replace p106 := eq_true p106
                            replace q106 := eq_true q106
                            go_wp2
                            repeat (go_quiet (fail); try go_wp2)
                            go_roundg k2
                            case measure => have := HK1.out; have := HK2.out; omega
                            case rel => exact ⟨(x6_2), (wrap64 (x7_2 + 1)), (wrap64 (x8_2 + 1)), (by first | rfl | (simp; done) | (simp [*]; done)), (by first | rfl | (simp; done) | (simp [*]; done)), (by first | rfl | (simp; done) | (simp [*]; done)), H', ⟨by have := HK1.out; have := HK2.out; omega⟩, by repeat (first | exact Drawn0.refl _ | apply Drawn0.step)⟩
                          · rw [if_neg c13] at H
                            have c13b0 : ((((rd_T50 l0 x5_1).f0).toList) == (((rd_T50 l1 x8_2).f0).toList) && ((((rd_T50 l0 x5_1).f1).toList) == (((rd_T50 l1 x8_2).f1).toList) && ((((rd_T50 l0 x5_1).f2).toList) == (((rd_T50 l1 x8_2).f2).toList)))) = false := by simpa using c13
                            (try (have c13b1 : decide ((((rd_T50 l0 x5_1).f0).toList) = (((rd_T50 l1 x8_2).f0).toList) && ((((rd_T50 l0 x5_1).f1).toList) == (((rd_T50 l1 x8_2).f1).toList) && ((((rd_T50 l0 x5_1).f2).toList) == (((rd_T50 l1 x8_2).f2).toList)))) = false := by simpa using c13))
                            (try (have c13b2 : ((((rd_T50 l0 x5_1).f0).toList) == (((rd_T50 l1 x8_2).f0).toList) && ((((rd_T50 l0 x5_1).f1).toList) == (((rd_T50 l1 x8_2).f1).toList) && ((((rd_T50 l0 x5_1).f2).toList) == (((rd_T50 l1 x8_2).f2).toList)))) = false := by simpa using c13))
                            (try (have c13b3 : ¬ ((((rd_T50 l0 x5_1).f0).toList) = (((rd_T50 l1 x8_2).f0).toList) && ((((rd_T50 l0 x5_1).f1).toList) == (((rd_T50 l1 x8_2).f1).toList) && ((((rd_T50 l0 x5_1).f2).toList) == (((rd_T50 l1 x8_2).f2).toList)))) := by simpa using c13))
                            clear c13
                            have H' := Aside0.mk H
                            clear H
                            have p101 : 0 ≤ (x5_1 : Int) := of_decide_eq_true (by first | (with_reducible assumption) | assumption)
                            have q101 : x5_1 < (l0.length : Int) := of_decide_eq_true (by first | (with_reducible assumption) | assumption)
                            obtain ⟨ad101, e101, hx101_0, hx101_1, hx101_2⟩ := at_T50 HR0.out x5_1 p101 q101
                            cases e101
                            replace p101 := eq_true p101
                            replace q101 := eq_true q101
                            have p102 : 0 ≤ (x8_2 : Int) := of_decide_eq_true (by first | (with_reducible assumption) | assumption)
                            have q102 : x8_2 < (l0.length : Int) := of_decide_eq_true (by first | (with_reducible assumption) | assumption)
                            obtain ⟨ad102, e102, hx102_0, hx102_1, hx102_2⟩ := at_T50 HR0.out x8_2 p102 q102
                            obtain rfl : ad101 = ad102 := (by injection e102)
                            replace p102 := eq_true p102
                            replace q102 := eq_true q102
                            have p105 : 0 ≤ (x5_1 : Int) := of_decide_eq_true (by first | (with_reducible assumption) | assumption)
                            have q105 : x5_1 < (l0.length : Int) := of_decide_eq_true (by first | (with_reducible assumption) | assumption)
                            obtain ⟨ad105, e105, hx105_0, hx105_1, hx105_2⟩ := at_T50 HR0.out x5_1 p105 q105
                            obtain rfl : ad101 = ad105 := (by injection e105)
                            replace p105 := eq_true p105
                            replace q105 := eq_true q105
                            have p106 : 0 ≤ (x8_2 : Int) := of_decide_eq_true (by first | (with_reducible assumption) | assumption)
                            have q106 : x8_2 < (l1.length : Int) := of_decide_eq_true (by first | (with_reducible assumption) | assumption)
                            obtain ⟨ad106, e106, hx106_0, hx106_1, hx106_2⟩ := at_T50 HR1.out x8_2 p106 q106
                            cases e106
                            replace p106 := eq_true p106
                            replace q106 := eq_true q106
                            go_wp2
                            repeat (go_quiet (fail); try go_wp2)
                            go_roundg k2
                            case measure => have := HK1.out; have := HK2.out; omega
                            case rel => exact ⟨(x6_2), (x7_2), (wrap64 (x8_2 + 1)), (by first | rfl | (simp; done) | (simp [*]; done)), (by first | rfl | (simp; done) | (simp [*]; done)), (by first | rfl | (simp; done) | (simp [*]; done)), H', ⟨by have := HK1.out; have := HK2.out; omega⟩, by repeat (first | exact Drawn0.refl _ | apply Drawn0.step)⟩
                        · rw [if_neg c12] at H
                          exact absurd H (by simp)
                    · rw [if_neg c8] at H
                      exact absurd H (by simp)
                  · rw [if_neg c7] at H
                    exact absurd H (by simp)
                · rw [if_neg c6] at H
                  exact absurd H (by simp)
              · rw [if_neg c5] at H
                have c5b0 : decide (x8_2 < (l0.length : Int)) = false := decide_eq_false c5
                clear c5
                by_cases c14 : x6_2 = x7_2
                · rw [if_pos c14] at H
                  have c14b0 : (x6_2 == x7_2) = true := beq_iff_eq.mpr c14
                  have c14b1 : (x6_2 != x7_2) = false := bne_eq_false_iff_eq.mpr c14
                  clear c14
                  have H' := Aside0.mk H
                  clear H
                  go_wp2
                  repeat (go_quiet (fail); try go_wp2)
                  go_roundg k2
                  case measure => have := HK1.out; have := HK2.out; omega
                  case rel => exact ⟨(wrap64 (x5_1 + 1)), (by first | rfl | (simp; done) | (simp [*]; done)), H', ⟨by have := HK1.out; have := HK2.out; omega⟩, by repeat (first | exact Drawn0.refl _ | apply Drawn0.step)⟩
                · rw [if_neg c14] at H
                  have c14b0 : (x6_2 == x7_2) = false := beq_eq_false_iff_ne.mpr c14
                  have c14b1 : (x6_2 != x7_2) = true := bne_iff_ne.mpr c14
                  obtain rfl := Option.some.inj H
                  go_wp2
                  repeat (go_quiet (fail); try go_wp2)
                  go_ret
                  exact ⟨by first | rfl | (simp; done) | (simp [*]; done), by repeat (first | exact Drawn0.refl _ | apply Drawn0.step)⟩
        · rw [if_neg c4] at H
          have c4b0 : decide (x5_1 < (l0.length : Int)) = false := decide_eq_false c4
          clear c4
          obtain rfl := Option.some.inj H
          go_wp2
          repeat (go_quiet (fail); try go_wp2)
          go_ret
          exact ⟨by first | rfl | (simp; done) | (simp [*]; done), by repeat (first | exact Drawn0.refl _ | apply Drawn0.step)⟩
  · rw [if_neg c3] at H
    have c3b0 : ((l0.length : Int) == (l1.length : Int)) = false := beq_eq_false_iff_ne.mpr c3
    have c3b1 : ((l0.length : Int) != (l1.length : Int)) = true := bne_iff_ne.mpr c3
    have c3b2 : (l0.length == l1.length) = false := by first | simpa using c3 | (simp at c3 ⊢; omega)
    obtain rfl := Option.some.inj H
    go_enter Tryd.func13, Tryd.ntmps13
    go_wp2
    repeat (go_quiet (fail); try go_wp2)
    go_ret
    exact ⟨by first | rfl | (simp; done) | (simp [*]; done), by repeat (first | exact Drawn0.refl _ | apply Drawn0.step)⟩

/-! ### laws_FnFieldAgain: function 4 -/
def laws_FnFieldAgain.f (k : Nat) (a0 : ByteArray) : Option (Bool) := if (a0.size : Int) > 2147483647 then (some true) else ((laws_plainText.f k a0).bind fun t107 => (if t107 = true then ((impl_FieldParse.f k a0).bind fun bt108 => (if bt108.2.2 = true then (if (bt108.1.length : Int) = 0 then (some (bt108.2.1.toList == ([] : List UInt8))) else (some false)) else ((impl_FieldParse.f k bt108.2.1).bind fun bt113 => ((impl_FieldParse.f k (⟨#[97, 61, 61, 98]⟩ : ByteArray)).bind fun bt118 => (if bt113.2.2 = true then (some false) else ((spec_TermsRow.f k bt108.1 bt113.1).bind fun t123 => (if t123 = true then (if (bt113.2.1.size : Int) = (bt108.2.1.size : Int) then (some (bt118.2.1.toList == ([97, 61, 98] : List UInt8))) else (some false)) else (some false)))))))) else (some true)))
theorem laws_FnFieldAgain.mono : ∀ a0 k, LeO (laws_FnFieldAgain.f k a0) (laws_FnFieldAgain.f (k + 1) a0) := by
  intro a0 k
  unfold laws_FnFieldAgain.f
  repeat' first
      | (with_reducible exact impl_FieldParse.mono _ _)
      | (with_reducible exact laws_plainText.mono _ _)
      | (with_reducible exact spec_TermsRow.mono _ _ _)
      | (with_reducible exact LeO.refl _)
      | (with_reducible exact LeO.none _)
      | (with_reducible refine LeO.ite ?_ ?_)
      | (with_reducible refine LeO.bind ?_ (fun _ => ?_))
      | exact impl_FieldParse.mono _ _
      | exact laws_plainText.mono _ _
      | exact spec_TermsRow.mono _ _ _
      | exact LeO.none _
      | refine LeO.ite ?_ ?_
      | refine LeO.bind ?_ (fun _ => ?_)
set_option maxHeartbeats 8000000 in
set_option maxRecDepth 100000 in
theorem laws_FnFieldAgain.calls (k : Nat) (a0 : ByteArray) (r : Bool) (w : World) (h : laws_FnFieldAgain.f k a0 = some r) :
    Calls Tryd.prog 4 #[.string a0] w fun e w' => e = .returned (.bool r) ∧ Below w.heap.size w w' := by
  have HB := Aside0.mk (Below.refl w.heap.size w)
  have H : (if (a0.size : Int) > 2147483647 then (some true) else ((laws_plainText.f k a0).bind fun t107 => (if t107 = true then ((impl_FieldParse.f k a0).bind fun bt108 => (if bt108.2.2 = true then (if (bt108.1.length : Int) = 0 then (some (bt108.2.1.toList == ([] : List UInt8))) else (some false)) else ((impl_FieldParse.f k bt108.2.1).bind fun bt113 => ((impl_FieldParse.f k (⟨#[97, 61, 61, 98]⟩ : ByteArray)).bind fun bt118 => (if bt113.2.2 = true then (some false) else ((spec_TermsRow.f k bt108.1 bt113.1).bind fun t123 => (if t123 = true then (if (bt113.2.1.size : Int) = (bt108.2.1.size : Int) then (some (bt118.2.1.toList == ([97, 61, 98] : List UInt8))) else (some false)) else (some false)))))))) else (some true)))) = some r := h
  clear h
  by_cases c2 : (a0.size : Int) > 2147483647
  · rw [if_pos c2] at H
    have c2b0 : decide (2147483647 < (a0.size : Int)) = true := decide_eq_true c2
    have c2b1 : decide (2147483647 < a0.size) = true := decide_eq_true (by omega)
    clear c2
    obtain rfl := Option.some.inj H
    go_enter Tryd.func4, Tryd.ntmps4
    go_wp2
    go_ret
    exact ⟨by first | rfl | (simp [errW_none, errW_some] <;> rfl) | (simp [*, errW_none, errW_some] <;> rfl), by repeat (first | (with_reducible first | exact HB.out | apply below_alloc | apply pw_below_drewN | apply below_drew1) | exact HB.out)⟩
  · rw [if_neg c2] at H
    have c2b0 : decide (2147483647 < (a0.size : Int)) = false := decide_eq_false c2
    have c2b1 : decide (2147483647 < a0.size) = false := decide_eq_false (by omega)
    clear c2
    replace H := Option.bind_eq_some_iff.mp H
    obtain ⟨t107, A30, H⟩ := H
    replace H : (if t107 = true then ((impl_FieldParse.f k a0).bind fun bt108 => (if bt108.2.2 = true then (if (bt108.1.length : Int) = 0 then (some (bt108.2.1.toList == ([] : List UInt8))) else (some false)) else ((impl_FieldParse.f k bt108.2.1).bind fun bt113 => ((impl_FieldParse.f k (⟨#[97, 61, 61, 98]⟩ : ByteArray)).bind fun bt118 => (if bt113.2.2 = true then (some false) else ((spec_TermsRow.f k bt108.1 bt113.1).bind fun t123 => (if t123 = true then (if (bt113.2.1.size : Int) = (bt108.2.1.size : Int) then (some (bt118.2.1.toList == ([97, 61, 98] : List UInt8))) else (some false)) else (some false)))))))) else (some true)) = some r := H
    have A3 := Aside0.mk A30
    clear A30
    by_cases c4 : t107 = true
    · subst c4
      have H1 : ((impl_FieldParse.f k a0).bind fun bt108 => (if bt108.2.2 = true then (if (bt108.1.length : Int) = 0 then (some (bt108.2.1.toList == ([] : List UInt8))) else (some false)) else ((impl_FieldParse.f k bt108.2.1).bind fun bt113 => ((impl_FieldParse.f k (⟨#[97, 61, 61, 98]⟩ : ByteArray)).bind fun bt118 => (if bt113.2.2 = true then (some false) else ((spec_TermsRow.f k bt108.1 bt113.1).bind fun t123 => (if t123 = true then (if (bt113.2.1.size : Int) = (bt108.2.1.size : Int) then (some (bt118.2.1.toList == ([97, 61, 98] : List UInt8))) else (some false)) else (some false)))))))) = some r := by rw [if_pos rfl] at H; exact H
      clear H
      have H := H1
      clear H1
      replace H := Option.bind_eq_some_iff.mp H
      obtain ⟨⟨t108, t109, t110⟩, A50, H⟩ := H
      replace H : (if t110 = true then (if (t108.length : Int) = 0 then (some (t109.toList == ([] : List UInt8))) else (some false)) else ((impl_FieldParse.f k t109).bind fun bt113 => ((impl_FieldParse.f k (⟨#[97, 61, 61, 98]⟩ : ByteArray)).bind fun bt118 => (if bt113.2.2 = true then (some false) else ((spec_TermsRow.f k t108 bt113.1).bind fun t123 => (if t123 = true then (if (bt113.2.1.size : Int) = (t109.size : Int) then (some (bt118.2.1.toList == ([97, 61, 98] : List UInt8))) else (some false)) else (some false))))))) = some r := H
      have A5 := Aside0.mk A50
      clear A50
      by_cases c6 : t110 = true
      · subst c6
        have H1 : (if (t108.length : Int) = 0 then (some (t109.toList == ([] : List UInt8))) else (some false)) = some r := by rw [if_pos rfl] at H; exact H
        clear H
        have H := H1
        clear H1
        by_cases c7 : (t108.length : Int) = 0
        · rw [if_pos c7] at H
          have c7b0 : ((t108.length : Int) == 0) = true := beq_iff_eq.mpr c7
          have c7b1 : ((t108.length : Int) != 0) = false := bne_eq_false_iff_eq.mpr c7
          clear c7
          obtain rfl := Option.some.inj H
          go_enter Tryd.func4, Tryd.ntmps4
          go_wp2_with (first | ((with_reducible refine gate_callee (f := 6) rfl ?_); refine goesL_ (some 16) rfl rfl Tryd.func6 (by kernel_rfl) rfl #[.string a0] rfl (by (try simp only [List.map_toArray, List.map_cons, List.map_nil]); first | done | rfl | (simp only [List.length_drop, List.length_take]; rfl)) ?_; (with_reducible refine (laws_plainText.calls k a0 true _ A3.out).mono ?_); rintro e w8 ⟨rfl, hb⟩; refine ⟨_, rfl, ?_⟩; have n0_ := Aside0.mk (below_step (by repeat (first | (with_reducible first | exact HB.out | apply below_alloc | apply pw_below_drewN | apply below_drew1) | exact HB.out)) hb); clear HB; have HB := n0_; clear n0_; (try clear hb); (try clear hb2); (try clear hk); (try clear hi)) | ((with_reducible refine gate_callee (f := 12) rfl ?_); refine goesL_ (some 20) rfl rfl Tryd.func12 (by kernel_rfl) rfl #[.string a0] rfl (by (try simp only [List.map_toArray, List.map_cons, List.map_nil]); first | done | rfl | (simp only [List.length_drop, List.length_take]; rfl)) ?_; (with_reducible refine (impl_FieldParse.calls k a0 t108 t109 true _ A5.out).mono ?_); rintro e w9 ⟨v111, rfl, ho0, hb⟩; refine ⟨_, rfl, ?_⟩; have n0_ := Aside0.mk (Kd.R_lower ho0 (below_size (by repeat (first | (with_reducible first | exact HB.out | apply below_alloc | apply pw_below_drewN | apply below_drew1) | exact HB.out)))); have n1_ := Aside0.mk (below_step (by repeat (first | (with_reducible first | exact HB.out | apply below_alloc | apply pw_below_drewN | apply below_drew1) | exact HB.out)) hb); clear HB; have HO112 := n0_; have HB := n1_; clear n0_ n1_; (try clear hb); (try clear hb2); (try clear hk); (try clear hi); (try clear ho0); obtain ⟨Ao10, co10, eo10⟩ := Kd.R_slice HO112.out; subst eo10))
          go_ret
          exact ⟨by first | rfl | (simp [errW_none, errW_some] <;> rfl) | (simp [*, errW_none, errW_some] <;> rfl), by repeat (first | (with_reducible first | exact HB.out | apply below_alloc | apply pw_below_drewN | apply below_drew1) | exact HB.out)⟩
        · rw [if_neg c7] at H
          have c7b0 : ((t108.length : Int) == 0) = false := beq_eq_false_iff_ne.mpr c7
          have c7b1 : ((t108.length : Int) != 0) = true := bne_iff_ne.mpr c7
          have c7b2 : ¬ (t108 = []) := fun h_ => c7 (by rw [h_]; rfl)
          obtain rfl := Option.some.inj H
          go_enter Tryd.func4, Tryd.ntmps4
          go_wp2_with (first | ((with_reducible refine gate_callee (f := 6) rfl ?_); refine goesL_ (some 16) rfl rfl Tryd.func6 (by kernel_rfl) rfl #[.string a0] rfl (by (try simp only [List.map_toArray, List.map_cons, List.map_nil]); first | done | rfl | (simp only [List.length_drop, List.length_take]; rfl)) ?_; (with_reducible refine (laws_plainText.calls k a0 true _ A3.out).mono ?_); rintro e w11 ⟨rfl, hb⟩; refine ⟨_, rfl, ?_⟩; have n0_ := Aside0.mk (below_step (by repeat (first | (with_reducible first | exact HB.out | apply below_alloc | apply pw_below_drewN | apply below_drew1) | exact HB.out)) hb); clear HB; have HB := n0_; clear n0_; (try clear hb); (try clear hb2); (try clear hk); (try clear hi)) | ((with_reducible refine gate_callee (f := 12) rfl ?_); refine goesL_ (some 20) rfl rfl Tryd.func12 (by kernel_rfl) rfl #[.string a0] rfl (by (try simp only [List.map_toArray, List.map_cons, List.map_nil]); first | done | rfl | (simp only [List.length_drop, List.length_take]; rfl)) ?_; (with_reducible refine (impl_FieldParse.calls k a0 t108 t109 true _ A5.out).mono ?_); rintro e w12 ⟨v111, rfl, ho0, hb⟩; refine ⟨_, rfl, ?_⟩; have n0_ := Aside0.mk (Kd.R_lower ho0 (below_size (by repeat (first | (with_reducible first | exact HB.out | apply below_alloc | apply pw_below_drewN | apply below_drew1) | exact HB.out)))); have n1_ := Aside0.mk (below_step (by repeat (first | (with_reducible first | exact HB.out | apply below_alloc | apply pw_below_drewN | apply below_drew1) | exact HB.out)) hb); clear HB; have HO112 := n0_; have HB := n1_; clear n0_ n1_; (try clear hb); (try clear hb2); (try clear hk); (try clear hi); (try clear ho0); obtain ⟨Ao13, co13, eo13⟩ := Kd.R_slice HO112.out; subst eo13))
          go_ret
          exact ⟨by first | rfl | (simp [errW_none, errW_some] <;> rfl) | (simp [*, errW_none, errW_some] <;> rfl), by repeat (first | (with_reducible first | exact HB.out | apply below_alloc | apply pw_below_drewN | apply below_drew1) | exact HB.out)⟩
      · replace c6 := Bool.eq_false_iff.mpr c6
        subst c6
        have H1 : ((impl_FieldParse.f k t109).bind fun bt113 => ((impl_FieldParse.f k (⟨#[97, 61, 61, 98]⟩ : ByteArray)).bind fun bt118 => (if bt113.2.2 = true then (some false) else ((spec_TermsRow.f k t108 bt113.1).bind fun t123 => (if t123 = true then (if (bt113.2.1.size : Int) = (t109.size : Int) then (some (bt118.2.1.toList == ([97, 61, 98] : List UInt8))) else (some false)) else (some false)))))) = some r := by rw [if_neg (show ¬ (false = true) by decide)] at H; exact H
        clear H
        have H := H1
        clear H1
        replace H := Option.bind_eq_some_iff.mp H
        obtain ⟨⟨t113, t114, t115⟩, A140, H⟩ := H
        replace H : ((impl_FieldParse.f k (⟨#[97, 61, 61, 98]⟩ : ByteArray)).bind fun bt118 => (if t115 = true then (some false) else ((spec_TermsRow.f k t108 t113).bind fun t123 => (if t123 = true then (if (t114.size : Int) = (t109.size : Int) then (some (bt118.2.1.toList == ([97, 61, 98] : List UInt8))) else (some false)) else (some false))))) = some r := H
        have A14 := Aside0.mk A140
        clear A140
        replace H := Option.bind_eq_some_iff.mp H
        obtain ⟨⟨t118, t119, t120⟩, A150, H⟩ := H
        replace H : (if t115 = true then (some false) else ((spec_TermsRow.f k t108 t113).bind fun t123 => (if t123 = true then (if (t114.size : Int) = (t109.size : Int) then (some (t119.toList == ([97, 61, 98] : List UInt8))) else (some false)) else (some false)))) = some r := H
        have A15 := Aside0.mk A150
        clear A150
        by_cases c16 : t115 = true
        · subst c16
          have H1 : (some false) = some r := by rw [if_pos rfl] at H; exact H
          clear H
          have H := H1
          clear H1
          obtain rfl := Option.some.inj H
          go_enter Tryd.func4, Tryd.ntmps4
          go_wp2_with (first | ((with_reducible refine gate_callee (f := 6) rfl ?_); refine goesL_ (some 16) rfl rfl Tryd.func6 (by kernel_rfl) rfl #[.string a0] rfl (by (try simp only [List.map_toArray, List.map_cons, List.map_nil]); first | done | rfl | (simp only [List.length_drop, List.length_take]; rfl)) ?_; (with_reducible refine (laws_plainText.calls k a0 true _ A3.out).mono ?_); rintro e w17 ⟨rfl, hb⟩; refine ⟨_, rfl, ?_⟩; have n0_ := Aside0.mk (below_step (by repeat (first | (with_reducible first | exact HB.out | apply below_alloc | apply pw_below_drewN | apply below_drew1) | exact HB.out)) hb); clear HB; have HB := n0_; clear n0_; (try clear hb); (try clear hb2); (try clear hk); (try clear hi)) | ((with_reducible refine gate_callee (f := 12) rfl ?_); refine goesL_ (some 20) rfl rfl Tryd.func12 (by kernel_rfl) rfl #[.string a0] rfl (by (try simp only [List.map_toArray, List.map_cons, List.map_nil]); first | done | rfl | (simp only [List.length_drop, List.length_take]; rfl)) ?_; (with_reducible refine (impl_FieldParse.calls k a0 t108 t109 false _ A5.out).mono ?_); rintro e w18 ⟨v111, rfl, ho0, hb⟩; refine ⟨_, rfl, ?_⟩; have n0_ := Aside0.mk (Kd.R_lower ho0 (below_size (by repeat (first | (with_reducible first | exact HB.out | apply below_alloc | apply pw_below_drewN | apply below_drew1) | exact HB.out)))); have n1_ := Aside0.mk (below_step (by repeat (first | (with_reducible first | exact HB.out | apply below_alloc | apply pw_below_drewN | apply below_drew1) | exact HB.out)) hb); clear HB; have HO112 := n0_; have HB := n1_; clear n0_ n1_; (try clear hb); (try clear hb2); (try clear hk); (try clear hi); (try clear ho0)) | ((with_reducible refine gate_callee (f := 12) rfl ?_); refine goesL_ (some 34) rfl rfl Tryd.func12 (by kernel_rfl) rfl #[.string t109] rfl (by (try simp only [List.map_toArray, List.map_cons, List.map_nil]); first | done | rfl | (simp only [List.length_drop, List.length_take]; rfl)) ?_; (with_reducible refine (impl_FieldParse.calls k t109 t113 t114 true _ A14.out).mono ?_); rintro e w19 ⟨v116, rfl, ho0, hb⟩; refine ⟨_, rfl, ?_⟩; have n0_ := Aside0.mk (Kd.R_elder' (by (with_reducible repeat (first | apply Kd.R_alloc | apply Kd.R_drewN | apply Kd.R_drew)); exact HO112.out) (Kd.R_base ho0) hb); have n1_ := Aside0.mk (Kd.R_lower (Kd.R_new' ho0 (Kd.R_lt (by (with_reducible repeat (first | apply Kd.R_alloc | apply Kd.R_drewN | apply Kd.R_drew)); exact HO112.out))) (below_size (by repeat (first | (with_reducible first | exact HB.out | apply below_alloc | apply pw_below_drewN | apply below_drew1) | exact HB.out)))); have n2_ := Aside0.mk (below_step (by repeat (first | (with_reducible first | exact HB.out | apply below_alloc | apply pw_below_drewN | apply below_drew1) | exact HB.out)) hb); clear HO112; clear HB; have HO112 := n0_; have HO117 := n1_; have HB := n2_; clear n0_ n1_ n2_; (try clear hb); (try clear hb2); (try clear hk); (try clear hi); (try clear ho0)) | ((with_reducible refine gate_callee (f := 12) rfl ?_); refine goesL_ (some 39) rfl rfl Tryd.func12 (by kernel_rfl) rfl #[.string (⟨#[97, 61, 61, 98]⟩ : ByteArray)] rfl (by (try simp only [List.map_toArray, List.map_cons, List.map_nil]); first | done | rfl | (simp only [List.length_drop, List.length_take]; rfl)) ?_; (with_reducible refine (impl_FieldParse.calls k (⟨#[97, 61, 61, 98]⟩ : ByteArray) t118 t119 t120 _ A15.out).mono ?_); rintro e w20 ⟨v121, rfl, ho0, hb⟩; refine ⟨_, rfl, ?_⟩; have n0_ := Aside0.mk (Kd.R_elder' (by (with_reducible repeat (first | apply Kd.R_alloc | apply Kd.R_drewN | apply Kd.R_drew)); exact HO112.out) (Kd.R_base ho0) hb); have n1_ := Aside0.mk (Kd.R_elder' (by (with_reducible repeat (first | apply Kd.R_alloc | apply Kd.R_drewN | apply Kd.R_drew)); exact HO117.out) (Kd.R_base ho0) hb); have n2_ := Aside0.mk (Kd.R_lower (Kd.R_new' (Kd.R_new' ho0 (Kd.R_lt (by (with_reducible repeat (first | apply Kd.R_alloc | apply Kd.R_drewN | apply Kd.R_drew)); exact HO112.out))) (Kd.R_lt (by (with_reducible repeat (first | apply Kd.R_alloc | apply Kd.R_drewN | apply Kd.R_drew)); exact HO117.out))) (below_size (by repeat (first | (with_reducible first | exact HB.out | apply below_alloc | apply pw_below_drewN | apply below_drew1) | exact HB.out)))); have n3_ := Aside0.mk (below_step (by repeat (first | (with_reducible first | exact HB.out | apply below_alloc | apply pw_below_drewN | apply below_drew1) | exact HB.out)) hb); clear HO112; clear HO117; clear HB; have HO112 := n0_; have HO117 := n1_; have HO122 := n2_; have HB := n3_; clear n0_ n1_ n2_ n3_; (try clear hb); (try clear hb2); (try clear hk); (try clear hi); (try clear ho0)))
          go_ret
          exact ⟨by first | rfl | (simp [errW_none, errW_some] <;> rfl) | (simp [*, errW_none, errW_some] <;> rfl), by repeat (first | (with_reducible first | exact HB.out | apply below_alloc | apply pw_below_drewN | apply below_drew1) | exact HB.out)⟩
        · replace c16 := Bool.eq_false_iff.mpr c16
          subst c16
          have H1 : ((spec_TermsRow.f k t108 t113).bind fun t123 => (if t123 = true then (if (t114.size : Int) = (t109.size : Int) then (some (t119.toList == ([97, 61, 98] : List UInt8))) else (some false)) else (some false))) = some r := by rw [if_neg (show ¬ (false = true) by decide)] at H; exact H
          clear H
          have H := H1
          clear H1
          replace H := Option.bind_eq_some_iff.mp H
          obtain ⟨t123, A210, H⟩ := H
          replace H : (if t123 = true then (if (t114.size : Int) = (t109.size : Int) then (some (t119.toList == ([97, 61, 98] : List UInt8))) else (some false)) else (some false)) = some r := H
          have A21 := Aside0.mk A210
          clear A210
          by_cases c22 : t123 = true
          · subst c22
            have H1 : (if (t114.size : Int) = (t109.size : Int) then (some (t119.toList == ([97, 61, 98] : List UInt8))) else (some false)) = some r := by rw [if_pos rfl] at H; exact H
            clear H
            have H := H1
            clear H1
            by_cases c23 : (t114.size : Int) = (t109.size : Int)
            · rw [if_pos c23] at H
              have c23b0 : ((t114.size : Int) == (t109.size : Int)) = true := beq_iff_eq.mpr c23
              have c23b1 : ((t114.size : Int) != (t109.size : Int)) = false := bne_eq_false_iff_eq.mpr c23
              have c23b2 : (t114.size == t109.size) = true := by first | simpa using c23 | (simp at c23 ⊢; omega)
              clear c23
              obtain rfl := Option.some.inj H
              go_enter Tryd.func4, Tryd.ntmps4
              go_wp2_with (first | ((with_reducible refine gate_callee (f := 6) rfl ?_); refine goesL_ (some 16) rfl rfl Tryd.func6 (by kernel_rfl) rfl #[.string a0] rfl (by (try simp only [List.map_toArray, List.map_cons, List.map_nil]); first | done | rfl | (simp only [List.length_drop, List.length_take]; rfl)) ?_; (with_reducible refine (laws_plainText.calls k a0 true _ A3.out).mono ?_); rintro e w24 ⟨rfl, hb⟩; refine ⟨_, rfl, ?_⟩; have n0_ := Aside0.mk (below_step (by repeat (first | (with_reducible first | exact HB.out | apply below_alloc | apply pw_below_drewN | apply below_drew1) | exact HB.out)) hb); clear HB; have HB := n0_; clear n0_; (try clear hb); (try clear hb2); (try clear hk); (try clear hi)) | ((with_reducible refine gate_callee (f := 12) rfl ?_); refine goesL_ (some 20) rfl rfl Tryd.func12 (by kernel_rfl) rfl #[.string a0] rfl (by (try simp only [List.map_toArray, List.map_cons, List.map_nil]); first | done | rfl | (simp only [List.length_drop, List.length_take]; rfl)) ?_; (with_reducible refine (impl_FieldParse.calls k a0 t108 t109 false _ A5.out).mono ?_); rintro e w25 ⟨v111, rfl, ho0, hb⟩; refine ⟨_, rfl, ?_⟩; have n0_ := Aside0.mk (Kd.R_lower ho0 (below_size (by repeat (first | (with_reducible first | exact HB.out | apply below_alloc | apply pw_below_drewN | apply below_drew1) | exact HB.out)))); have n1_ := Aside0.mk (below_step (by repeat (first | (with_reducible first | exact HB.out | apply below_alloc | apply pw_below_drewN | apply below_drew1) | exact HB.out)) hb); clear HB; have HO112 := n0_; have HB := n1_; clear n0_ n1_; (try clear hb); (try clear hb2); (try clear hk); (try clear hi); (try clear ho0)) | ((with_reducible refine gate_callee (f := 12) rfl ?_); refine goesL_ (some 34) rfl rfl Tryd.func12 (by kernel_rfl) rfl #[.string t109] rfl (by (try simp only [List.map_toArray, List.map_cons, List.map_nil]); first | done | rfl | (simp only [List.length_drop, List.length_take]; rfl)) ?_; (with_reducible refine (impl_FieldParse.calls k t109 t113 t114 false _ A14.out).mono ?_); rintro e w26 ⟨v116, rfl, ho0, hb⟩; refine ⟨_, rfl, ?_⟩; have n0_ := Aside0.mk (Kd.R_elder' (by (with_reducible repeat (first | apply Kd.R_alloc | apply Kd.R_drewN | apply Kd.R_drew)); exact HO112.out) (Kd.R_base ho0) hb); have n1_ := Aside0.mk (Kd.R_lower (Kd.R_new' ho0 (Kd.R_lt (by (with_reducible repeat (first | apply Kd.R_alloc | apply Kd.R_drewN | apply Kd.R_drew)); exact HO112.out))) (below_size (by repeat (first | (with_reducible first | exact HB.out | apply below_alloc | apply pw_below_drewN | apply below_drew1) | exact HB.out)))); have n2_ := Aside0.mk (below_step (by repeat (first | (with_reducible first | exact HB.out | apply below_alloc | apply pw_below_drewN | apply below_drew1) | exact HB.out)) hb); clear HO112; clear HB; have HO112 := n0_; have HO117 := n1_; have HB := n2_; clear n0_ n1_ n2_; (try clear hb); (try clear hb2); (try clear hk); (try clear hi); (try clear ho0)) | ((with_reducible refine gate_callee (f := 12) rfl ?_); refine goesL_ (some 39) rfl rfl Tryd.func12 (by kernel_rfl) rfl #[.string (⟨#[97, 61, 61, 98]⟩ : ByteArray)] rfl (by (try simp only [List.map_toArray, List.map_cons, List.map_nil]); first | done | rfl | (simp only [List.length_drop, List.length_take]; rfl)) ?_; (with_reducible refine (impl_FieldParse.calls k (⟨#[97, 61, 61, 98]⟩ : ByteArray) t118 t119 t120 _ A15.out).mono ?_); rintro e w27 ⟨v121, rfl, ho0, hb⟩; refine ⟨_, rfl, ?_⟩; have n0_ := Aside0.mk (Kd.R_elder' (by (with_reducible repeat (first | apply Kd.R_alloc | apply Kd.R_drewN | apply Kd.R_drew)); exact HO112.out) (Kd.R_base ho0) hb); have n1_ := Aside0.mk (Kd.R_elder' (by (with_reducible repeat (first | apply Kd.R_alloc | apply Kd.R_drewN | apply Kd.R_drew)); exact HO117.out) (Kd.R_base ho0) hb); have n2_ := Aside0.mk (Kd.R_lower (Kd.R_new' (Kd.R_new' ho0 (Kd.R_lt (by (with_reducible repeat (first | apply Kd.R_alloc | apply Kd.R_drewN | apply Kd.R_drew)); exact HO112.out))) (Kd.R_lt (by (with_reducible repeat (first | apply Kd.R_alloc | apply Kd.R_drewN | apply Kd.R_drew)); exact HO117.out))) (below_size (by repeat (first | (with_reducible first | exact HB.out | apply below_alloc | apply pw_below_drewN | apply below_drew1) | exact HB.out)))); have n3_ := Aside0.mk (below_step (by repeat (first | (with_reducible first | exact HB.out | apply below_alloc | apply pw_below_drewN | apply below_drew1) | exact HB.out)) hb); clear HO112; clear HO117; clear HB; have HO112 := n0_; have HO117 := n1_; have HO122 := n2_; have HB := n3_; clear n0_ n1_ n2_ n3_; (try clear hb); (try clear hb2); (try clear hk); (try clear hi); (try clear ho0); obtain ⟨Ao28, co28, eo28⟩ := Kd.R_slice HO112.out; subst eo28; obtain ⟨Ao29, co29, eo29⟩ := Kd.R_slice HO117.out; subst eo29) | (go_at_call 13; (with_reducible refine (spec_TermsRow.calls k _ _ t108 _ _ t113 true _ ?side1 ?side2 ?side3 ?side4 A21.out).mono ?_); (case side1 => repeat (first | exact (Kd.R_reads' HO112.out).2.2 | (with_reducible refine Kd.C_alloc ?_ _) | (with_reducible refine Kd.C_drewN ?_ _) | (with_reducible refine Kd.C_drew ?_))); (case side2 => exact (Kd.R_reads' HO112.out).2.1); (case side3 => repeat (first | exact (Kd.R_reads' HO117.out).2.2 | (with_reducible refine Kd.C_alloc ?_ _) | (with_reducible refine Kd.C_drewN ?_ _) | (with_reducible refine Kd.C_drew ?_))); (case side4 => exact (Kd.R_reads' HO117.out).2.1); rintro e w' ⟨rfl, ⟨nd, rfl⟩⟩))
              go_ret
              exact ⟨by first | rfl | (simp [errW_none, errW_some] <;> rfl) | (simp [*, errW_none, errW_some] <;> rfl), by repeat (first | (with_reducible first | exact HB.out | apply below_alloc | apply pw_below_drewN | apply below_drew1) | exact HB.out)⟩
            · rw [if_neg c23] at H
              have c23b0 : ((t114.size : Int) == (t109.size : Int)) = false := beq_eq_false_iff_ne.mpr c23
              have c23b1 : ((t114.size : Int) != (t109.size : Int)) = true := bne_iff_ne.mpr c23
              have c23b2 : (t114.size == t109.size) = false := by first | simpa using c23 | (simp at c23 ⊢; omega)
              obtain rfl := Option.some.inj H
              go_enter Tryd.func4, Tryd.ntmps4
              go_wp2_with (first | ((with_reducible refine gate_callee (f := 6) rfl ?_); refine goesL_ (some 16) rfl rfl Tryd.func6 (by kernel_rfl) rfl #[.string a0] rfl (by (try simp only [List.map_toArray, List.map_cons, List.map_nil]); first | done | rfl | (simp only [List.length_drop, List.length_take]; rfl)) ?_; (with_reducible refine (laws_plainText.calls k a0 true _ A3.out).mono ?_); rintro e w30 ⟨rfl, hb⟩; refine ⟨_, rfl, ?_⟩; have n0_ := Aside0.mk (below_step (by repeat (first | (with_reducible first | exact HB.out | apply below_alloc | apply pw_below_drewN | apply below_drew1) | exact HB.out)) hb); clear HB; have HB := n0_; clear n0_; (try clear hb); (try clear hb2); (try clear hk); (try clear hi)) | ((with_reducible refine gate_callee (f := 12) rfl ?_); refine goesL_ (some 20) rfl rfl Tryd.func12 (by kernel_rfl) rfl #[.string a0] rfl (by (try simp only [List.map_toArray, List.map_cons, List.map_nil]); first | done | rfl | (simp only [List.length_drop, List.length_take]; rfl)) ?_; (with_reducible refine (impl_FieldParse.calls k a0 t108 t109 false _ A5.out).mono ?_); rintro e w31 ⟨v111, rfl, ho0, hb⟩; refine ⟨_, rfl, ?_⟩; have n0_ := Aside0.mk (Kd.R_lower ho0 (below_size (by repeat (first | (with_reducible first | exact HB.out | apply below_alloc | apply pw_below_drewN | apply below_drew1) | exact HB.out)))); have n1_ := Aside0.mk (below_step (by repeat (first | (with_reducible first | exact HB.out | apply below_alloc | apply pw_below_drewN | apply below_drew1) | exact HB.out)) hb); clear HB; have HO112 := n0_; have HB := n1_; clear n0_ n1_; (try clear hb); (try clear hb2); (try clear hk); (try clear hi); (try clear ho0)) | ((with_reducible refine gate_callee (f := 12) rfl ?_); refine goesL_ (some 34) rfl rfl Tryd.func12 (by kernel_rfl) rfl #[.string t109] rfl (by (try simp only [List.map_toArray, List.map_cons, List.map_nil]); first | done | rfl | (simp only [List.length_drop, List.length_take]; rfl)) ?_; (with_reducible refine (impl_FieldParse.calls k t109 t113 t114 false _ A14.out).mono ?_); rintro e w32 ⟨v116, rfl, ho0, hb⟩; refine ⟨_, rfl, ?_⟩; have n0_ := Aside0.mk (Kd.R_elder' (by (with_reducible repeat (first | apply Kd.R_alloc | apply Kd.R_drewN | apply Kd.R_drew)); exact HO112.out) (Kd.R_base ho0) hb); have n1_ := Aside0.mk (Kd.R_lower (Kd.R_new' ho0 (Kd.R_lt (by (with_reducible repeat (first | apply Kd.R_alloc | apply Kd.R_drewN | apply Kd.R_drew)); exact HO112.out))) (below_size (by repeat (first | (with_reducible first | exact HB.out | apply below_alloc | apply pw_below_drewN | apply below_drew1) | exact HB.out)))); have n2_ := Aside0.mk (below_step (by repeat (first | (with_reducible first | exact HB.out | apply below_alloc | apply pw_below_drewN | apply below_drew1) | exact HB.out)) hb); clear HO112; clear HB; have HO112 := n0_; have HO117 := n1_; have HB := n2_; clear n0_ n1_ n2_; (try clear hb); (try clear hb2); (try clear hk); (try clear hi); (try clear ho0)) | ((with_reducible refine gate_callee (f := 12) rfl ?_); refine goesL_ (some 39) rfl rfl Tryd.func12 (by kernel_rfl) rfl #[.string (⟨#[97, 61, 61, 98]⟩ : ByteArray)] rfl (by (try simp only [List.map_toArray, List.map_cons, List.map_nil]); first | done | rfl | (simp only [List.length_drop, List.length_take]; rfl)) ?_; (with_reducible refine (impl_FieldParse.calls k (⟨#[97, 61, 61, 98]⟩ : ByteArray) t118 t119 t120 _ A15.out).mono ?_); rintro e w33 ⟨v121, rfl, ho0, hb⟩; refine ⟨_, rfl, ?_⟩; have n0_ := Aside0.mk (Kd.R_elder' (by (with_reducible repeat (first | apply Kd.R_alloc | apply Kd.R_drewN | apply Kd.R_drew)); exact HO112.out) (Kd.R_base ho0) hb); have n1_ := Aside0.mk (Kd.R_elder' (by (with_reducible repeat (first | apply Kd.R_alloc | apply Kd.R_drewN | apply Kd.R_drew)); exact HO117.out) (Kd.R_base ho0) hb); have n2_ := Aside0.mk (Kd.R_lower (Kd.R_new' (Kd.R_new' ho0 (Kd.R_lt (by (with_reducible repeat (first | apply Kd.R_alloc | apply Kd.R_drewN | apply Kd.R_drew)); exact HO112.out))) (Kd.R_lt (by (with_reducible repeat (first | apply Kd.R_alloc | apply Kd.R_drewN | apply Kd.R_drew)); exact HO117.out))) (below_size (by repeat (first | (with_reducible first | exact HB.out | apply below_alloc | apply pw_below_drewN | apply below_drew1) | exact HB.out)))); have n3_ := Aside0.mk (below_step (by repeat (first | (with_reducible first | exact HB.out | apply below_alloc | apply pw_below_drewN | apply below_drew1) | exact HB.out)) hb); clear HO112; clear HO117; clear HB; have HO112 := n0_; have HO117 := n1_; have HO122 := n2_; have HB := n3_; clear n0_ n1_ n2_ n3_; (try clear hb); (try clear hb2); (try clear hk); (try clear hi); (try clear ho0); obtain ⟨Ao34, co34, eo34⟩ := Kd.R_slice HO112.out; subst eo34; obtain ⟨Ao35, co35, eo35⟩ := Kd.R_slice HO117.out; subst eo35) | (go_at_call 13; (with_reducible refine (spec_TermsRow.calls k _ _ t108 _ _ t113 true _ ?side1 ?side2 ?side3 ?side4 A21.out).mono ?_); (case side1 => repeat (first | exact (Kd.R_reads' HO112.out).2.2 | (with_reducible refine Kd.C_alloc ?_ _) | (with_reducible refine Kd.C_drewN ?_ _) | (with_reducible refine Kd.C_drew ?_))); (case side2 => exact (Kd.R_reads' HO112.out).2.1); (case side3 => repeat (first | exact (Kd.R_reads' HO117.out).2.2 | (with_reducible refine Kd.C_alloc ?_ _) | (with_reducible refine Kd.C_drewN ?_ _) | (with_reducible refine Kd.C_drew ?_))); (case side4 => exact (Kd.R_reads' HO117.out).2.1); rintro e w' ⟨rfl, ⟨nd, rfl⟩⟩))
              go_ret
              exact ⟨by first | rfl | (simp [errW_none, errW_some] <;> rfl) | (simp [*, errW_none, errW_some] <;> rfl), by repeat (first | (with_reducible first | exact HB.out | apply below_alloc | apply pw_below_drewN | apply below_drew1) | exact HB.out)⟩
          · replace c22 := Bool.eq_false_iff.mpr c22
            subst c22
            have H1 : (some false) = some r := by rw [if_neg (show ¬ (false = true) by decide)] at H; exact H
            clear H
            have H := H1
            clear H1
            obtain rfl := Option.some.inj H
            go_enter Tryd.func4, Tryd.ntmps4
            go_wp2_with (first | ((with_reducible refine gate_callee (f := 6) rfl ?_); refine goesL_ (some 16) rfl rfl Tryd.func6 (by kernel_rfl) rfl #[.string a0] rfl (by (try simp only [List.map_toArray, List.map_cons, List.map_nil]); first | done | rfl | (simp only [List.length_drop, List.length_take]; rfl)) ?_; (with_reducible refine (laws_plainText.calls k a0 true _ A3.out).mono ?_); rintro e w36 ⟨rfl, hb⟩; refine ⟨_, rfl, ?_⟩; have n0_ := Aside0.mk (below_step (by repeat (first | (with_reducible first | exact HB.out | apply below_alloc | apply pw_below_drewN | apply below_drew1) | exact HB.out)) hb); clear HB; have HB := n0_; clear n0_; (try clear hb); (try clear hb2); (try clear hk); (try clear hi)) | ((with_reducible refine gate_callee (f := 12) rfl ?_); refine goesL_ (some 20) rfl rfl Tryd.func12 (by kernel_rfl) rfl #[.string a0] rfl (by (try simp only [List.map_toArray, List.map_cons, List.map_nil]); first | done | rfl | (simp only [List.length_drop, List.length_take]; rfl)) ?_; (with_reducible refine (impl_FieldParse.calls k a0 t108 t109 false _ A5.out).mono ?_); rintro e w37 ⟨v111, rfl, ho0, hb⟩; refine ⟨_, rfl, ?_⟩; have n0_ := Aside0.mk (Kd.R_lower ho0 (below_size (by repeat (first | (with_reducible first | exact HB.out | apply below_alloc | apply pw_below_drewN | apply below_drew1) | exact HB.out)))); have n1_ := Aside0.mk (below_step (by repeat (first | (with_reducible first | exact HB.out | apply below_alloc | apply pw_below_drewN | apply below_drew1) | exact HB.out)) hb); clear HB; have HO112 := n0_; have HB := n1_; clear n0_ n1_; (try clear hb); (try clear hb2); (try clear hk); (try clear hi); (try clear ho0)) | ((with_reducible refine gate_callee (f := 12) rfl ?_); refine goesL_ (some 34) rfl rfl Tryd.func12 (by kernel_rfl) rfl #[.string t109] rfl (by (try simp only [List.map_toArray, List.map_cons, List.map_nil]); first | done | rfl | (simp only [List.length_drop, List.length_take]; rfl)) ?_; (with_reducible refine (impl_FieldParse.calls k t109 t113 t114 false _ A14.out).mono ?_); rintro e w38 ⟨v116, rfl, ho0, hb⟩; refine ⟨_, rfl, ?_⟩; have n0_ := Aside0.mk (Kd.R_elder' (by (with_reducible repeat (first | apply Kd.R_alloc | apply Kd.R_drewN | apply Kd.R_drew)); exact HO112.out) (Kd.R_base ho0) hb); have n1_ := Aside0.mk (Kd.R_lower (Kd.R_new' ho0 (Kd.R_lt (by (with_reducible repeat (first | apply Kd.R_alloc | apply Kd.R_drewN | apply Kd.R_drew)); exact HO112.out))) (below_size (by repeat (first | (with_reducible first | exact HB.out | apply below_alloc | apply pw_below_drewN | apply below_drew1) | exact HB.out)))); have n2_ := Aside0.mk (below_step (by repeat (first | (with_reducible first | exact HB.out | apply below_alloc | apply pw_below_drewN | apply below_drew1) | exact HB.out)) hb); clear HO112; clear HB; have HO112 := n0_; have HO117 := n1_; have HB := n2_; clear n0_ n1_ n2_; (try clear hb); (try clear hb2); (try clear hk); (try clear hi); (try clear ho0)) | ((with_reducible refine gate_callee (f := 12) rfl ?_); refine goesL_ (some 39) rfl rfl Tryd.func12 (by kernel_rfl) rfl #[.string (⟨#[97, 61, 61, 98]⟩ : ByteArray)] rfl (by (try simp only [List.map_toArray, List.map_cons, List.map_nil]); first | done | rfl | (simp only [List.length_drop, List.length_take]; rfl)) ?_; (with_reducible refine (impl_FieldParse.calls k (⟨#[97, 61, 61, 98]⟩ : ByteArray) t118 t119 t120 _ A15.out).mono ?_); rintro e w39 ⟨v121, rfl, ho0, hb⟩; refine ⟨_, rfl, ?_⟩; have n0_ := Aside0.mk (Kd.R_elder' (by (with_reducible repeat (first | apply Kd.R_alloc | apply Kd.R_drewN | apply Kd.R_drew)); exact HO112.out) (Kd.R_base ho0) hb); have n1_ := Aside0.mk (Kd.R_elder' (by (with_reducible repeat (first | apply Kd.R_alloc | apply Kd.R_drewN | apply Kd.R_drew)); exact HO117.out) (Kd.R_base ho0) hb); have n2_ := Aside0.mk (Kd.R_lower (Kd.R_new' (Kd.R_new' ho0 (Kd.R_lt (by (with_reducible repeat (first | apply Kd.R_alloc | apply Kd.R_drewN | apply Kd.R_drew)); exact HO112.out))) (Kd.R_lt (by (with_reducible repeat (first | apply Kd.R_alloc | apply Kd.R_drewN | apply Kd.R_drew)); exact HO117.out))) (below_size (by repeat (first | (with_reducible first | exact HB.out | apply below_alloc | apply pw_below_drewN | apply below_drew1) | exact HB.out)))); have n3_ := Aside0.mk (below_step (by repeat (first | (with_reducible first | exact HB.out | apply below_alloc | apply pw_below_drewN | apply below_drew1) | exact HB.out)) hb); clear HO112; clear HO117; clear HB; have HO112 := n0_; have HO117 := n1_; have HO122 := n2_; have HB := n3_; clear n0_ n1_ n2_ n3_; (try clear hb); (try clear hb2); (try clear hk); (try clear hi); (try clear ho0); obtain ⟨Ao40, co40, eo40⟩ := Kd.R_slice HO112.out; subst eo40; obtain ⟨Ao41, co41, eo41⟩ := Kd.R_slice HO117.out; subst eo41) | (go_at_call 13; (with_reducible refine (spec_TermsRow.calls k _ _ t108 _ _ t113 false _ ?side1 ?side2 ?side3 ?side4 A21.out).mono ?_); (case side1 => repeat (first | exact (Kd.R_reads' HO112.out).2.2 | (with_reducible refine Kd.C_alloc ?_ _) | (with_reducible refine Kd.C_drewN ?_ _) | (with_reducible refine Kd.C_drew ?_))); (case side2 => exact (Kd.R_reads' HO112.out).2.1); (case side3 => repeat (first | exact (Kd.R_reads' HO117.out).2.2 | (with_reducible refine Kd.C_alloc ?_ _) | (with_reducible refine Kd.C_drewN ?_ _) | (with_reducible refine Kd.C_drew ?_))); (case side4 => exact (Kd.R_reads' HO117.out).2.1); rintro e w' ⟨rfl, ⟨nd, rfl⟩⟩))
            go_ret
            exact ⟨by first | rfl | (simp [errW_none, errW_some] <;> rfl) | (simp [*, errW_none, errW_some] <;> rfl), by repeat (first | (with_reducible first | exact HB.out | apply below_alloc | apply pw_below_drewN | apply below_drew1) | exact HB.out)⟩
    · replace c4 := Bool.eq_false_iff.mpr c4
      subst c4
      have H1 : (some true) = some r := by rw [if_neg (show ¬ (false = true) by decide)] at H; exact H
      clear H
      have H := H1
      clear H1
      obtain rfl := Option.some.inj H
      go_enter Tryd.func4, Tryd.ntmps4
      go_wp2_with (first | ((with_reducible refine gate_callee (f := 6) rfl ?_); refine goesL_ (some 16) rfl rfl Tryd.func6 (by kernel_rfl) rfl #[.string a0] rfl (by (try simp only [List.map_toArray, List.map_cons, List.map_nil]); first | done | rfl | (simp only [List.length_drop, List.length_take]; rfl)) ?_; (with_reducible refine (laws_plainText.calls k a0 false _ A3.out).mono ?_); rintro e w42 ⟨rfl, hb⟩; refine ⟨_, rfl, ?_⟩; have n0_ := Aside0.mk (below_step (by repeat (first | (with_reducible first | exact HB.out | apply below_alloc | apply pw_below_drewN | apply below_drew1) | exact HB.out)) hb); clear HB; have HB := n0_; clear n0_; (try clear hb); (try clear hb2); (try clear hk); (try clear hi)))
      go_ret
      exact ⟨by first | rfl | (simp [errW_none, errW_some] <;> rfl) | (simp [*, errW_none, errW_some] <;> rfl), by repeat (first | (with_reducible first | exact HB.out | apply below_alloc | apply pw_below_drewN | apply below_drew1) | exact HB.out)⟩

/-- THE ONE PURE STATEMENT of laws_FnFieldAgain: yours. -/
def laws_FnFieldAgain.Pure : Prop := ∀ (a0 : ByteArray), a0.size ≤ 140737488351232 → ∃ k, laws_FnFieldAgain.f k a0 = some true
theorem laws_FnFieldAgain.walk (P : laws_FnFieldAgain.Pure) (a0 : ByteArray) (w : World) (w0 : a0.size ≤ 140737488351232) :
    Calls Tryd.prog 4 #[.string a0] w fun e w' => e = .returned (.bool true) ∧ Below w.heap.size w w' := by
  obtain ⟨k, h⟩ := P a0 w0
  refine (laws_FnFieldAgain.calls k a0 true w h).mono ?_
  rintro e w' ⟨rfl, hd⟩
  exact ⟨rfl, hd⟩

end Go.Proofs.YtccdnmachpepcaaDoor.XFnFieldAgain
