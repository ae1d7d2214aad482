/- A text of this session: the functions of the law FnFieldExact, by a program that calls the kit's print and lays this session's own contracts of single functions beside. -/
import Derived.Test.YtccdnmachpepcaaDoorXHpx0
namespace Go.Proofs.YtccdnmachpepcaaDoor.XHp
open Go.RowKit Go.Proofs.YtccdnmachpepcaaDoorW.PrintWords Go.Proofs.YtccdnmachpepcaaDoorW.PrintLast Go.Proofs.YtccdnmachpepcaaDoorW.PrintMore
attribute [local go_sem] max2_int min2_int max_two min_two max_three min_three max_four min_four   -- for this text's walks alone
set_option linter.unusedVariables false
set_option linter.unusedSimpArgs false

-- NOT PRINTED: function 14 (laws_zzFits3)

-- NOT PRINTED: function 5 (laws_zzFits2)

-- NOT PRINTED: function 6 (laws_plainText)

-- NOT PRINTED: function 15 (spec_sorted)

-- NOT PRINTED: function 16 (spec_FieldPieces)

-- NOT PRINTED: function 17 (spec_FieldCut)

-- NOT PRINTED: function 22 (spec_fieldSign)

-- NOT PRINTED: function 18 (spec_Unescape)

-- NOT PRINTED: function 7 (spec_FieldTerms)

-- NOT PRINTED: function 25 (fields_splitTerms)

-- NOT PRINTED: function 45 (bits_Len32)

-- NOT PRINTED: function 46 (bits_Len64)

-- NOT PRINTED: function 37 (bits_Len)

-- NOT PRINTED: function 47 (sort_insertionSort)

-- NOT PRINTED: function 59 (sort_siftDown)

-- NOT PRINTED: function 48 (sort_heapSort)

-- NOT PRINTED: function 60 (sort_nextPowerOfTwo)

-- NOT PRINTED: function 61 (sort_xorshift_Next)

-- NOT PRINTED: function 49 (sort_breakPatterns)

-- NOT PRINTED: function 65 (sort_order2)

-- NOT PRINTED: function 63 (sort_median)

-- NOT PRINTED: function 62 (sort_medianAdjacent)

-- NOT PRINTED: function 50 (sort_choosePivot)

-- NOT PRINTED: function 51 (sort_reverseRange)

-- NOT PRINTED: function 52 (sort_partialInsertionSort)

-- NOT PRINTED: function 53 (sort_partitionEqual)

-- NOT PRINTED: function 54 (sort_partition)

-- NOT PRINTED: function 38 (sort_pdqsort)

-- NOT PRINTED: function 31 (sort_Sort)

-- NOT PRINTED: function 26 (sort_StringSlice_Sort)

/-! ### stringslite_HasPrefix: function 39 -/
def stringslite_HasPrefix.f (a0 : ByteArray) (a1 : ByteArray) : Option (Bool) := if (a0.size : Int) ≥ (a1.size : Int) then (if 0 ≤ (a1.size : Int) then (if (a1.size : Int) ≤ (a0.size : Int) then (some ((a0.extract 0 ((a1.size : Int) : Int).toNat).toList == a1.toList)) else (none)) else (none)) else (some false)
set_option maxHeartbeats 8000000 in
set_option maxRecDepth 100000 in
theorem stringslite_HasPrefix.calls (a0 : ByteArray) (a1 : ByteArray) (r : Bool) (w : World) (h : stringslite_HasPrefix.f a0 a1 = some r) :
    Calls Tryd.prog 39 #[.string a0, .string a1] w fun e w' => e = .returned (.bool r) ∧ Drawn0 w w' := by
  have H : (if (a0.size : Int) ≥ (a1.size : Int) then (if 0 ≤ (a1.size : Int) then (if (a1.size : Int) ≤ (a0.size : Int) then (some ((a0.extract 0 ((a1.size : Int) : Int).toNat).toList == a1.toList)) else (none)) else (none)) else (some false)) = some r := h
  clear h
  by_cases c3 : (a0.size : Int) ≥ (a1.size : Int)
  · rw [if_pos c3] at H
    have c3b0 : decide ((a1.size : Int) ≤ (a0.size : Int)) = true := decide_eq_true c3
    have c3b1 : decide (a1.size ≤ a0.size) = true := decide_eq_true (Int.ofNat_le.mp c3)
    clear c3
    by_cases c4 : 0 ≤ (a1.size : Int)
    · rw [if_pos c4] at H
      have c4b0 := eq_true c4
      have c4b1 : decide (0 ≤ (a1.size : Int)) = true := decide_eq_true c4
      clear c4
      by_cases c5 : (a1.size : Int) ≤ (a0.size : Int)
      · rw [if_pos c5] at H
        have c5b0 := eq_true c5
        have c5b1 : decide ((a1.size : Int) ≤ (a0.size : Int)) = true := decide_eq_true c5
        clear c5
        obtain rfl := Option.some.inj H
        go_enter Tryd.func39, Tryd.ntmps39
        go_wp2
        go_ret
        exact ⟨by first | rfl | (simp; done) | (simp [*]; done), by repeat (first | exact Drawn0.refl _ | apply Drawn0.step)⟩
      · rw [if_neg c5] at H
        exact absurd H (by simp)
    · rw [if_neg c4] at H
      exact absurd H (by simp)
  · rw [if_neg c3] at H
    have c3b0 : decide ((a1.size : Int) ≤ (a0.size : Int)) = false := decide_eq_false c3
    have c3b1 : decide (a1.size ≤ a0.size) = false := decide_eq_false (fun h => c3 (Int.ofNat_le.mpr h))
    clear c3
    obtain rfl := Option.some.inj H
    go_enter Tryd.func39, Tryd.ntmps39
    go_wp2
    go_ret
    exact ⟨by first | rfl | (simp; done) | (simp [*]; done), by repeat (first | exact Drawn0.refl _ | apply Drawn0.step)⟩

/-! ### strings_HasPrefix: function 32 -/
def strings_HasPrefix.f (a0 : ByteArray) (a1 : ByteArray) : Option (Bool) := (stringslite_HasPrefix.f a0 a1).bind fun t101 => (some t101)
set_option maxHeartbeats 8000000 in
set_option maxRecDepth 100000 in
theorem strings_HasPrefix.calls (a0 : ByteArray) (a1 : ByteArray) (r : Bool) (w : World) (h : strings_HasPrefix.f a0 a1 = some r) :
    Calls Tryd.prog 32 #[.string a0, .string a1] w fun e w' => e = .returned (.bool r) ∧ Drawn0 w w' := by
  have H : ((stringslite_HasPrefix.f a0 a1).bind fun t101 => (some t101)) = some r := h
  clear h
  replace H := Option.bind_eq_some_iff.mp H
  obtain ⟨t101, A30, H⟩ := H
  replace H : (some t101) = some r := H
  have A3 := Aside0.mk A30
  clear A30
  obtain rfl := Option.some.inj H
  go_enter Tryd.func32, Tryd.ntmps32
  go_wp2_with (first | ((with_reducible refine gate_callee (f := 39) rfl ?_); refine goesL_ (some 7) rfl rfl Tryd.func39 (by kernel_rfl) rfl #[.string a0, .string a1] rfl (by (try simp only [List.map_toArray, List.map_cons, List.map_nil]); first | done | rfl | (simp only [List.length_drop, List.length_take]; rfl)) ?_; (with_reducible refine (stringslite_HasPrefix.calls a0 a1 t101 _ A3.out).mono ?_); rintro e w' ⟨rfl, ⟨nd, rfl⟩⟩; refine ⟨_, rfl, ?_⟩))
  go_ret
  exact ⟨by first | rfl | (simp; done) | (simp [*]; done), by repeat (first | exact Drawn0.refl _ | apply Drawn0.step)⟩

-- NOT PRINTED: function 27 (fields_splitTerm)

-- NOT PRINTED: function 28 (errors_New)

-- NOT PRINTED: function 40 (fields_zzIndexAny)

-- NOT PRINTED: function 33 (fields_zzContainsAny)

-- NOT PRINTED: function 34 (bytes_NewBuffer)

-- NOT PRINTED: function 42 (bytes_Buffer_tryGrowByReslice)

-- NOT PRINTED: function 55 (bytes_Buffer_Len)

-- NOT PRINTED: function 56 (bytes_Buffer_Reset)

-- NOT PRINTED: function 57 (bytes_growSlice)

-- NOT PRINTED: function 43 (bytes_Buffer_grow)

-- NOT PRINTED: function 41 (bytes_Buffer_WriteByte)

-- NOT PRINTED: function 58 (utf8_appendRuneNonASCII)

-- NOT PRINTED: function 44 (utf8_AppendRune)

-- NOT PRINTED: function 35 (bytes_Buffer_WriteRune)

-- NOT PRINTED: function 36 (bytes_Buffer_String)

-- NOT PRINTED: function 29 (fields_UnescapeValue)

-- NOT PRINTED: function 30 (fields_andTerm_Transform)

-- NOT PRINTED: function 23 (fields_parseSelector)

-- NOT PRINTED: function 19 (fields_ParseSelector)

-- NOT PRINTED: function 8 (impl_FieldExact)

-- NOT PRINTED: function 9 (spec_FieldExact)

-- NOT PRINTED: function 20 (impl_fieldSet)

-- NOT PRINTED: function 10 (impl_FieldMatch)

-- NOT PRINTED: function 11 (spec_Find)

-- NOT PRINTED: function 3 (laws_FnFieldExact)

end Go.Proofs.YtccdnmachpepcaaDoor.XHp
