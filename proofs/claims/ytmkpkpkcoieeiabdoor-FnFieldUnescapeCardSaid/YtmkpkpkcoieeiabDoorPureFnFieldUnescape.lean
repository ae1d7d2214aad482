/- For every text that is UTF-8 (none longer than 2^31 - 1 bytes): the program's reading of it, sign by sign, is the reference's, byte by byte; and what is read is escaped to the text. -/
import Derived.Test.YtmkpkpkcoieeiabDoorXFnFieldUnescapex
import Derived.Test.YtmkpkpkcoieeiabDoorStr
import Derived.Test.YtmkpkpkcoieeiabDoorQFnFieldUnescape
set_option linter.unusedVariables false
namespace Go.Proofs.YtmkpkpkcoieeiabDoor.Pure
open Go.RowKit Go.Proofs.YtmkpkpkcoieeiabDoor.XFnFieldUnescape Go.Proofs.YtmkpkpkcoieeiabDoorW.PrintWords Go.Proofs.YtmkpkpkcoieeiabDoorW.PrintLast Go.Proofs.YtmkpkpkcoieeiabDoor.EvL Go.Proofs.YtmkpkpkcoieeiabDoor.Str
theorem one (n : Nat) : L (strOfNums [(n : Int)]) = [UInt8.ofNat n] := rfl
theorem one_size (n : Nat) : (strOfNums [(n : Int)]).size = 1 := rfl
theorem fs (b : UInt8) : spec_fieldSign.f (b.toNat : Int) = some (FuM.sg b.toNat) := by
  unfold spec_fieldSign.f FuM.sg
  by_cases h1 : b.toNat = 92
  · rw [if_pos (by omega), h1]; rfl
  · rw [if_neg (by omega)]
    by_cases h2 : b.toNat = 44
    · rw [if_pos (by omega), h2]; rfl
    · rw [if_neg (by omega)]
      by_cases h3 : b.toNat = 61
      · rw [h3]; rfl
      · have e1 : ((b.toNat : Int) == 61) = false := beq_eq_false_iff_ne.mpr (by omega)
        rw [e1]
        simp [h1, h2, h3]
/-- The reference's answer. -/
def ans (r : Option (List UInt8)) : ByteArray × Bool := match r with | some x => (⟨x.toArray⟩, true) | none => (⟨#[]⟩, false)
theorem un_l0 (s : ByteArray) (hs : s.size < 4611686018427387904) : ∀ (n i : Nat) (acc : ByteArray), s.size - i ≤ n → i ≤ s.size → acc.size ≤ i → Ev (fun k => spec_Unescape.l0 k s acc (i : Int)) (ans (FuM.ub ((L s).drop i) false (L acc))) := by
  intro n
  have hz := size_L s
  induction n with
  | zero =>
    intro i acc hn hi ha
    rw [List.drop_of_length_le (by omega)]
    refine Ev.step (fun k => spec_Unescape.l0.eq_2 ..) (ifn (by omega) (now ?_))
    show (acc, true) = (⟨(L acc).toArray⟩, true)
    rw [← L_of]
  | succ n ih =>
    intro i acc hn hi ha
    by_cases hlt : i < (L s).length
    · have w1 : wrap64 ((i : Int) + 1) = ((i + 1 : Nat) : Int) := w64 (by omega) (by omega)
      have hb := bt_L s i hlt
      have hd : (L s).drop i = (L s)[i] :: (L s).drop (i + 1) := List.drop_eq_getElem_cons hlt
      rw [hd]
      generalize (L s)[i] = b at *
      have hf := fs b
      have hob : UInt8.ofNat b.toNat = b := by simp
      refine Ev.step (fun k => spec_Unescape.l0.eq_2 ..) (ifp (by omega) (ifp (by omega) (cb (by rw [hb]; exact hf) ?_)))
      cases hsg : FuM.sg b.toNat with
      | true =>
        refine ifp rfl ?_
        by_cases h92 : b.toNat = 92
        · refine ifp (by rw [hb]; omega) ?_
          have eu : FuM.ub (b :: (L s).drop (i + 1)) false (L acc) = FuM.ub ((L s).drop (i + 1)) true (L acc) := by simp only [FuM.ub, if_pos h92]
          rw [eu]
          by_cases hend : i + 1 = s.size
          · refine ifp (by rw [w1]; omega) (now ?_)
            rw [List.drop_of_length_le (by omega)]
            rfl
          · have hlt2 : i + 1 < (L s).length := by omega
            have w2 : wrap64 (((i + 1 : Nat) : Int) + 1) = ((i + 2 : Nat) : Int) := w64 (by omega) (by omega)
            have hb2 := bt_L s (i + 1) hlt2
            have hd2 : (L s).drop (i + 1) = (L s)[i + 1] :: (L s).drop (i + 2) := List.drop_eq_getElem_cons hlt2
            rw [hd2]
            generalize (L s)[i + 1] = c at *
            have hf2 := fs c
            have hoc : UInt8.ofNat c.toNat = c := by simp
            refine ifn (by rw [w1]; omega) (ifp (by rw [w1]; omega) (ifp (by rw [w1]; omega) (cb (by rw [w1, hb2]; exact hf2) ?_)))
            cases hsc : FuM.sg c.toNat with
            | true =>
              refine ifp rfl (sb ?_)
              rw [w1, hb2, w2]
              refine ifp (by rw [one_size]; omega) ?_
              have := ih (i + 2) (acc ++ strOfNums [(c.toNat : Int)]) (by omega) (by omega) (by rw [size_L, L_append, one, List.length_append, ← size_L]; simp; omega)
              rw [L_append, one, hoc] at this
              have e2 : FuM.ub (c :: (L s).drop (i + 2)) true (L acc) = FuM.ub ((L s).drop (i + 2)) false (L acc ++ [c]) := by simp only [FuM.ub, hsc, if_true]
              rw [e2]
              exact this
            | false =>
              refine ifn (by decide) (now ?_)
              have e2 : FuM.ub (c :: (L s).drop (i + 2)) true (L acc) = none := by simp [FuM.ub, hsc]
              rw [e2]
              rfl
        · refine ifn (by rw [hb]; omega) (now ?_)
          have h2 : b.toNat = 44 ∨ b.toNat = 61 := by
            simp only [FuM.sg, Bool.or_eq_true, beq_iff_eq] at hsg
            omega
          have e2 : FuM.ub (b :: (L s).drop (i + 1)) false (L acc) = none := by simp only [FuM.ub, if_neg h92, if_pos h2]
          rw [e2]
          rfl
      | false =>
        refine ifn (by decide) (sb ?_)
        rw [hb, w1]
        refine ifp (by rw [one_size]; omega) ?_
        have := ih (i + 1) (acc ++ strOfNums [(b.toNat : Int)]) (by omega) (by omega) (by rw [size_L, L_append, one, List.length_append, ← size_L]; simp; omega)
        rw [L_append, one, hob] at this
        simp only [FuM.sg, Bool.or_eq_false_iff, beq_eq_false_iff_ne] at hsg
        have h1 : ¬ b.toNat = 92 := hsg.1.1
        have h2 : ¬ (b.toNat = 44 ∨ b.toNat = 61) := fun e => e.elim hsg.1.2 hsg.2
        have e2 : FuM.ub (b :: (L s).drop (i + 1)) false (L acc) = FuM.ub ((L s).drop (i + 1)) false (L acc ++ [b]) := by simp only [FuM.ub, if_neg h1, if_neg h2]
        rw [e2]
        exact this
    · rw [List.drop_of_length_le (by omega)]
      refine Ev.step (fun k => spec_Unescape.l0.eq_2 ..) (ifn (by omega) (now ?_))
      show (acc, true) = (⟨(L acc).toArray⟩, true)
      rw [← L_of]
def ns (l : List UInt8) : List Int := l.map fun b => (b.toNat : Int)
theorem str_ns (l : List UInt8) : strOfNums (ns l) = ⟨l.toArray⟩ := by
  apply L_inj
  rw [L_mk]
  unfold strOfNums L ns
  rw [List.map_map]
  exact (List.map_congr_left (g := id) (fun a _ => by simp)).trans (List.map_id _)
theorem es_l0 (s : ByteArray) (hs : s.size ≤ 2147483647) : ∀ (n i : Nat) (acc : List UInt8), s.size - i ≤ n → i ≤ s.size → acc.length ≤ 2 * i → Ev (fun k => fields_EscapeValue.l0 k s (ns acc) (i : Int)) (⟨(acc ++ FuM.esc ((L s).drop i)).toArray⟩ : ByteArray) := by
  intro n
  have hz := size_L s
  induction n with
  | zero =>
    intro i acc hn hi ha
    rw [List.drop_of_length_le (by omega)]
    refine Ev.step (fun k => fields_EscapeValue.l0.eq_2 ..) (ifn (by omega) (now ?_))
    rw [str_ns]
    simp [FuM.esc]
  | succ n ih =>
    intro i acc hn hi ha
    by_cases hlt : i < (L s).length
    · have w1 : wrap64 ((i : Int) + 1) = ((i + 1 : Nat) : Int) := w64 (by omega) (by omega)
      have hb := bt_L s i hlt
      have hd : (L s).drop i = (L s)[i] :: (L s).drop (i + 1) := List.drop_eq_getElem_cons hlt
      rw [hd]
      generalize (L s)[i] = b at *
      have hl : (ns acc).length = acc.length := by simp [ns]
      have two : FuM.sg b.toNat = true → Ev (fun k => if (ns acc).length < 140737488355328 then ((some (ns acc ++ [92] : List Int)).bind fun y109 => (if y109.length < 140737488355328 then (fields_EscapeValue.l0 k s (y109 ++ [bt s i]) (wrap64 ((i : Int) + 1))) else (none))) else (none)) (⟨(acc ++ FuM.esc (b :: (L s).drop (i + 1))).toArray⟩ : ByteArray) := by
        intro hsg
        refine ifp (by omega) (sb (ifp (by simp; omega) ?_))
        have := ih (i + 1) (acc ++ [92, b]) (by omega) (by omega) (by simp; omega)
        rw [hb, w1]
        have e1 : ns (acc ++ [92, b]) = ns acc ++ [92] ++ [(b.toNat : Int)] := by simp [ns]
        rw [e1] at this
        have e2 : FuM.esc (b :: (L s).drop (i + 1)) = 92 :: b :: FuM.esc ((L s).drop (i + 1)) := by simp [FuM.esc, hsg]
        rw [e2]
        rw [show acc ++ [92, b] ++ FuM.esc ((L s).drop (i + 1)) = acc ++ 92 :: b :: FuM.esc ((L s).drop (i + 1)) by simp] at this
        exact this
      refine Ev.step (fun k => fields_EscapeValue.l0.eq_2 ..) (ifp (by omega) (ifp (by omega) ?_))
      by_cases h92 : b.toNat = 92
      · exact ifp (by rw [hb]; omega) (two (by rw [h92]; rfl))
      · refine ifn (by rw [hb]; omega) ?_
        by_cases h44 : b.toNat = 44
        · exact ifp (by rw [hb]; omega) (two (by rw [h44]; rfl))
        · refine ifn (by rw [hb]; omega) ?_
          by_cases h61 : b.toNat = 61
          · exact ifp (by rw [hb]; omega) (two (by rw [h61]; rfl))
          · refine ifn (by rw [hb]; omega) (ifp (by omega) ?_)
            have := ih (i + 1) (acc ++ [b]) (by omega) (by omega) (by simp; omega)
            rw [hb, w1]
            have e1 : ns (acc ++ [b]) = ns acc ++ [(b.toNat : Int)] := by simp [ns]
            rw [e1] at this
            have hsg : FuM.sg b.toNat = false := by simp [FuM.sg, h92, h44, h61]
            have e2 : FuM.esc (b :: (L s).drop (i + 1)) = b :: FuM.esc ((L s).drop (i + 1)) := by simp [FuM.esc, hsg]
            rw [e2]
            rw [show acc ++ [b] ++ FuM.esc ((L s).drop (i + 1)) = acc ++ b :: FuM.esc ((L s).drop (i + 1)) by simp] at this
            exact this
    · rw [List.drop_of_length_le (by omega)]
      refine Ev.step (fun k => fields_EscapeValue.l0.eq_2 ..) (ifn (by omega) (now ?_))
      rw [str_ns]
      simp [FuM.esc]
theorem esc_len : ∀ l : List UInt8, l.length ≤ (FuM.esc l).length
  | [] => Nat.le_refl _
  | b :: t => by
    have := esc_len t
    simp only [FuM.esc]
    split <;> simp <;> omega
theorem pt_a : FuM.pt (⟨#[97]⟩ : ByteArray) = true := by
  have hp : (0 : Nat) < (⟨#[97]⟩ : ByteArray).size := by decide
  have hd := decode_ascii (⟨#[97]⟩ : ByteArray) 0 hp (show (97 : UInt8).toNat < 128 by decide)
  unfold FuM.pt
  rw [decide_eq_true_eq]
  show FuM.rs (⟨#[97]⟩ : ByteArray) (0 + 1) 0 = [97]
  rw [FuM.rs_step _ 0 0 hp]
  have e1 : FuM.rn (⟨#[97]⟩ : ByteArray) 0 = 97 := by unfold FuM.rn; rw [hd]; rfl
  rw [e1, FuM.en_low (by decide)]
  rfl
theorem un_a : FuM.uv (⟨#[97]⟩ : ByteArray) (⟨#[97]⟩ : ByteArray).size 0 false [] = some [97] := by
  rw [FuM.uv_ub _ _ _ _ _ (FuM.ok_start pt_a)]
  rfl
theorem FnFieldUnescape : QFnFieldUnescape.Pure := by
  intro s hs
  have hz := size_L s
  obtain ⟨b, hb⟩ : ∃ b, b = FuM.pt s := ⟨_, rfl⟩
  by_cases hbig : (s.size : Int) > 2147483647
  · exact ⟨0, by unfold laws_FnFieldUnescape.f; rw [if_pos hbig]⟩
  · have hp : laws_plainText.f 0 s = some (FuM.pt s) := by unfold laws_plainText.f; rw [if_pos (by omega)]
    have hpk : ∀ k, laws_plainText.f k s = some (FuM.pt s) := fun k => by unfold laws_plainText.f; rw [if_pos (by omega)]
    cases hpt : FuM.pt s with
    | false => exact ⟨0, by unfold laws_FnFieldUnescape.f; rw [if_neg hbig, hp, hpt]; rfl⟩
    | true =>
      have hu := FuM.uv_ub s s.size 0 false [] (FuM.ok_start hpt)
      have hrA : ∀ k, impl_FieldUnescape.f k (⟨#[97]⟩ : ByteArray) = some ((⟨#[97]⟩ : ByteArray), false) := by
        intro k
        unfold impl_FieldUnescape.f
        rw [if_pos ⟨by decide, pt_a⟩, un_a]
      have hr : ∀ k, impl_FieldUnescape.f k s = some (match FuM.ub (L s) false [] with | some x => (⟨x.toArray⟩, false) | none => (⟨#[]⟩, true)) := by
        intro k
        unfold impl_FieldUnescape.f
        rw [if_pos ⟨by omega, hpt⟩, hu]
        rfl
      have hq := un_l0 s (by omega) s.size 0 (⟨#[]⟩ : ByteArray) (by omega) (by omega) (Nat.le_refl _)
      have hq2 : Ev (fun k => spec_Unescape.f k s) (ans (FuM.ub (L s) false [])) := hq
      obtain ⟨K, hK⟩ := hq2
      cases hub : FuM.ub (L s) false [] with
      | none =>
        have e1 := hr K
        have e2 := hK K (Nat.le_refl K)
        rw [hub] at e1 e2
        refine ⟨K, ?_⟩
        unfold laws_FnFieldUnescape.f
        rw [if_neg hbig, hpk K, hpt, Option.bind_some, if_pos rfl]
        rw [e1, Option.bind_some]
        have e3 : spec_Unescape.f K s = some ((⟨#[]⟩ : ByteArray), false) := e2
        rw [e3]
        rw [Option.bind_some, hrA K, Option.bind_some]
        show some ((⟨#[97]⟩ : ByteArray).toList == ([97] : List UInt8)) = some true
        rw [toList_L]
        rfl
      | some x =>
        have hx := FuM.ub_esc (L s) [] x false hub
        have hx2 : FuM.esc x = L s := by simpa [FuM.esc] using hx
        have hlx := esc_len x
        rw [hx2, ← hz] at hlx
        have hLx : L (⟨x.toArray⟩ : ByteArray) = x := L_mk x
        have hE := es_l0 (⟨x.toArray⟩ : ByteArray) (by rw [size_L, hLx]; omega) (⟨x.toArray⟩ : ByteArray).size 0 [] (by omega) (by omega) (Nat.le_refl _)
        rw [hLx] at hE
        obtain ⟨K2, hK2⟩ := hE
        have e1 := hr (max K K2)
        have e2 := hK (max K K2) (Nat.le_max_left ..)
        have e4 := hK2 (max K K2) (Nat.le_max_right ..)
        rw [hub] at e1 e2
        refine ⟨max K K2, ?_⟩
        generalize max K K2 = M at *
        unfold laws_FnFieldUnescape.f
        rw [if_neg hbig, hpk M, hpt, Option.bind_some, if_pos rfl]
        rw [e1, Option.bind_some]
        have e3 : spec_Unescape.f M s = some ((⟨x.toArray⟩ : ByteArray), true) := e2
        rw [e3]
        rw [Option.bind_some, hrA M, Option.bind_some]
        have e5 : impl_FieldEscape.f M (⟨x.toArray⟩ : ByteArray) = some s := by
          have e6 : fields_EscapeValue.f M (⟨x.toArray⟩ : ByteArray) = some (⟨([] ++ FuM.esc (x.drop 0)).toArray⟩ : ByteArray) := e4
          unfold impl_FieldEscape.f
          rw [e6]
          rw [List.nil_append, List.drop_zero, hx2, ← L_of]
          rfl
        show (if (⟨x.toArray⟩ : ByteArray).toList = (⟨x.toArray⟩ : ByteArray).toList then ((impl_FieldEscape.f M (⟨x.toArray⟩ : ByteArray)).bind fun t138 => (if t138.toList = s.toList then (some ((⟨#[97]⟩ : ByteArray).toList == ([97] : List UInt8))) else (some false))) else (some false)) = some true
        rw [if_pos rfl, e5]
        show (if s.toList = s.toList then (some ((⟨#[97]⟩ : ByteArray).toList == ([97] : List UInt8))) else (some false)) = some true
        rw [if_pos rfl, toList_L]
        rfl
end Go.Proofs.YtmkpkpkcoieeiabDoor.Pure
