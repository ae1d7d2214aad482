/- For every text (none longer than 2^31 - 1 bytes): a piece is cut at its first operator, '!=', '==' or '='; the program's walk over the text's runes finds the operator that a walk over its bytes finds. -/
import Derived.Test.YtehgokciafpnbaaXFnFieldPiecex
import Derived.Test.YtehgokciafpnbaaStr
namespace Go.Proofs.Ytehgokciafpnbaa.Pure
open Go.RowKit Go.Proofs.Ytehgokciafpnbaa.XFnFieldPiece Go.Proofs.YtehgokciafpnbaaW.PrintWords Go.Proofs.YtehgokciafpnbaaW.PrintLast Go.Proofs.Ytehgokciafpnbaa.EvL Go.Proofs.Ytehgokciafpnbaa.Str

theorem data_L (s : ByteArray) : s.data.toList = L s := rfl

theorem cut_l0 (s : ByteArray) (hs : s.size < 4611686018427387904) (n : Nat) : ∀ i : Nat, s.size - i = n → i ≤ s.size → Ev (fun k => spec_FieldCut.l0 k s i) (cutFrom s n i) := by
  have hz := size_L s
  induction n with
  | zero =>
    intro i hn hi
    exact Ev.step (fun k => spec_FieldCut.l0.eq_2 ..) (ifn (by omega) (now rfl))
  | succ n ih =>
    intro i hn hi
    have hlt : i < (L s).length := by omega
    have w1 : wrap64 ((i : Int) + 1) = ((i + 1 : Nat) : Int) := w64 (by omega) (by omega)
    have w2 : wrap64 ((i : Int) + 2) = ((i + 2 : Nat) : Int) := w64 (by omega) (by omega)
    have hcut : (s.extract ((i : Int)).toNat (((i + 2 : Nat) : Int)).toNat).toList = ((L s).drop i).take 2 := by
      rw [toList_L, L_extract, show ((i : Int)).toNat = i from by omega, show (((i + 2 : Nat) : Int)).toNat - i = 2 from by omega]
    have hb := bt_L s i hlt
    have hd : (L s).drop i = (L s)[i] :: (L s).drop (i + 1) := List.drop_eq_getElem_cons hlt
    have two : ∀ op : ByteArray, L op = ((L s).drop i).take 2 → op.size = 2 → i + 1 < s.size → XFnFieldPiece.opAt s i = some op → Ev (fun k => spec_FieldCut.j1 k s i true) (cutFrom s (n + 1) i) := by
      intro op ho h2 h1 hat
      refine Ev.step (fun k => spec_FieldCut.j1.eq_2 ..) (ifp rfl (ifp (by omega) (ifp (by omega) ?_)))
      rw [w2]
      refine ifp (by omega) (ifp (by omega) (ifp (by omega) (now ?_)))
      unfold cutFrom
      rw [hat]
      have e1 : s.extract ((i : Int)).toNat (((i + 2 : Nat) : Int)).toNat = op := L_inj (by rw [← toList_L, hcut, ho])
      rw [e1]
      simp only [Prod.mk.injEq, and_true, true_and]
      rw [h2]
      exact ⟨rfl, rfl⟩
    have one : XFnFieldPiece.opAt s i = (if (L s)[i] = 61 then some ⟨#[61]⟩ else none) → Ev (fun k => spec_FieldCut.j1 k s i false) (cutFrom s (n + 1) i) := by
      intro hat
      refine Ev.step (fun k => spec_FieldCut.j1.eq_2 ..) (ifn (by simp) (ifp (by omega) (ifp (by omega) ?_)))
      rw [hb, w1]
      by_cases h : (L s)[i] = 61
      · refine ifp (by rw [h]; rfl) (ifp (by omega) (ifp (by omega) (ifp (by omega) (now ?_))))
        rw [if_pos h] at hat
        unfold cutFrom
        rw [hat]
        rfl
      · refine ifn (fun e => h ((byte_eq (b := 61)).1 e)) ?_
        rw [if_neg h] at hat
        unfold cutFrom
        rw [hat]
        exact ih (i + 1) (by omega) (by omega)
    have t1 : ∀ (x : UInt8) (l : List UInt8), ((x :: l).take 1 = [61]) = (x = 61) := by intro x l; simp
    refine Ev.step (fun k => spec_FieldCut.l0.eq_2 ..) (ifp (by omega) ?_)
    rw [w1, w2]
    by_cases h1 : i + 1 < s.size
    · refine ifp (by omega) (ifp (by omega) (ifp (by omega) (ifp (by omega) ?_)))
      rw [hcut]
      by_cases ha : ((L s).drop i).take 2 = [33, 61]
      · refine ifp ha (two ⟨#[33, 61]⟩ (by rw [ha]; rfl) rfl h1 ?_)
        unfold XFnFieldPiece.opAt; rw [data_L, if_pos ha]
      · refine ifn ha ?_
        by_cases hbb : ((L s).drop i).take 2 = [61, 61]
        · rw [show (((L s).drop i).take 2 == [61, 61]) = true from beq_iff_eq.2 hbb]
          refine two ⟨#[61, 61]⟩ (by rw [hbb]; rfl) rfl h1 ?_
          unfold XFnFieldPiece.opAt; rw [data_L, if_neg ha, if_pos hbb]
        · rw [show (((L s).drop i).take 2 == [61, 61]) = false from beq_eq_false_iff_ne.2 hbb]
          refine one ?_
          unfold XFnFieldPiece.opAt; rw [data_L, if_neg ha, if_neg hbb, hd]
          by_cases h : (L s)[i] = 61
          · rw [if_pos (by rw [t1]; exact h), if_pos h]
          · rw [if_neg (by rw [t1]; exact h), if_neg h]
    · refine ifn (by omega) (one ?_)
      have hl : ((L s).drop i).length = 1 := by rw [List.length_drop]; omega
      have n2 : ∀ a b : UInt8, ¬ ((L s).drop i).take 2 = [a, b] := by
        intro a b e
        have := congrArg List.length e
        rw [List.length_take] at this
        simp at this
        omega
      unfold XFnFieldPiece.opAt; rw [data_L, if_neg (n2 _ _), if_neg (n2 _ _), hd]
      by_cases h : (L s)[i] = 61
      · rw [if_pos (by rw [t1]; exact h), if_pos h]
      · rw [if_neg (by rw [t1]; exact h), if_neg h]

theorem piece_ev (s : ByteArray) (hs : s.size < 4611686018427387904) : Ev (fun k => impl_FieldPiece.f k s) (cutFrom s s.size 0) := by
  unfold impl_FieldPiece.f
  exact ifp hs (now rfl)

theorem FnFieldPiece : laws_FnFieldPiece.Pure := by
  intro s _
  refine Ev.rounds ?_
  unfold laws_FnFieldPiece.f
  by_cases z0 : (s.size : Int) > 2147483647
  · exact ifp z0 (Ev.now _)
  · refine ifn z0 ((piece_ev s (by omega)).bind ?_)
    have hc := cut_l0 s (by omega) s.size 0 (by omega) (by omega)
    refine Ev.bind (a := cutFrom s s.size 0) (by unfold spec_FieldCut.f; exact hc) ?_
    refine (piece_ev (⟨#[97, 61, 98]⟩ : ByteArray) (by decide)).bind ?_
    have e3 : (cutFrom (⟨#[97, 61, 98]⟩ : ByteArray) (⟨#[97, 61, 98]⟩ : ByteArray).size 0).2.2.2 = true := by decide
    rw [e3]
    refine ifp (by simp) ?_
    by_cases h : (cutFrom s s.size 0).2.2.2 = true
    · exact ifp h (ifp rfl (ifp rfl (ifp rfl (Ev.now _))))
    · exact ifn h (Ev.now _)

end Go.Proofs.Ytehgokciafpnbaa.Pure
