/- The reference's reading of a field selector's text is the program's: pieces, order, terms. -/
import Derived.Test.YtccdnmachpepcaaDoorXFnFieldExactx5
import Derived.Test.YtccdnmachpepcaaDoorFsJ
import Derived.Test.YtccdnmachpepcaaDoorStr
import Derived.Test.YtccdnmachpepcaaDoorEv
import Derived.Sort.Walk0
set_option linter.unusedSimpArgs false
set_option linter.unusedVariables false
namespace Go.Proofs.YtccdnmachpepcaaDoor.FsY
open Go Go.RowKit Go.Proofs.YtccdnmachpepcaaDoor.XFnFieldExact Go.Proofs.YtccdnmachpepcaaDoorW.PrintWords Go.Proofs.YtccdnmachpepcaaDoorW.PrintLast Go.Proofs.YtccdnmachpepcaaDoor.EvL Go.Proofs.YtccdnmachpepcaaDoor.Str
open Go.Proofs.YtccdnmachpepcaaDoor.FsT (B)
open Go.Proofs.YtccdnmachpepcaaDoor.FsP (goP goP_slash goP_comma goP_plain goP_true)
theorem less_iff (a b : List UInt8) : Op.bytesLess a b = true ↔ a < b := by rw [bytesLess_eq]; simp
theorem data_L (s : ByteArray) : s.data.toList = L s := rfl

theorem cut_l0 (s : ByteArray) (hs : s.size < 4611686018427387904) (n : Nat) : ∀ i : Nat, s.size - i = n → i ≤ s.size → Ev (fun k => spec_FieldCut.l0 k s i) (FsC.cutFrom s n i) := by
  have hz := size_L s
  induction n with
  | zero =>
    intro i hn hi
    exact Ev.step (fun k => spec_FieldCut.l0.eq_2 ..) (ifn (by omega) (now rfl))
  | succ n ih =>
    intro i hn hi
    have hlt : i < (L s).length := by omega
    have w1 : wrap64 ((i : Int) + 1) = ((i + 1 : Nat) : Int) := w64 (by omega) (by omega)
    have w2 : wrap64 ((i : Int) + 2) = ((i + 2 : Nat) : Int) := w64 (by omega) (by omega)
    have hcut : (s.extract ((i : Int)).toNat (((i + 2 : Nat) : Int)).toNat).toList = ((L s).drop i).take 2 := by
      rw [toList_L, L_extract, show ((i : Int)).toNat = i from by omega, show (((i + 2 : Nat) : Int)).toNat - i = 2 from by omega]
    have hb := bt_L s i hlt
    have hd : (L s).drop i = (L s)[i] :: (L s).drop (i + 1) := List.drop_eq_getElem_cons hlt
    have two : ∀ op : ByteArray, L op = ((L s).drop i).take 2 → op.size = 2 → i + 1 < s.size → FsC.opAt s i = some op → Ev (fun k => spec_FieldCut.j1 k s i true) (FsC.cutFrom s (n + 1) i) := by
      intro op ho h2 h1 hat
      refine Ev.step (fun k => spec_FieldCut.j1.eq_2 ..) (ifp rfl (ifp (by omega) (ifp (by omega) ?_)))
      rw [w2]
      refine ifp (by omega) (ifp (by omega) (ifp (by omega) (now ?_)))
      unfold FsC.cutFrom
      rw [hat]
      have e1 : s.extract ((i : Int)).toNat (((i + 2 : Nat) : Int)).toNat = op := L_inj (by rw [← toList_L, hcut, ho])
      rw [e1]
      simp only [Prod.mk.injEq, and_true, true_and]
      rw [h2]
      exact ⟨rfl, rfl⟩
    have one : FsC.opAt s i = (if (L s)[i] = 61 then some ⟨#[61]⟩ else none) → Ev (fun k => spec_FieldCut.j1 k s i false) (FsC.cutFrom s (n + 1) i) := by
      intro hat
      refine Ev.step (fun k => spec_FieldCut.j1.eq_2 ..) (ifn (by simp) (ifp (by omega) (ifp (by omega) ?_)))
      rw [hb, w1]
      by_cases h : (L s)[i] = 61
      · refine ifp (by rw [h]; rfl) (ifp (by omega) (ifp (by omega) (ifp (by omega) (now ?_))))
        rw [if_pos h] at hat
        unfold FsC.cutFrom
        rw [hat]
        rfl
      · refine ifn (fun e => h ((byte_eq (b := 61)).1 e)) ?_
        rw [if_neg h] at hat
        unfold FsC.cutFrom
        rw [hat]
        exact ih (i + 1) (by omega) (by omega)
    have t1 : ∀ (x : UInt8) (l : List UInt8), ((x :: l).take 1 = [61]) = (x = 61) := by intro x l; simp
    refine Ev.step (fun k => spec_FieldCut.l0.eq_2 ..) (ifp (by omega) ?_)
    rw [w1, w2]
    by_cases h1 : i + 1 < s.size
    · refine ifp (by omega) (ifp (by omega) (ifp (by omega) (ifp (by omega) ?_)))
      rw [hcut]
      by_cases ha : ((L s).drop i).take 2 = [33, 61]
      · refine ifp ha (two ⟨#[33, 61]⟩ (by rw [ha]; rfl) rfl h1 ?_)
        unfold FsC.opAt; rw [data_L, if_pos ha]
      · refine ifn ha ?_
        by_cases hbb : ((L s).drop i).take 2 = [61, 61]
        · rw [show (((L s).drop i).take 2 == [61, 61]) = true from beq_iff_eq.2 hbb]
          refine two ⟨#[61, 61]⟩ (by rw [hbb]; rfl) rfl h1 ?_
          unfold FsC.opAt; rw [data_L, if_neg ha, if_pos hbb]
        · rw [show (((L s).drop i).take 2 == [61, 61]) = false from beq_eq_false_iff_ne.2 hbb]
          refine one ?_
          unfold FsC.opAt; rw [data_L, if_neg ha, if_neg hbb, hd]
          by_cases h : (L s)[i] = 61
          · rw [if_pos (by rw [t1]; exact h), if_pos h]
          · rw [if_neg (by rw [t1]; exact h), if_neg h]
    · refine ifn (by omega) (one ?_)
      have hl : ((L s).drop i).length = 1 := by rw [List.length_drop]; omega
      have n2 : ∀ a b : UInt8, ¬ ((L s).drop i).take 2 = [a, b] := by
        intro a b e
        have := congrArg List.length e
        rw [List.length_take] at this
        simp at this
        omega
      unfold FsC.opAt; rw [data_L, if_neg (n2 _ _), if_neg (n2 _ _), hd]
      by_cases h : (L s)[i] = 61
      · rw [if_pos (by rw [t1]; exact h), if_pos h]
      · rw [if_neg (by rw [t1]; exact h), if_neg h]

theorem one (n : Nat) : L (strOfNums [(n : Int)]) = [UInt8.ofNat n] := rfl
theorem one_size (n : Nat) : (strOfNums [(n : Int)]).size = 1 := rfl
theorem fs (b : UInt8) : spec_fieldSign.f (b.toNat : Int) = some (FuM.sg b.toNat) := by
  unfold spec_fieldSign.f FuM.sg
  by_cases h1 : b.toNat = 92
  · rw [if_pos (by omega), h1]; rfl
  · rw [if_neg (by omega)]
    by_cases h2 : b.toNat = 44
    · rw [if_pos (by omega), h2]; rfl
    · rw [if_neg (by omega)]
      by_cases h3 : b.toNat = 61
      · rw [h3]; rfl
      · have e1 : ((b.toNat : Int) == 61) = false := beq_eq_false_iff_ne.mpr (by omega)
        rw [e1]
        simp [h1, h2, h3]
/-- The reference's answer. -/
def ans (r : Option (List UInt8)) : ByteArray × Bool := match r with | some x => (⟨x.toArray⟩, true) | none => (⟨#[]⟩, false)
theorem un_l0 (s : ByteArray) (hs : s.size < 4611686018427387904) : ∀ (n i : Nat) (acc : ByteArray), s.size - i ≤ n → i ≤ s.size → acc.size ≤ i → Ev (fun k => spec_Unescape.l0 k s acc (i : Int)) (ans (FuM.ub ((L s).drop i) false (L acc))) := by
  intro n
  have hz := size_L s
  induction n with
  | zero =>
    intro i acc hn hi ha
    rw [List.drop_of_length_le (by omega)]
    refine Ev.step (fun k => spec_Unescape.l0.eq_2 ..) (ifn (by omega) (now ?_))
    show (acc, true) = (⟨(L acc).toArray⟩, true)
    rw [← L_of]
  | succ n ih =>
    intro i acc hn hi ha
    by_cases hlt : i < (L s).length
    · have w1 : wrap64 ((i : Int) + 1) = ((i + 1 : Nat) : Int) := w64 (by omega) (by omega)
      have hb := bt_L s i hlt
      have hd : (L s).drop i = (L s)[i] :: (L s).drop (i + 1) := List.drop_eq_getElem_cons hlt
      rw [hd]
      generalize (L s)[i] = b at *
      have hf := fs b
      have hob : UInt8.ofNat b.toNat = b := by simp
      refine Ev.step (fun k => spec_Unescape.l0.eq_2 ..) (ifp (by omega) (ifp (by omega) (cb (by rw [hb]; exact hf) ?_)))
      cases hsg : FuM.sg b.toNat with
      | true =>
        refine ifp rfl ?_
        by_cases h92 : b.toNat = 92
        · refine ifp (by rw [hb]; omega) ?_
          have eu : FuM.ub (b :: (L s).drop (i + 1)) false (L acc) = FuM.ub ((L s).drop (i + 1)) true (L acc) := by simp only [FuM.ub, if_pos h92]
          rw [eu]
          by_cases hend : i + 1 = s.size
          · refine ifp (by rw [w1]; omega) (now ?_)
            rw [List.drop_of_length_le (by omega)]
            rfl
          · have hlt2 : i + 1 < (L s).length := by omega
            have w2 : wrap64 (((i + 1 : Nat) : Int) + 1) = ((i + 2 : Nat) : Int) := w64 (by omega) (by omega)
            have hb2 := bt_L s (i + 1) hlt2
            have hd2 : (L s).drop (i + 1) = (L s)[i + 1] :: (L s).drop (i + 2) := List.drop_eq_getElem_cons hlt2
            rw [hd2]
            generalize (L s)[i + 1] = c at *
            have hf2 := fs c
            have hoc : UInt8.ofNat c.toNat = c := by simp
            refine ifn (by rw [w1]; omega) (ifp (by rw [w1]; omega) (ifp (by rw [w1]; omega) (cb (by rw [w1, hb2]; exact hf2) ?_)))
            cases hsc : FuM.sg c.toNat with
            | true =>
              refine ifp rfl (sb ?_)
              rw [w1, hb2, w2]
              refine ifp (by rw [one_size]; omega) ?_
              have := ih (i + 2) (acc ++ strOfNums [(c.toNat : Int)]) (by omega) (by omega) (by rw [size_L, L_append, one, List.length_append, ← size_L]; simp; omega)
              rw [L_append, one, hoc] at this
              have e2 : FuM.ub (c :: (L s).drop (i + 2)) true (L acc) = FuM.ub ((L s).drop (i + 2)) false (L acc ++ [c]) := by simp only [FuM.ub, hsc, if_true]
              rw [e2]
              exact this
            | false =>
              refine ifn (by decide) (now ?_)
              have e2 : FuM.ub (c :: (L s).drop (i + 2)) true (L acc) = none := by simp [FuM.ub, hsc]
              rw [e2]
              rfl
        · refine ifn (by rw [hb]; omega) (now ?_)
          have h2 : b.toNat = 44 ∨ b.toNat = 61 := by
            simp only [FuM.sg, Bool.or_eq_true, beq_iff_eq] at hsg
            omega
          have e2 : FuM.ub (b :: (L s).drop (i + 1)) false (L acc) = none := by simp only [FuM.ub, if_neg h92, if_pos h2]
          rw [e2]
          rfl
      | false =>
        refine ifn (by decide) (sb ?_)
        rw [hb, w1]
        refine ifp (by rw [one_size]; omega) ?_
        have := ih (i + 1) (acc ++ strOfNums [(b.toNat : Int)]) (by omega) (by omega) (by rw [size_L, L_append, one, List.length_append, ← size_L]; simp; omega)
        rw [L_append, one, hob] at this
        simp only [FuM.sg, Bool.or_eq_false_iff, beq_eq_false_iff_ne] at hsg
        have h1 : ¬ b.toNat = 92 := hsg.1.1
        have h2 : ¬ (b.toNat = 44 ∨ b.toNat = 61) := fun e => e.elim hsg.1.2 hsg.2
        have e2 : FuM.ub (b :: (L s).drop (i + 1)) false (L acc) = FuM.ub ((L s).drop (i + 1)) false (L acc ++ [b]) := by simp only [FuM.ub, if_neg h1, if_neg h2]
        rw [e2]
        exact this
    · rw [List.drop_of_length_le (by omega)]
      refine Ev.step (fun k => spec_Unescape.l0.eq_2 ..) (ifn (by omega) (now ?_))
      show (acc, true) = (⟨(L acc).toArray⟩, true)
      rw [← L_of]

theorem B_L (s : ByteArray) : B (L s) = s := L_inj (L_mk (L s))
theorem L_B (l : List UInt8) : L (B l) = l := L_mk l
theorem rd_last (d : List ByteArray) (x : ByteArray) : rdOf ByteArray.empty (d ++ [x]) (d.length : Int) = x := by
  unfold rdOf
  rw [Int.toNat_natCast, List.getD_eq_getElem?_getD, List.getElem?_append_right (Nat.le_refl _)]
  simp
theorem set_last (d : List ByteArray) (x y : ByteArray) : (d ++ [x]).set d.length y = d ++ [y] := by
  rw [List.set_append_right _ _ (Nat.le_refl _)]
  simp
theorem cat_B (s : ByteArray) (cur : List UInt8) (i n : Nat) : B cur ++ s.extract i (i + n) = B (cur ++ ((L s).drop i).take n) := by
  apply L_inj
  rw [L_append, L_B, L_B, L_extract, show i + n - i = n from by omega]
set_option maxHeartbeats 1000000 in
theorem pieces_l0 (s : ByteArray) (hs : s.size ≤ 1099511627776) : ∀ (n i : Nat) (done : List ByteArray) (cur : List UInt8), s.size - i ≤ n → i ≤ s.size → done.length ≤ i → cur.length ≤ i →
    Ev (fun k => spec_FieldPieces.l0 k s (done ++ [B cur]) (i : Int)) (done ++ (goP ((L s).drop i) false cur).map B) := by
  have hz := size_L s
  intro n
  induction n using Nat.strongRecOn with
  | _ n ih =>
    intro i done cur hn hi hd hc
    by_cases hlt : i < (L s).length
    · have hcons : (L s).drop i = (L s)[i] :: (L s).drop (i + 1) := List.drop_eq_getElem_cons hlt
      have hb := bt_L s i hlt
      have w1 : Aside0 (wrap64 ((i : Int) + 1) = ((i + 1 : Nat) : Int)) := ⟨w64 (by omega) (by omega)⟩
      have w2 : Aside0 (wrap64 ((i : Int) + 2) = ((i + 2 : Nat) : Int)) := ⟨w64 (by omega) (by omega)⟩
      have w3 : Aside0 (wrap64 (wrap64 ((i : Int) + (2 - 1)) + 1) = ((i + 2 : Nat) : Int)) := ⟨by
        rw [show (i : Int) + (2 - 1) = (i : Int) + 1 from by omega, w1.out]
        exact w64 (by omega) (by omega)⟩
      have w4 : Aside0 (wrap64 (wrap64 ((i : Int) + wrap64 (1 - 1)) + 1) = ((i + 1 : Nat) : Int)) := ⟨by
        rw [show wrap64 (1 - 1) = 0 from by unfold wrap64; omega, Int.add_zero, w64 (x := (i : Int)) (by omega) (by omega)]
        exact w1.out⟩
      have hlen : (done ++ [B cur]).length = done.length + 1 := by simp
      have w5 : Aside0 (wrap64 (((done ++ [B cur]).length : Int) - 1) = (done.length : Int)) := ⟨by
        rw [hlen, show ((done.length + 1 : Nat) : Int) - 1 = (done.length : Int) from by omega]
        exact w64 (by omega) (by omega)⟩
      have hex : ∀ m, i + m ≤ s.size → (s.extract i (i + m)).size = m := fun m hm => by rw [ByteArray.size_extract]; omega
      have hBs : (B cur).size = cur.length := by rw [size_L, L_B]
      have t1 : ((L s).drop i).take 1 = [(L s)[i]] := by rw [hcons]; rfl
      obtain ⟨b, hbq⟩ : ∃ b, (L s)[i] = b := ⟨_, rfl⟩
      rw [hbq] at hcons hb t1
      have onestep : ¬ b = 44 → (∀ h2 : b = 92, i + 1 = s.size) → Ev (fun k => spec_FieldPieces.j1 k s (done ++ [B cur]) (i : Int) 1 false) (done ++ (goP ((L s).drop i) false cur).map B) := by
        intro h44 h92
        have hg : goP ((L s).drop i) false cur = goP ((L s).drop (i + 1)) false (cur ++ [b]) := by
          rw [hcons]
          by_cases h : b = 92
          · have he : (L s).drop (i + 1) = [] := List.drop_of_length_le (by have := h92 h; omega)
            rw [he, h]
            rfl
          · exact goP_plain _ _ h h44
        refine Ev.step (fun k => spec_FieldPieces.j1.eq_2 ..) (ifn (by decide) (ifp (by omega) (ifp (by omega) (ifn (by rw [hb]; intro e; exact h44 (UInt8.toNat_inj.1 (by have : (44 : UInt8).toNat = 44 := rfl; omega))) ?_))))
        rw [w5.out, w1.out]
        refine ifp (by omega) (ifp (by rw [hlen]; omega) (ifp (by omega) (ifp (by omega) ?_)))
        rw [w4.out, rd_last, Int.toNat_natCast, Int.toNat_natCast, Int.toNat_natCast]
        refine ifp (by rw [hex 1 (by omega), hBs]; omega) ?_
        rw [set_last, cat_B, t1, hg]
        exact ih (n - 1) (by omega) (i + 1) done (cur ++ [b]) (by omega) (by omega) (by omega) (by simp; omega)
      refine Ev.step (fun k => spec_FieldPieces.l0.eq_2 ..) (ifp (by omega) (ifp (by omega) ?_))
      by_cases h92 : b = 92
      · refine ifp (by rw [hb, h92]; rfl) ?_
        rw [w1.out]
        by_cases h2 : i + 1 < s.size
        · rw [decide_eq_true (show ((i + 1 : Nat) : Int) < (s.size : Int) by omega)]
          have hlt2 : i + 1 < (L s).length := by omega
          have hc2 : (L s).drop (i + 1) = (L s)[i + 1] :: (L s).drop (i + 2) := List.drop_eq_getElem_cons hlt2
          have hg : goP ((L s).drop i) false cur = goP ((L s).drop (i + 2)) false (cur ++ ((L s).drop i).take 2) := by
            have t2 : ((L s).drop i).take 2 = [92, (L s)[i + 1]] := by rw [hcons, h92, hc2]; rfl
            rw [t2, hcons, h92, goP_slash, hc2, goP_true]
            simp
          refine Ev.step (fun k => spec_FieldPieces.j1.eq_2 ..) (ifp rfl (ifp (by omega) (ifp (by omega) (ifn (by rw [hb, h92]; decide) ?_))))
          rw [w5.out, w2.out]
          refine ifp (by omega) (ifp (by rw [hlen]; omega) (ifp (by omega) (ifp (by omega) ?_)))
          rw [w3.out, rd_last, Int.toNat_natCast, Int.toNat_natCast, Int.toNat_natCast]
          refine ifp (by rw [hex 2 (by omega), hBs]; omega) ?_
          rw [set_last, cat_B, hg]
          exact ih (n - 1) (by omega) (i + 2) done _ (by omega) (by omega) (by omega) (by rw [List.length_append, List.length_take]; omega)
        · rw [decide_eq_false (show ¬ ((i + 1 : Nat) : Int) < (s.size : Int) by omega)]
          exact onestep (by rw [h92]; decide) (fun _ => by omega)
      · refine ifn (by rw [hb]; intro e; exact h92 (UInt8.toNat_inj.1 (by have : (92 : UInt8).toNat = 92 := rfl; omega))) ?_
        by_cases h44 : b = 44
        · refine Ev.step (fun k => spec_FieldPieces.j1.eq_2 ..) (ifn (by decide) (ifp (by omega) (ifp (by omega) (ifp (by rw [hb, h44]; rfl) (ifp (by rw [hlen]; omega) ?_)))))
          rw [w4.out]
          have hg : goP ((L s).drop i) false cur = cur :: goP ((L s).drop (i + 1)) false [] := by rw [hcons, h44, goP_comma]
          have := ih (n - 1) (by omega) (i + 1) (done ++ [B cur]) [] (by omega) (by omega) (by simp; omega) (by simp)
          rw [hg]
          simp only [List.map_cons]
          have e : (done ++ [B cur]) ++ (goP ((L s).drop (i + 1)) false []).map B = done ++ B cur :: (goP ((L s).drop (i + 1)) false []).map B := by simp
          rw [e] at this
          exact this
        · exact onestep h44 (fun h => absurd h h92)
    · have he : (L s).drop i = [] := List.drop_of_length_le (by omega)
      rw [he]
      exact Ev.step (fun k => spec_FieldPieces.l0.eq_2 ..) (ifn (by omega) (now rfl))
theorem pieces_ev (s : ByteArray) (hs : s.size ≤ 1099511627776) : Ev (fun k => spec_FieldPieces.f k s) (FsP.pieces s) := by
  unfold spec_FieldPieces.f
  have hz := size_L s
  by_cases h : s.size = 0
  · refine ifp (by rw [toList_L]; exact List.eq_nil_of_length_eq_zero (by omega)) (now ?_)
    unfold FsP.pieces
    rw [if_pos h]
  · refine ifn (by rw [toList_L]; intro e; rw [e] at hz; exact h hz) ?_
    rw [FsT.pieces_B s h]
    have := pieces_l0 s hs s.size 0 [] [] (by omega) (by omega) (by simp) (by simp)
    rw [List.nil_append, List.nil_append, List.drop_zero] at this
    exact this
/-- A text put into texts that rise. -/
def insB (x : ByteArray) : List ByteArray → List ByteArray
  | [] => [x]
  | y :: l => if Op.bytesLess (L x) (L y) = true then x :: y :: l else y :: insB x l
theorem insB_ge {x y : ByteArray} (l : List ByteArray) (h : ¬ Op.bytesLess (L x) (L y) = true) : insB x (y :: l) = y :: insB x l := by
  show (if _ then _ else _) = _
  rw [if_neg h]
theorem insB_length (x : ByteArray) (l : List ByteArray) : (insB x l).length = l.length + 1 := by
  induction l with
  | nil => rfl
  | cons y l ih => unfold insB; split <;> simp [ih]
theorem insB_perm (x : ByteArray) (l : List ByteArray) : (insB x l).Perm (x :: l) := by
  induction l with
  | nil => exact List.Perm.refl _
  | cons y l ih =>
    unfold insB
    split
    · exact List.Perm.refl _
    · exact (List.Perm.cons y ih).trans (List.Perm.swap x y l)
def LeB (a b : ByteArray) : Prop := L a ≤ L b
theorem insB_mem (x : ByteArray) (l : List ByteArray) (z : ByteArray) (h : z ∈ insB x l) : z = x ∨ z ∈ l := by
  have := (insB_perm x l).mem_iff.1 h
  simpa using this
theorem insB_sorted (x : ByteArray) (l : List ByteArray) (h : l.Pairwise LeB) : (insB x l).Pairwise LeB := by
  induction l with
  | nil => simp [insB]
  | cons y l ih =>
    obtain ⟨h1, h2⟩ := List.pairwise_cons.1 h
    unfold insB
    split
    · rename_i hlt
      have hxy : LeB x y := List.le_of_lt ((less_iff _ _).1 hlt)
      refine List.pairwise_cons.2 ⟨fun z hz => ?_, h⟩
      rcases List.mem_cons.1 hz with rfl | hz
      · exact hxy
      · exact List.le_trans hxy (h1 z hz)
    · rename_i hlt
      have hyx : LeB y x := List.not_lt.1 (fun e => hlt ((less_iff _ _).2 e))
      refine List.pairwise_cons.2 ⟨fun z hz => ?_, ih h2⟩
      rcases insB_mem x l z hz with rfl | hz
      · exact hyx
      · exact h1 z hz
theorem fold_perm (l : List ByteArray) : ∀ o : List ByteArray, (l.foldl (fun o x => insB x o) o).Perm (o ++ l) := by
  induction l with
  | nil => intro o; simp
  | cons x l ih =>
    intro o
    refine (ih (insB x o)).trans ?_
    refine ((insB_perm x o).append_right l).trans ?_
    exact (List.perm_middle (a := x) (l₁ := o) (l₂ := l)).symm
theorem fold_sorted (l : List ByteArray) : ∀ o : List ByteArray, o.Pairwise LeB → (l.foldl (fun o x => insB x o) o).Pairwise LeB := by
  induction l with
  | nil => intro o h; exact h
  | cons x l ih => intro o h; exact ih _ (insB_sorted x o h)
theorem srt_perm (l : List ByteArray) : (FsO.srt l).Perm l := by
  unfold FsO.srt
  have h := (List.mergeSort_perm (l.map fun s => s.data.toList) fun x y => decide (x ≤ y)).map B
  rw [List.map_map] at h
  have e : (B ∘ fun s : ByteArray => s.data.toList) = id := by funext s; exact FsO.B_data s
  rw [e, List.map_id] at h
  exact h
theorem srt_sorted (l : List ByteArray) : (FsO.srt l).Pairwise LeB := by
  unfold FsO.srt
  rw [List.pairwise_map]
  have tr : ∀ a b c : List UInt8, decide (a ≤ b) = true → decide (b ≤ c) = true → decide (a ≤ c) = true := fun a b c h1 h2 => by simp only [decide_eq_true_eq] at *; exact List.le_trans h1 h2
  have tot : ∀ a b : List UInt8, (decide (a ≤ b) || decide (b ≤ a)) = true := fun a b => by simp only [Bool.or_eq_true, decide_eq_true_eq]; exact List.le_total a b
  refine (List.pairwise_mergeSort tr tot (l.map fun s => s.data.toList)).imp ?_
  intro a b h
  unfold LeB
  rw [L_B, L_B]
  simpa using h
theorem fold_srt (l : List ByteArray) : l.foldl (fun o x => insB x o) [] = FsO.srt l := by
  refine List.Perm.eq_of_pairwise (le := LeB) (fun a b _ _ h1 h2 => L_inj (List.le_antisymm h1 h2)) (fold_sorted l [] List.Pairwise.nil) (srt_sorted l) ?_
  have := fold_perm l []
  rw [List.nil_append] at this
  exact this.trans (srt_perm l).symm
theorem rd_get (l : List ByteArray) (i : Nat) (h : i < l.length) : rdOf ByteArray.empty l (i : Int) = l[i] := by
  unfold rdOf
  rw [Int.toNat_natCast, List.getD_eq_getElem?_getD, List.getElem?_eq_getElem h]
  rfl
theorem sorted_end (l out : List ByteArray) (i j : Nat) (hi : i < l.length) (hl : l.length ≤ 4398046511104) (ho : out.length ≤ i) (hj : j ≤ out.length) : (out.take j).length + 1 + (out.drop j).length ≤ 4398046511105 := by
  rw [List.length_take, List.length_drop]; omega
theorem sorted_l1 (l out : List ByteArray) (i : Nat) (hi : i < l.length) (hl : l.length ≤ 4398046511104) (ho : out.length ≤ i) (r : List ByteArray)
    (hk : Ev (fun k => spec_sorted.l0 k l (insB l[i] out) ((i + 1 : Nat) : Int)) r) :
    ∀ (n j : Nat), out.length - j ≤ n → j ≤ out.length → insB l[i] out = out.take j ++ insB l[i] (out.drop j) → Ev (fun k => spec_sorted.l1 k l out (i : Int) (j : Int)) r := by
  have w1 : Aside0 (wrap64 ((i : Int) + 1) = ((i + 1 : Nat) : Int)) := ⟨w64 (by omega) (by omega)⟩
  intro n
  induction n with
  | zero =>
    intro j hn hj he
    obtain rfl : j = out.length := by omega
    have hlen := sorted_end l out i out.length hi hl ho (Nat.le_refl _)
    have hres : ([] : List ByteArray) ++ out.take out.length ++ [l[i]] ++ out.drop out.length = insB l[i] out := by
      rw [he, List.drop_length]
      simp [insB]
    refine Ev.step (fun k => spec_sorted.l1.eq_2 ..) (ifn (by omega) (sb (ifp (by omega) (ifp (by omega) (sb (ifp (by rw [Int.toNat_natCast]; simp; omega) (sb (ifp (by omega) (ifp (by omega) (ifp (by rw [Int.toNat_natCast]; simp; omega) (sb (sb (ifp (by rw [Int.toNat_natCast]; simp; omega) ?_)))))))))))))
    rw [rd_get l i hi, Int.toNat_natCast, w1.out, hres]
    exact hk
  | succ n ih =>
    intro j hn hj he
    by_cases hlt : j < out.length
    · have hd : out.drop j = out[j] :: out.drop (j + 1) := List.drop_eq_getElem_cons hlt
      have w2 : Aside0 (wrap64 ((j : Int) + 1) = ((j + 1 : Nat) : Int)) := ⟨w64 (by omega) (by omega)⟩
      have hlen := sorted_end l out i j hi hl ho hj
      refine Ev.step (fun k => spec_sorted.l1.eq_2 ..) (ifp (by omega) (ifp (by omega) (ifp (by omega) (ifp (by omega) ?_))))
      rw [rd_get l i hi, rd_get out j hlt, toList_L, toList_L]
      by_cases hb : Op.bytesLess (L l[i]) (L out[j]) = true
      · have hres : ([] : List ByteArray) ++ out.take j ++ [l[i]] ++ out.drop j = insB l[i] out := by
          rw [he, hd]
          unfold insB
          rw [if_pos hb]
          simp
        refine ifp hb (sb (ifp (by omega) (sb (ifp (by rw [Int.toNat_natCast]; simp; omega) (sb (ifp (by rw [Int.toNat_natCast]; simp; omega) (sb (sb (ifp (by rw [Int.toNat_natCast]; simp; omega) ?_)))))))))
        rw [Int.toNat_natCast, w1.out, hres]
        exact hk
      · refine ifn hb ?_
        rw [w2.out]
        refine ih (j + 1) (by omega) (by omega) ?_
        have he2 := he
        rw [hd, insB_ge _ hb] at he2
        rw [he2, List.take_succ_eq_append_getElem hlt, List.append_assoc]
        rfl
    · obtain rfl : j = out.length := by omega
      have hlen := sorted_end l out i out.length hi hl ho (Nat.le_refl _)
      have hres : ([] : List ByteArray) ++ out.take out.length ++ [l[i]] ++ out.drop out.length = insB l[i] out := by
        rw [he, List.drop_length]
        simp [insB]
      refine Ev.step (fun k => spec_sorted.l1.eq_2 ..) (ifn (by omega) (sb (ifp (by omega) (ifp (by omega) (sb (ifp (by rw [Int.toNat_natCast]; simp; omega) (sb (ifp (by omega) (ifp (by omega) (ifp (by rw [Int.toNat_natCast]; simp; omega) (sb (sb (ifp (by rw [Int.toNat_natCast]; simp; omega) ?_)))))))))))))
      rw [rd_get l i hi, Int.toNat_natCast, w1.out, hres]
      exact hk
theorem sorted_l0 (l : List ByteArray) (hl : l.length ≤ 4398046511104) : ∀ (n i : Nat) (out : List ByteArray), l.length - i ≤ n → i ≤ l.length → out.length ≤ i → Ev (fun k => spec_sorted.l0 k l out (i : Int)) ((l.drop i).foldl (fun o x => insB x o) out) := by
  intro n
  induction n with
  | zero =>
    intro i out hn hi ho
    rw [List.drop_of_length_le (by omega)]
    exact Ev.step (fun k => spec_sorted.l0.eq_2 ..) (ifn (by omega) (now rfl))
  | succ n ih =>
    intro i out hn hi ho
    by_cases hlt : i < l.length
    · have hd : l.drop i = l[i] :: l.drop (i + 1) := List.drop_eq_getElem_cons hlt
      rw [hd]
      refine Ev.step (fun k => spec_sorted.l0.eq_2 ..) (ifp (by omega) ?_)
      have h := ih (i + 1) (insB l[i] out) (by omega) (by omega) (by rw [insB_length]; omega)
      exact sorted_l1 l out i hlt hl ho _ h out.length 0 (by omega) (by omega) (by simp)
    · rw [List.drop_of_length_le (by omega)]
      exact Ev.step (fun k => spec_sorted.l0.eq_2 ..) (ifn (by omega) (now rfl))
theorem sorted_ev (l : List ByteArray) (hl : l.length ≤ 4398046511104) : Ev (fun k => spec_sorted.f k l) (FsO.srt l) := by
  unfold spec_sorted.f
  have := sorted_l0 l hl l.length 0 [] (by omega) (by omega) (by simp)
  rw [List.drop_zero, fold_srt] at this
  exact this
/-- A term as the reference has it. -/
def toT (t : FsK.Tm) : S50 := ⟨t.f, if t.neg then ⟨#[33, 61]⟩ else ⟨#[61]⟩, t.v⟩
/-- What the reference says of a text. -/
def ansT (r : Option (List FsK.Tm)) : List S50 × Bool := match r with | none => ([], false) | some ts => (ts.map toT, true)
theorem un_ev (s : ByteArray) (hs : s.size ≤ 1099511627776) : Ev (fun k => spec_Unescape.f k s) (ans (FuM.ub (L s) false [])) := by
  unfold spec_Unescape.f
  have := un_l0 s (by omega) s.size 0 ⟨#[]⟩ (by omega) (by omega) (Nat.zero_le _)
  rw [List.drop_zero] at this
  exact this
theorem cut_ev (s : ByteArray) (hs : s.size ≤ 1099511627776) : Ev (fun k => spec_FieldCut.f k s) (FsC.cutFrom s s.size 0) := by
  unfold spec_FieldCut.f
  exact cut_l0 s (by omega) s.size 0 (by omega) (by omega)
theorem cut_none (s : ByteArray) : ∀ (n i : Nat), (FsC.cutFrom s n i).2.2.2 = false → FsC.cutFrom s n i = (⟨#[]⟩, ⟨#[]⟩, ⟨#[]⟩, false) := by
  intro n
  induction n with
  | zero => intro i _; rfl
  | succ n ih =>
    intro i h
    unfold FsC.cutFrom at h ⊢
    cases ho : FsC.opAt s i with
    | none => rw [ho] at h; exact ih (i + 1) h
    | some op => rw [ho] at h; cases h
theorem emp_iff (f v : ByteArray) (ng : Bool) : FsM.emp ⟨ng, f, v⟩ = true ↔ f.toList = [] ∧ v.toList = [] := by
  unfold FsM.emp
  rw [toList_L, toList_L]
  simp only [Bool.and_eq_true, decide_eq_true_eq]
  rw [size_L f, size_L v]
  exact ⟨fun h => ⟨List.eq_nil_of_length_eq_zero h.1, List.eq_nil_of_length_eq_zero h.2⟩, fun h => ⟨by rw [h.1]; rfl, by rw [h.2]; rfl⟩⟩
theorem keep_one (t : FsK.Tm) (l : List FsK.Tm) : FsN.keep (t :: l) = if FsM.emp t then FsN.keep l else t :: FsN.keep l := by
  unfold FsN.keep
  rw [List.filter_cons]
  cases FsM.emp t <;> rfl
theorem terms_l0 (l : List ByteArray) (hl : l.length ≤ 1099511627777) (hp : ∀ p ∈ l, FuM.pt p = true ∧ p.size ≤ 1099511627776) :
    ∀ (n i : Nat) (acc : List S50), l.length - i ≤ n → i ≤ l.length → acc.length ≤ i →
    Ev (fun k => spec_FieldTerms.l0 k acc l (i : Int)) (match FsQ.rawT (l.drop i) with | none => ([], false) | some ts => (acc ++ (FsN.keep ts).map toT, true)) := by
  intro n
  induction n with
  | zero =>
    intro i acc hn hi ha
    rw [List.drop_of_length_le (by omega)]
    exact Ev.step (fun k => spec_FieldTerms.l0.eq_2 ..) (ifn (by omega) (now (by simp [FsQ.rawT, FsN.keep])))
  | succ n ih =>
    intro i acc hn hi ha
    by_cases hlt : i < l.length
    · have hd : l.drop i = l[i] :: l.drop (i + 1) := List.drop_eq_getElem_cons hlt
      have w1 : Aside0 (wrap64 ((i : Int) + 1) = ((i + 1 : Nat) : Int)) := ⟨w64 (by omega) (by omega)⟩
      have hpm := hp l[i] (List.getElem_mem _)
      have hrd := rd_get l i hlt
      obtain ⟨p, hpq⟩ : ∃ p, l[i] = p := ⟨_, rfl⟩
      rw [hpq] at hd hpm hrd
      rw [hd]
      have hih := ih (i + 1)
      refine Ev.step (fun k => spec_FieldTerms.l0.eq_2 ..) (ifp (by omega) (ifp (by omega) ?_))
      rw [hrd, w1.out]
      by_cases h0 : p.size = 0
      · have ht : FsQ.termOf p = some none := by unfold FsQ.termOf; rw [if_pos h0]
        have hr : FsQ.rawT (p :: l.drop (i + 1)) = FsQ.rawT (l.drop (i + 1)) := by
          conv => lhs; unfold FsQ.rawT
          rw [ht]
        rw [hr]
        exact ifp (by rw [toList_L]; exact List.eq_nil_of_length_eq_zero (by rw [← size_L]; exact h0)) (hih acc (by omega) (by omega) (by omega))
      · refine ifn (by rw [toList_L]; intro e; apply h0; rw [size_L, e]; rfl) ((cut_ev p hpm.2).bind ?_)
        have htn := FsR.termOf_ne p h0
        have hcv := FsQ.cut_val p hpm.1 p.size 0 (by omega)
        have hop := FsQ.cut_op p p.size 0
        have hcn := cut_none p p.size 0
        obtain ⟨⟨f, op, v, okk⟩, hc⟩ : ∃ x, FsC.cutFrom p p.size 0 = x := ⟨_, rfl⟩
        rw [hc] at htn hcv hop hcn ⊢
        simp only at htn hcv hop hcn ⊢
        cases okk with
        | false =>
          have he := hcn rfl
          simp only [Prod.mk.injEq] at he
          obtain ⟨rfl, rfl, rfl, _⟩ := he
          rw [if_neg (by decide)] at htn
          have hr : FsQ.rawT (p :: l.drop (i + 1)) = none := by
            conv => lhs; unfold FsQ.rawT
            rw [htn]
          rw [hr]
          refine (un_ev ⟨#[]⟩ (by decide)).bind (ifn (by decide) ?_)
          exact Ev.step (fun k => spec_FieldTerms.j1.eq_2 ..) (ifp rfl (now rfl))
        | true =>
          obtain ⟨hv1, hv2⟩ := hcv rfl
          have hop2 := hop rfl
          rw [if_pos rfl] at htn
          have hub : FuM.uv v v.size 0 false [] = FuM.ub (L v) false [] := by
            have := FuM.uv_ub v v.size 0 false [] (FuM.ok_start hv1)
            rw [List.drop_zero] at this
            exact this
          rw [hub] at htn
          refine (un_ev v (by omega)).bind (ifp rfl ?_)
          cases hu : FuM.ub (L v) false [] with
          | none =>
            rw [hu] at htn
            simp only at htn
            have hr : FsQ.rawT (p :: l.drop (i + 1)) = none := by
              conv => lhs; unfold FsQ.rawT
              rw [htn]
            rw [hr]
            exact Ev.step (fun k => spec_FieldTerms.j1.eq_2 ..) (ifp rfl (now rfl))
          | some x =>
            rw [hu] at htn
            simp only at htn
            have hr : FsQ.rawT (p :: l.drop (i + 1)) = (FsQ.rawT (l.drop (i + 1))).map (⟨decide (op = ⟨#[33, 61]⟩), f, ⟨x.toArray⟩⟩ :: ·) := by
              conv => lhs; unfold FsQ.rawT
              rw [htn]
            rw [hr]
            have hna : (!(ans (some x)).2) = false := rfl
            have hn1 : (ans (some x)).1 = ⟨x.toArray⟩ := rfl
            rw [hna, hn1]
            obtain ⟨y, hy⟩ : ∃ y : ByteArray, (⟨x.toArray⟩ : ByteArray) = y := ⟨_, rfl⟩
            rw [hy]
            refine Ev.step (fun k => spec_FieldTerms.j1.eq_2 ..) (ifn (by decide) ?_)
            have fin : ∀ (o : ByteArray) (ng : Bool), ng = decide (op = ⟨#[33, 61]⟩) → toT ⟨ng, f, y⟩ = ⟨f, o, y⟩ →
                Ev (fun k => if f.toList = ([] : List UInt8) then (if y.toList = ([] : List UInt8) then (spec_FieldTerms.l0 k acc l ((i + 1 : Nat) : Int)) else (if acc.length < 2932031007402 then (spec_FieldTerms.l0 k (acc ++ [(⟨f, o, y⟩ : S50)]) l ((i + 1 : Nat) : Int)) else (none))) else (if acc.length < 2932031007402 then (spec_FieldTerms.l0 k (acc ++ [(⟨f, o, y⟩ : S50)]) l ((i + 1 : Nat) : Int)) else (none)))
                  (match (FsQ.rawT (l.drop (i + 1))).map (⟨decide (op = ⟨#[33, 61]⟩), f, y⟩ :: ·) with | none => ([], false) | some ts => (acc ++ (FsN.keep ts).map toT, true)) := by
              intro o ng hng hto
              rw [← hng]
              have hem := emp_iff f y ng
              have h1 := hih acc (by omega) (by omega) (by omega)
              have h2 := hih (acc ++ [toT ⟨ng, f, y⟩]) (by omega) (by omega) (by simp; omega)
              rw [← hto]
              cases hR : FsQ.rawT (l.drop (i + 1)) with
              | none =>
                rw [hR] at h1 h2
                simp only [Option.map_none] at h1 h2 ⊢
                by_cases e1 : f.toList = []
                · refine ifp e1 ?_
                  by_cases e2 : y.toList = []
                  · exact ifp e2 h1
                  · exact ifn e2 (ifp (by omega) h2)
                · exact ifn e1 (ifp (by omega) h2)
              | some ts =>
                rw [hR] at h1 h2
                simp only [Option.map_some] at h1 h2 ⊢
                rw [keep_one]
                by_cases e1 : f.toList = []
                · refine ifp e1 ?_
                  by_cases e2 : y.toList = []
                  · rw [if_pos (hem.2 ⟨e1, e2⟩)]
                    exact ifp e2 h1
                  · rw [if_neg (fun q => e2 (hem.1 q).2)]
                    refine ifn e2 (ifp (by omega) ?_)
                    rw [List.map_cons]
                    rw [List.append_assoc] at h2
                    exact h2
                · rw [if_neg (fun q => e1 (hem.1 q).1)]
                  refine ifn e1 (ifp (by omega) ?_)
                  rw [List.map_cons]
                  rw [List.append_assoc] at h2
                  exact h2
            rw [w1.out]
            rcases hop2 with rfl | rfl | rfl
            · exact ifn (by rw [toList_L]; decide) (fin _ true rfl rfl)
            · exact ifp (by rw [toList_L]; rfl) (fin _ false rfl rfl)
            · exact ifn (by rw [toList_L]; decide) (fin _ false rfl rfl)
    · rw [List.drop_of_length_le (by omega)]
      exact Ev.step (fun k => spec_FieldTerms.l0.eq_2 ..) (ifn (by omega) (now (by simp [FsQ.rawT, FsN.keep])))
theorem terms_ev (s : ByteArray) (hs : s.size ≤ 1099511627776) (hpt : FuM.pt s = true) : Ev (fun k => spec_FieldTerms.f k s) (ansT (FsQ.termsOf s)) := by
  unfold spec_FieldTerms.f
  have hlen := FsP.pieces_length s
  refine (pieces_ev s hs).bind ((sorted_ev _ (by omega)).bind ?_)
  have := terms_l0 (FsO.srt (FsP.pieces s)) (by rw [FsO.srt_length]; omega) (fun p hp => by
    have hp2 := (FsO.srt_mem _ p).1 hp
    exact ⟨FsP.pieces_pt hpt p hp2, Nat.le_trans (FsP.pieces_size s p hp2) hs⟩) _ 0 [] (Nat.le_refl _) (by omega) (by simp)
  rw [List.drop_zero] at this
  have e : ansT (FsQ.termsOf s) = (match FsQ.rawT (FsO.srt (FsP.pieces s)) with | none => ([], false) | some ts => ([] ++ (FsN.keep ts).map toT, true)) := by
    unfold FsQ.termsOf ansT
    cases FsQ.rawT (FsO.srt (FsP.pieces s)) <;> rfl
  rw [e]
  exact this
end Go.Proofs.YtccdnmachpepcaaDoor.FsY
