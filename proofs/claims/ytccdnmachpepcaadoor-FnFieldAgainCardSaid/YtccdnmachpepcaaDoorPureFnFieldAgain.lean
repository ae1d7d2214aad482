/- For every text that is UTF-8 (no longer than 2^31 - 1): a selector's text that is none is an error, without terms and text; else its text is read back to the same terms, as often, and written as long. No condition. -/
import Derived.Test.YtccdnmachpepcaaDoorQFnFieldAgain
import Derived.Test.YtccdnmachpepcaaDoorFtB
import Derived.Test.YtccdnmachpepcaaDoorStr
import Derived.Test.YtccdnmachpepcaaDoorEv
set_option linter.unusedSimpArgs false
set_option linter.unusedVariables false
namespace Go.Proofs.YtccdnmachpepcaaDoor.Pure
open Go Go.RowKit Go.Proofs.YtccdnmachpepcaaDoor.XFnFieldAgain Go.Proofs.YtccdnmachpepcaaDoorW.PrintWords Go.Proofs.YtccdnmachpepcaaDoorW.PrintLast Go.Proofs.YtccdnmachpepcaaDoor.EvL
/-- Whether two terms are one. -/
def e (x y : S50) : Bool := (x.f0.toList == y.f0.toList) && ((x.f1.toList == y.f1.toList) && (x.f2.toList == y.f2.toList))
theorem rd_drop (X : List S50) (j : Nat) (h : j < X.length) : X.drop j = rd_T50 X (j : Int) :: X.drop (j + 1) := by
  rw [List.drop_eq_getElem_cons h]
  unfold rd_T50
  rw [Int.toNat_natCast, List.getD_eq_getElem?_getD, List.getElem?_eq_getElem h]
  rfl
theorem tr_l1 (X Y : List S50) (hXY : Y.length = X.length) (hlen : X.length ≤ 4294967296) (i : Nat) (hi : i < X.length) (r : Bool) (hnext : Ev (fun k => spec_TermsRow.l0 k X Y ((i + 1 : Nat) : Int)) r) :
    ∀ n j a b : Nat, X.length - j ≤ n → j ≤ X.length → a ≤ j → b ≤ j → a + (X.drop j).countP (e (rd_T50 X (i : Int))) = b + (Y.drop j).countP (e (rd_T50 X (i : Int))) →
    Ev (fun k => spec_TermsRow.l1 k X Y (i : Int) (a : Int) (b : Int) (j : Int)) r := by
  have wi : Aside0 (wrap64 ((i : Int) + 1) = ((i + 1 : Nat) : Int)) := ⟨w64 (by omega) (by omega)⟩
  intro n
  induction n with
  | zero =>
    intro j a b hn hj ha hb hc
    rw [List.drop_of_length_le (by omega), List.drop_of_length_le (by omega)] at hc
    simp only [List.countP_nil, Nat.add_zero] at hc
    refine Ev.step (fun k => spec_TermsRow.l1.eq_2 ..) (ifn (by omega) (ifp (by omega) ?_))
    rw [wi.out]
    exact hnext
  | succ n ih =>
    intro j a b hn hj ha hb hc
    by_cases hlt : j < X.length
    · rw [rd_drop X j hlt, rd_drop Y j (by omega), List.countP_cons, List.countP_cons] at hc
      have wj : Aside0 (wrap64 ((j : Int) + 1) = ((j + 1 : Nat) : Int)) := ⟨w64 (by omega) (by omega)⟩
      have wa : Aside0 (wrap64 ((a : Int) + 1) = ((a + 1 : Nat) : Int)) := ⟨w64 (by omega) (by omega)⟩
      have wb : Aside0 (wrap64 ((b : Int) + 1) = ((b + 1 : Nat) : Int)) := ⟨w64 (by omega) (by omega)⟩
      refine Ev.step (fun k => spec_TermsRow.l1.eq_2 ..) (ifp (by omega) (ifp (by omega) (ifp (by omega) (ifp (by omega) ?_))))
      rw [wj.out, wa.out, wb.out]
      obtain ⟨c, hcx⟩ : ∃ c, e (rd_T50 X (i : Int)) (rd_T50 X (j : Int)) = c := ⟨_, rfl⟩
      obtain ⟨d, hdx⟩ : ∃ d, e (rd_T50 X (i : Int)) (rd_T50 Y (j : Int)) = d := ⟨_, rfl⟩
      rw [hcx, hdx] at hc
      unfold e at hcx hdx
      rw [hcx, hdx]
      cases c with
      | true =>
        refine ifp rfl (ifp (by omega) ?_)
        cases d with
        | true => exact ifp rfl (ih (j + 1) (a + 1) (b + 1) (by omega) (by omega) (by omega) (by omega) (by simp at hc; omega))
        | false => exact ifn (by decide) (ih (j + 1) (a + 1) b (by omega) (by omega) (by omega) (by omega) (by simp at hc; omega))
      | false =>
        refine ifn (by decide) (ifp (by omega) ?_)
        cases d with
        | true => exact ifp rfl (ih (j + 1) a (b + 1) (by omega) (by omega) (by omega) (by omega) (by simp at hc; omega))
        | false => exact ifn (by decide) (ih (j + 1) a b (by omega) (by omega) (by omega) (by omega) (by simp at hc; omega))
    · rw [List.drop_of_length_le (by omega), List.drop_of_length_le (by omega)] at hc
      simp only [List.countP_nil, Nat.add_zero] at hc
      refine Ev.step (fun k => spec_TermsRow.l1.eq_2 ..) (ifn (by omega) (ifp (by omega) ?_))
      rw [wi.out]
      exact hnext
theorem tr_l0 (X Y : List S50) (hP : Y.Perm X) (hlen : X.length ≤ 4294967296) : ∀ n i : Nat, X.length - i ≤ n → i ≤ X.length → Ev (fun k => spec_TermsRow.l0 k X Y (i : Int)) true := by
  intro n
  induction n with
  | zero =>
    intro i hn hi
    exact Ev.step (fun k => spec_TermsRow.l0.eq_2 ..) (ifn (by omega) (now rfl))
  | succ n ih =>
    intro i hn hi
    by_cases hlt : i < X.length
    · refine Ev.step (fun k => spec_TermsRow.l0.eq_2 ..) (ifp (by omega) ?_)
      exact tr_l1 X Y hP.length_eq hlen i hlt true (ih (i + 1) (by omega) (by omega)) X.length 0 0 0 (by omega) (by omega) (by omega) (by omega) (by rw [List.drop_zero, List.drop_zero, hP.countP_eq])
    · exact Ev.step (fun k => spec_TermsRow.l0.eq_2 ..) (ifn (by omega) (now rfl))
theorem tr_ev (X Y : List S50) (hP : Y.Perm X) (hlen : X.length ≤ 4294967296) : Ev (fun k => spec_TermsRow.f k X Y) true := by
  unfold spec_TermsRow.f
  exact ifp (by rw [hP.length_eq]) (tr_l0 X Y hP hlen X.length 0 (by omega) (by omega))
abbrev mk : ByteArray := ⟨#[97, 61, 61, 98]⟩
theorem mark : FsQ.termsOf mk = some [⟨false, ⟨#[97]⟩, ⟨#[98]⟩⟩] := by
  have hp : FsP.pieces mk = [mk] := by
    unfold FsP.pieces
    rw [if_neg (by decide)]
    rfl
  have hs : FsO.srt [mk] = [mk] := FsO.srt_small _ (by simp)
  have hcut : FsC.cutFrom mk mk.size 0 = (⟨#[97]⟩, ⟨#[61, 61]⟩, ⟨#[98]⟩, true) := by decide
  have huv : FuM.uv ⟨#[98]⟩ (⟨#[98]⟩ : ByteArray).size 0 false [] = some [98] := by decide
  have ht : FsQ.termOf mk = some (some ⟨false, ⟨#[97]⟩, ⟨#[98]⟩⟩) := by
    unfold FsQ.termOf
    rw [if_neg (by decide), hcut]
    simp only [if_true]
    rw [huv]
    rfl
  unfold FsQ.termsOf
  rw [hp, hs]
  have hr : FsQ.rawT [mk] = some [⟨false, ⟨#[97]⟩, ⟨#[98]⟩⟩] := by
    unfold FsQ.rawT
    rw [ht]
    rfl
  rw [hr]
  rfl
/-- What FieldParse tells of a text of UTF-8. -/
theorem fp_f (s : ByteArray) (hs : s.size ≤ 2147483647) (hp : FuM.pt s = true) (ts : List FsK.Tm) (h : FsQ.termsOf s = some ts) (k : Nat) : impl_FieldParse.f k s = some (ts.map toS, FtS.strL ts, false) := by
  obtain ⟨_, _, h3, h4, _⟩ := FtX.again hp h
  have hf := (FsV.terms_size s ts h).1
  have hF : FtP.Fit ts := by
    refine ⟨fun t ht => ⟨by have := hf t ht; omega, ?_⟩, by omega⟩
    have h5 := h4 t ht
    have h6 := FsW0.esc_len (FuM.L t.v)
    have h7 : (FsT.B (FuM.esc (FuM.L t.v))).size = (FuM.esc (FuM.L t.v)).length := by rw [← FuM.L_length]; rfl
    unfold FsW.str1 at h5
    rw [ByteArray.size_append, ByteArray.size_append, h7] at h5
    rw [FuM.L_length] at h6
    omega
  unfold impl_FieldParse.f
  rw [if_pos ⟨by omega, hp⟩, h]
  simp only
  rw [if_pos hF]
theorem FnFieldAgain : Go.Proofs.YtccdnmachpepcaaDoor.QFnFieldAgain.Pure := by
  intro a0 h0
  refine Ev.rounds ?_
  unfold laws_FnFieldAgain.f
  by_cases z0 : (a0.size : Int) > 2147483647
  · exact ifp z0 (now rfl)
  refine ifn z0 ?_
  have hs : a0.size ≤ 2147483647 := by omega
  have hpl : ∀ k, laws_plainText.f k a0 = some (FuM.pt a0) := fun k => by unfold laws_plainText.f; rw [if_pos (by omega)]
  refine Ev.bind (a := FuM.pt a0) (Ev.congr hpl (Ev.now _)) ?_
  cases hpt : FuM.pt a0 with
  | false => exact ifn (by decide) (now rfl)
  | true =>
    refine ifp rfl ?_
    cases hT : FsQ.termsOf a0 with
    | none =>
      have he : ∀ k, impl_FieldParse.f k a0 = some (([], ⟨#[]⟩, true) : List S50 × ByteArray × Bool) := fun k => by
        unfold impl_FieldParse.f
        rw [if_pos ⟨by omega, hpt⟩, hT]
      refine Ev.bind (a := (([], ⟨#[]⟩, true) : List S50 × ByteArray × Bool)) (Ev.congr he (Ev.now _)) ?_
      exact ifp rfl (ifp rfl (now (by rw [Str.toList_L]; rfl)))
    | some ts =>
      obtain ⟨hp2, hs2, _, _, ts', hT2, hperm⟩ := FtX.again hpt hT
      have htl := (FsV.terms_size a0 ts hT).2
      refine Ev.bind (a := (ts.map toS, FtS.strL ts, false)) (Ev.congr (fp_f a0 hs hpt ts hT) (Ev.now _)) ?_
      refine ifn (fun q => Bool.noConfusion q) ?_
      refine Ev.bind (a := (ts'.map toS, FtS.strL ts', false)) (Ev.congr (fp_f _ (by show (FtS.strL ts).size ≤ _; omega) hp2 ts' hT2) (Ev.now _)) ?_
      refine Ev.bind (a := (([⟨false, ⟨#[97]⟩, ⟨#[98]⟩⟩] : List FsK.Tm).map toS, FtS.strL [⟨false, ⟨#[97]⟩, ⟨#[98]⟩⟩], false)) (Ev.congr (fp_f mk (by decide) (by decide) _ mark) (Ev.now _)) ?_
      refine ifn (fun q => Bool.noConfusion q) ((tr_ev _ _ (hperm.map toS) (by rw [List.length_map]; omega)).bind ?_)
      refine ifp rfl (ifp ?_ (now ?_))
      · show ((FtS.strL ts').size : Int) = ((FtS.strL ts).size : Int)
        rw [FtX.strL_perm hperm]
      · show ((FtS.strL [⟨false, ⟨#[97]⟩, ⟨#[98]⟩⟩]).toList == ([97, 61, 98] : List UInt8)) = true
        rw [FtP.strL_one, Str.toList_L]
        decide
end Go.Proofs.YtccdnmachpepcaaDoor.Pure
