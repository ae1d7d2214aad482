/- For every text that is UTF-8, every field and all fields' values (none longer than 2^31 - 1): a selector's text that is none is an error; else the program asks for the value of the field that the reference asks for, that of the first equal term; and fields that match have it. No condition. -/
import Derived.Test.YtccdnmachpepcaaDoorQFnFieldExact
import Derived.Test.YtccdnmachpepcaaDoorFsY
set_option linter.unusedSimpArgs false
set_option linter.unusedVariables false
namespace Go.Proofs.YtccdnmachpepcaaDoor.Pure
open Go Go.RowKit Go.Proofs.YtccdnmachpepcaaDoor.XFnFieldExact Go.Proofs.YtccdnmachpepcaaDoorW.PrintWords Go.Proofs.YtccdnmachpepcaaDoorW.PrintLast Go.Proofs.YtccdnmachpepcaaDoor.EvL Go.Proofs.YtccdnmachpepcaaDoor.Str Go.Proofs.YtccdnmachpepcaaDoor.FsY
open Go.Proofs.YtccdnmachpepcaaDoor.FsT (B)
theorem exact_l0 (ts : List FsK.Tm) (hl : ts.length ≤ 1099511627777) (key : ByteArray) : ∀ (n i : Nat), ts.length - i ≤ n → i ≤ ts.length →
    Ev (fun k => spec_FieldExact.l0 k (ts.map toT) key (i : Int)) ((FsE.exactL (ts.drop i) key).getD ⟨#[]⟩, (FsE.exactL (ts.drop i) key).isSome) := by
  intro n
  have hml : (ts.map toT).length = ts.length := List.length_map _
  induction n with
  | zero =>
    intro i hn hi
    rw [List.drop_of_length_le (by omega)]
    exact Ev.step (fun k => spec_FieldExact.l0.eq_2 ..) (ifn (by rw [hml]; omega) (now rfl))
  | succ n ih =>
    intro i hn hi
    by_cases hlt : i < ts.length
    · have hd : ts.drop i = ts[i] :: ts.drop (i + 1) := List.drop_eq_getElem_cons hlt
      have w1 : Aside0 (wrap64 ((i : Int) + 1) = ((i + 1 : Nat) : Int)) := ⟨w64 (by omega) (by omega)⟩
      have hrd : rd_T50 (ts.map toT) (i : Int) = toT ts[i] := by
        unfold rd_T50
        rw [Int.toNat_natCast, List.getD_eq_getElem?_getD, List.getElem?_map, List.getElem?_eq_getElem hlt]
        rfl
      have hih := ih (i + 1) (by omega) (by omega)
      obtain ⟨t, ht⟩ : ∃ t, ts[i] = t := ⟨_, rfl⟩
      rw [ht] at hd hrd
      rw [hd]
      refine Ev.step (fun k => spec_FieldExact.l0.eq_2 ..) (ifp (by rw [hml]; omega) (ifp (by omega) ?_))
      rw [hrd, w1.out]
      obtain ⟨ng, f, v⟩ := t
      show Ev (fun n => if f.toList = key.toList then (if (if ng = true then (⟨#[33, 61]⟩ : ByteArray) else ⟨#[61]⟩).toList = ([61] : List UInt8) then some (v, true) else spec_FieldExact.l0 n (ts.map toT) key ((i + 1 : Nat) : Int)) else spec_FieldExact.l0 n (ts.map toT) key ((i + 1 : Nat) : Int)) _
      by_cases hf : f = key
      · refine ifp (by rw [hf]) ?_
        cases ng with
        | false =>
          refine ifp (by rw [toList_L]; rfl) (now ?_)
          unfold FsE.exactL
          rw [if_pos ⟨rfl, hf⟩]
          rfl
        | true =>
          have e : FsE.exactL (⟨true, f, v⟩ :: ts.drop (i + 1)) key = FsE.exactL (ts.drop (i + 1)) key := by
            conv => lhs; unfold FsE.exactL
            rw [if_neg (fun q => nomatch q.1)]
          rw [e]
          exact ifn (by rw [toList_L]; decide) hih
      · have e : FsE.exactL (⟨ng, f, v⟩ :: ts.drop (i + 1)) key = FsE.exactL (ts.drop (i + 1)) key := by
          conv => lhs; unfold FsE.exactL
          rw [if_neg (fun q => hf q.2)]
        rw [e]
        exact ifn (fun q => hf (FsE.eqL q)) hih
    · rw [List.drop_of_length_le (by omega)]
      exact Ev.step (fun k => spec_FieldExact.l0.eq_2 ..) (ifn (by rw [hml]; omega) (now rfl))
theorem exact_ev (ts : List FsK.Tm) (hl : ts.length ≤ 1099511627777) (key : ByteArray) : Ev (fun k => spec_FieldExact.f k (ts.map toT) key) ((FsE.exactL ts key).getD ⟨#[]⟩, (FsE.exactL ts key).isSome) := by
  unfold spec_FieldExact.f
  have := exact_l0 ts hl key ts.length 0 (by omega) (by omega)
  rw [List.drop_zero] at this
  exact this
theorem find_l0 (l : List S40) (hl : l.length ≤ 2147483647) (key : ByteArray) : ∀ (j : Nat), j ≤ l.length →
    Ev (fun k => spec_Find.l0 k l key ((j : Int) - 1)) ((FsL.fn ((l.take j).map toPr) key).getD ⟨#[]⟩, (FsL.fn ((l.take j).map toPr) key).isSome) := by
  intro j
  induction j with
  | zero =>
    intro _
    exact Ev.step (fun k => spec_Find.l0.eq_2 ..) (ifn (by omega) (now rfl))
  | succ j ih =>
    intro hj
    have hlt : j < l.length := by omega
    have hts : l.take (j + 1) = l.take j ++ [l[j]] := by rw [List.take_succ_eq_append_getElem hlt]
    have w1 : Aside0 (wrap64 ((((j + 1 : Nat) : Int) - 1) - 1) = (j : Int) - 1) := ⟨by rw [w64 (by omega) (by omega)]; omega⟩
    have hrd : rd_T40 l (((j + 1 : Nat) : Int) - 1) = l[j] := by
      unfold rd_T40
      rw [show (((j + 1 : Nat) : Int) - 1).toNat = j from by omega, List.getD_eq_getElem?_getD, List.getElem?_eq_getElem hlt]
      rfl
    have hfn : FsL.fn ((l.take (j + 1)).map toPr) key = if key = l[j].f0 then some l[j].f1 else FsL.fn ((l.take j).map toPr) key := by
      rw [hts, List.map_append]
      exact congrFun (FsL.fn_snoc ((l.take j).map toPr) (toPr l[j])) key
    rw [hfn]
    refine Ev.step (fun k => spec_Find.l0.eq_2 ..) (ifp (by omega) (ifp (by omega) (ifp (by omega) ?_)))
    rw [hrd, w1.out]
    by_cases h : key = l[j].f0
    · rw [if_pos h]
      exact ifp (by rw [h]) (now rfl)
    · rw [if_neg h]
      exact ifn (fun q => h (FsE.eqL q).symm) (ih (by omega))
theorem find_ev (l : List S40) (hl : l.length ≤ 2147483647) (key : ByteArray) : Ev (fun k => spec_Find.f k l key) ((FsL.fn (l.map toPr) key).getD ⟨#[]⟩, (FsL.fn (l.map toPr) key).isSome) := by
  unfold spec_Find.f
  rw [w64 (by omega) (by omega)]
  have := find_l0 l hl key l.length (Nat.le_refl _)
  rw [List.take_length] at this
  exact this
theorem fits2_l0 (l : List S40) (hl : (l.length : Int) ≤ 2147483647) : ∀ (m : Nat) (i : Int), 0 ≤ i → ((l.length : Int) - i).toNat = m → ∃ b, Ev (fun k => laws_zzFits2.l0 k l (l.length : Int) i) b := by
  intro m
  induction m with
  | zero => intro i h0 h1; exact ⟨true, Ev.step (fun k => laws_zzFits2.l0.eq_2 ..) (ifn (by omega) (Ev.now _))⟩
  | succ m ih =>
    intro i h0 h1
    obtain ⟨b, hb⟩ := ih (i + 1) (by omega) (by omega)
    have ht : ∃ c, laws_zzFits3.f (rd_T40 l i).f0 (rd_T40 l i).f1 = some c := by
      unfold laws_zzFits3.f
      split
      · exact ⟨_, rfl⟩
      · split <;> exact ⟨_, rfl⟩
    obtain ⟨c, hc⟩ := ht
    cases c with
    | true =>
      refine ⟨b, Ev.step (fun k => laws_zzFits2.l0.eq_2 ..) (ifp (by omega) (ifp (by omega) (ifp (by omega) (cb hc (ifp rfl ?_)))))⟩
      rw [w64 (by omega) (by omega)]; exact hb
    | false => exact ⟨false, Ev.step (fun k => laws_zzFits2.l0.eq_2 ..) (ifp (by omega) (ifp (by omega) (ifp (by omega) (cb hc (ifn (by decide) (Ev.now _))))))⟩
theorem fits2_ev (l : List S40) : ∃ b, Ev (fun k => laws_zzFits2.f k l) b ∧ (b = true → l.length ≤ 2147483647) := by
  unfold laws_zzFits2.f
  by_cases h : (l.length : Int) > 2147483647
  · exact ⟨false, ifp h (now rfl), fun e => nomatch e⟩
  · obtain ⟨b, hb⟩ := fits2_l0 l (by omega) _ 0 (by omega) rfl
    exact ⟨b, ifn h hb, fun _ => by omega⟩
theorem exact_match (f : ByteArray → Option ByteArray) (ts : List FsK.Tm) (key v : ByteArray) (h : FsE.exactL ts key = some v) (hm : FsE.mtL f ts = true) : (f key).getD ⟨#[]⟩ = v := by
  induction ts with
  | nil => cases h
  | cons t ts ih =>
    unfold FsE.mtL at hm
    rw [List.all_cons, Bool.and_eq_true] at hm
    unfold FsE.exactL at h
    split at h
    · rename_i hc
      have h1 := hm.1
      unfold FsE.mt1 at h1
      rw [hc.1] at h1
      have h2 := Option.some.inj h
      rw [hc.2, h2] at h1
      simpa using h1
    · exact ih h hm.2
abbrev mk : ByteArray := ⟨#[97, 61, 98]⟩
theorem mark : FsX.exR (FsQ.termsOf mk) ⟨#[97]⟩ = (⟨#[98]⟩, true, false) := by
  have hp : FsP.pieces mk = [mk] := by
    unfold FsP.pieces
    rw [if_neg (by decide)]
    rfl
  have hs : FsO.srt [mk] = [mk] := FsO.srt_small _ (by simp)
  have hcut : FsC.cutFrom mk mk.size 0 = (⟨#[97]⟩, ⟨#[61]⟩, ⟨#[98]⟩, true) := by decide
  have huv : FuM.uv ⟨#[98]⟩ (⟨#[98]⟩ : ByteArray).size 0 false [] = some [98] := by decide
  have ht : FsQ.termOf mk = some (some ⟨false, ⟨#[97]⟩, ⟨#[98]⟩⟩) := by
    unfold FsQ.termOf
    rw [if_neg (by decide), hcut]
    simp only [if_true]
    rw [huv]
    rfl
  unfold FsQ.termsOf
  rw [hp, hs]
  have hr : FsQ.rawT [mk] = some [⟨false, ⟨#[97]⟩, ⟨#[98]⟩⟩] := by
    unfold FsQ.rawT
    rw [ht]
    rfl
  rw [hr]
  rfl
theorem mark_f (k : Nat) : impl_FieldExact.f k mk ⟨#[97]⟩ = some (⟨#[98]⟩, true, false) := by
  unfold impl_FieldExact.f
  rw [if_pos ⟨by decide, by decide⟩, mark]
theorem FnFieldExact : Go.Proofs.YtccdnmachpepcaaDoor.QFnFieldExact.Pure := by
  intro a0 a1 l2 h0 h1 h2
  refine Ev.rounds ?_
  unfold laws_FnFieldExact.f
  by_cases z0 : (a0.size : Int) > 2147483647
  · exact ifp z0 (Ev.step (fun k => laws_FnFieldExact.j0.eq_2 ..) (ifp rfl (now rfl)))
  refine ifn z0 ?_
  by_cases z1 : (a1.size : Int) > 2147483647
  · exact ifp z1 (Ev.step (fun k => laws_FnFieldExact.j0.eq_2 ..) (ifp rfl (now rfl)))
  refine ifn z1 ?_
  obtain ⟨b, hb, hbl⟩ := fits2_ev l2
  refine hb.bind ?_
  cases b with
  | false => exact Ev.step (fun k => laws_FnFieldExact.j0.eq_2 ..) (ifp rfl (now rfl))
  | true =>
    have hlen := hbl rfl
    have hs : a0.size ≤ 1099511627776 := by omega
    refine Ev.step (fun k => laws_FnFieldExact.j0.eq_2 ..) (ifn (by decide) ?_)
    have hpl : ∀ k, laws_plainText.f k a0 = some (FuM.pt a0) := fun k => by unfold laws_plainText.f; rw [if_pos hs]
    refine Ev.bind (a := FuM.pt a0) (Ev.congr hpl (Ev.now _)) ?_
    cases hpt : FuM.pt a0 with
    | false => exact ifn (by decide) (now rfl)
    | true =>
      refine ifp rfl ((terms_ev a0 hs hpt).bind ?_)
      have he : ∀ k, impl_FieldExact.f k a0 a1 = some (FsX.exR (FsQ.termsOf a0) a1) := fun k => by unfold impl_FieldExact.f; rw [if_pos ⟨hs, hpt⟩]
      refine Ev.bind (a := FsX.exR (FsQ.termsOf a0) a1) (Ev.congr he (Ev.now _)) ?_
      cases hT : FsQ.termsOf a0 with
      | none => exact ifn (by decide) (now rfl)
      | some ts =>
        have htl := (FsX.terms_size a0 ts hT).2
        refine ifp rfl ((exact_ev ts (by omega) a1).bind ?_)
        have hm : ∀ k, impl_FieldMatch.f k a0 l2 = some (FsX.mtR (FsQ.termsOf a0) (FsL.fn (l2.map toPr))) := fun k => by
          unfold impl_FieldMatch.f
          rw [if_pos ⟨hs, hpt, by omega, fun p hp => h2.2 p hp⟩]
        rw [hT] at hm
        refine Ev.bind (a := FsX.mtR (some ts) (FsL.fn (l2.map toPr))) (Ev.congr hm (Ev.now _)) ?_
        refine (find_ev l2 hlen a1).bind ?_
        refine Ev.bind (a := ((⟨#[98]⟩ : ByteArray), true, false)) (Ev.congr mark_f (Ev.now _)) ?_
        refine ifn (by simp [FsX.exR]) (ifp (by simp [FsX.exR]) (ifp rfl (ifp (by rw [toList_L]; rfl) ?_)))
        cases hx : FsE.exactL ts a1 with
        | none => exact ifn (by simp [FsX.exR, hx]) (now rfl)
        | some v =>
          refine ifp (by simp [FsX.exR, hx]) ?_
          cases hmm : FsE.mtL (FsL.fn (l2.map toPr)) ts with
          | false => exact ifn (by simp [FsX.mtR, hmm]) (now rfl)
          | true =>
            refine ifp (by simp [FsX.mtR, hmm]) (now ?_)
            have := exact_match _ ts a1 v hx hmm
            simp only [FsX.exR, hx, Option.getD_some, this]
            exact beq_self_eq_true _
end Go.Proofs.YtccdnmachpepcaaDoor.Pure
