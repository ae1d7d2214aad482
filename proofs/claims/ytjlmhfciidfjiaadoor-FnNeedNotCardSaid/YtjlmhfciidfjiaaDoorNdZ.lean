/- Requirements: NeedMay always answers; where it says yes, the number of values fits the operator. -/
import Derived.Test.YtjlmhfciidfjiaaDoorNdP
import Derived.Test.YtjlmhfciidfjiaaDoorEv
set_option linter.unusedSimpArgs false
set_option linter.unusedVariables false
namespace Go.Proofs.YtjlmhfciidfjiaaDoor.NdZ
open Go.RowKit Go.Proofs.YtjlmhfciidfjiaaDoorW.PrintWords Go.Proofs.YtjlmhfciidfjiaaDoorW.PrintLast Go.Proofs.YtjlmhfciidfjiaaDoor.EvL Go.Proofs.YtjlmhfciidfjiaaDoor.XFnNeedNot Go.Proofs.YtjlmhfciidfjiaaDoor.NdR Go.Proofs.YtjlmhfciidfjiaaDoor.NdP
theorem tl (s : ByteArray) : s.toList = s.data.toList := ByteArray.toList_eq s
theorem fits4_l0 (l : List ByteArray) (hl : (l.length : Int) ≤ 2147483647) : ∀ (m : Nat) (i : Int), 0 ≤ i → ((l.length : Int) - i).toNat = m → ∃ b, Ev (fun k => laws_zzFits4.l0 k l (l.length : Int) i) b := by
  intro m
  induction m with
  | zero => intro i h0 h1; exact ⟨true, Ev.step (fun k => laws_zzFits4.l0.eq_2 ..) (ifn (by omega) (Ev.now _))⟩
  | succ m ih =>
    intro i h0 h1
    obtain ⟨b, hb⟩ := ih (i + 1) (by omega) (by omega)
    by_cases h : ((rdOf ByteArray.empty l i).size : Int) > 2147483647
    · exact ⟨false, Ev.step (fun k => laws_zzFits4.l0.eq_2 ..) (ifp (by omega) (ifp (by omega) (ifp (by omega) (ifp h (Ev.now _)))))⟩
    · refine ⟨b, Ev.step (fun k => laws_zzFits4.l0.eq_2 ..) (ifp (by omega) (ifp (by omega) (ifp (by omega) (ifn h ?_))))⟩
      rw [w64 (by omega) (by omega)]; exact hb
theorem fits4_ev (l : List ByteArray) : ∃ k b, laws_zzFits4.f k l = some b ∧ (b = true → l.length ≤ 2147483647) := by
  by_cases h : (l.length : Int) > 2147483647
  · exact ⟨0, false, by unfold laws_zzFits4.f; rw [if_pos h], fun e => by cases e⟩
  · obtain ⟨b, hb⟩ := fits4_l0 l (by omega) _ 0 (by omega) rfl
    obtain ⟨k, hk⟩ := hb.rounds
    exact ⟨k, b, by unfold laws_zzFits4.f; rw [if_neg h]; exact hk, fun _ => by omega⟩
theorem key_ev (key : ByteArray) (hk : key.size ≤ 2147483647) : ∃ b, Ev (fun k => spec_NameKey.f k key) b := by
  have hs : ∀ k, spec_Split.f k key 47 = some (splitG 47 key.data.toList [⟨#[]⟩]) := fun k => by unfold spec_Split.f; rw [if_pos (by omega)]
  have hpos := splitG_pos 47 key.data.toList [⟨#[]⟩] (by simp)
  have hsz := splitG_size 47 key.data.toList [⟨#[]⟩] 0 (fun y hy => by rw [List.mem_singleton.1 hy]; exact Nat.zero_le _)
  obtain ⟨t, ht⟩ : ∃ t, splitG 47 key.data.toList [⟨#[]⟩] = t := ⟨_, rfl⟩
  rw [ht] at hpos hsz hs
  have hlen : key.data.toList.length = key.size := by simp
  have hrd : ∀ i : Int, 0 ≤ i → i < t.length → (rdOf ByteArray.empty t i).size ≤ 2147483647 := by
    intro i h0 h1
    have hm : rdOf ByteArray.empty t i ∈ t := by
      unfold rdOf
      rw [List.getD_eq_getElem?_getD, List.getElem?_eq_getElem (by omega : i.toNat < t.length)]
      exact List.getElem_mem _
    have := hsz _ hm
    omega
  have hone : ([⟨#[]⟩] : List ByteArray).length = 1 := rfl
  have hval : ∀ i : Int, 0 ≤ i → i < t.length → ∀ k, spec_NameValue.f k (rdOf ByteArray.empty t i) = some (valueB (rdOf ByteArray.empty t i).data.toList) := fun i h0 h1 k => by
    have := hrd i h0 h1
    unfold spec_NameValue.f; rw [if_pos (by unfold maxLen; omega)]
  have hdom : ∀ i : Int, 0 ≤ i → i < t.length → ∀ k, spec_NameDomain.f k (rdOf ByteArray.empty t i) = some (domainB (rdOf ByteArray.empty t i)) := fun i h0 h1 k => by
    have := hrd i h0 h1
    unfold spec_NameDomain.f; rw [if_pos (by omega)]
  have hw : wrap64 ((t.length : Int) - 1) = (t.length : Int) - 1 := w64 (by omega) (by omega)
  have hv := hval ((t.length : Int) - 1) (by omega) (by omega)
  refine Classical.byContradiction fun hn => ?_
  have : ∃ b, ∀ k, spec_NameKey.f k key = some b := by
    unfold spec_NameKey.f
    simp only [hs, Option.bind_some, hw, hv]
    by_cases h2 : (t.length : Int) = 2
    · simp only [if_pos h2, hdom 0 (by omega) (by omega), Option.bind_some, if_pos (show 0 < (t.length : Int) by omega)]
      cases domainB (rdOf ByteArray.empty t 0)
      · exact ⟨false, fun k => rfl⟩
      · simp only [if_true, if_neg (show ¬ (t.length : Int) > 2 by omega), if_pos (show (0 : Int) ≤ (t.length : Int) - 1 by omega), if_pos (show (t.length : Int) - 1 < (t.length : Int) by omega)]
        split
        · exact ⟨_, fun k => rfl⟩
        · exact ⟨_, fun k => rfl⟩
    · simp only [if_neg h2]
      by_cases h3 : (t.length : Int) > 2
      · simp only [if_pos h3]; exact ⟨_, fun k => rfl⟩
      · simp only [if_neg h3, if_pos (show (0 : Int) ≤ (t.length : Int) - 1 by omega), if_pos (show (t.length : Int) - 1 < (t.length : Int) by omega)]
        split
        · exact ⟨_, fun k => rfl⟩
        · exact ⟨_, fun k => rfl⟩
  obtain ⟨b, hb⟩ := this
  exact hn ⟨b, Ev.congr hb (Ev.now b)⟩
theorem may_l0 (key op : ByteArray) (l : List ByteArray) (hl : (l.length : Int) ≤ 2147483647) (hx : ∀ x ∈ l, x.size ≤ maxLen) (c : Bool) (hc : Ev (fun k => spec_NeedCount.f k key op l) c) :
    ∀ (m : Nat) (i : Int), 0 ≤ i → ((l.length : Int) - i).toNat = m → ∃ b, Ev (fun k => spec_NeedMay.l0 k i key op l) b ∧ (b = true → c = true) := by
  intro m
  induction m with
  | zero => intro i h0 h1; exact ⟨c, Ev.step (fun k => spec_NeedMay.l0.eq_2 ..) (ifn (by omega) (Ev.bind hc (Ev.now _))), id⟩
  | succ m ih =>
    intro i h0 h1
    obtain ⟨b, hb, hbc⟩ := ih (i + 1) (by omega) (by omega)
    have hm : rdOf ByteArray.empty l i ∈ l := by
      unfold rdOf
      rw [List.getD_eq_getElem?_getD, List.getElem?_eq_getElem (by omega : i.toNat < l.length)]
      exact List.getElem_mem _
    have hv : ∀ k, spec_NameValue.f k (rdOf ByteArray.empty l i) = some (valueB (rdOf ByteArray.empty l i).data.toList) := fun k => by
      unfold spec_NameValue.f; rw [if_pos (hx _ hm)]
    have hv2 : Ev (fun k => spec_NameValue.f k (rdOf ByteArray.empty l i)) (valueB (rdOf ByteArray.empty l i).data.toList) := Ev.congr hv (Ev.now _)
    cases hval : valueB (rdOf ByteArray.empty l i).data.toList with
    | false =>
      rw [hval] at hv2
      exact ⟨false, Ev.step (fun k => spec_NeedMay.l0.eq_2 ..) (ifp (by omega) (ifp (by omega) (Ev.bind hv2 (ifn (by decide) (Ev.now _))))), fun e => nomatch e⟩
    | true =>
      rw [hval] at hv2
      refine ⟨b, Ev.step (fun k => spec_NeedMay.l0.eq_2 ..) (ifp (by omega) (ifp (by omega) (Ev.bind hv2 (ifp rfl ?_)))), hbc⟩
      rw [w64 (by omega) (by omega)]; exact hb
theorem may_ev (key op : ByteArray) (hk : key.size ≤ 2147483647) (l : List ByteArray) (hl : l.length ≤ 2147483647) (hx : ∀ x ∈ l, x.size ≤ maxLen) (ho : Ev (fun k => spec_NeedOp.f k op) true) (c : Bool) (hc : Ev (fun k => spec_NeedCount.f k key op l) c) :
    ∃ k b, spec_NeedMay.f k key op l = some b ∧ (b = true → c = true) := by
  obtain ⟨kb, hkb⟩ := key_ev key hk
  obtain ⟨b, hb, hbc⟩ := may_l0 key op l (by omega) hx c hc _ 0 (by omega) rfl
  cases kb with
  | false =>
    have h : Ev (fun k => spec_NeedMay.f k key op l) false := Ev.bind ho (ifp rfl (Ev.bind hkb (Ev.step (fun k => spec_NeedMay.j0.eq_2 ..) (ifp rfl (Ev.now _)))))
    obtain ⟨k, hk⟩ := h.rounds
    exact ⟨k, false, hk, fun e => nomatch e⟩
  | true =>
    have h : Ev (fun k => spec_NeedMay.f k key op l) b := Ev.bind ho (ifp rfl (Ev.bind hkb (Ev.step (fun k => spec_NeedMay.j0.eq_2 ..) (ifn (by decide) hb))))
    obtain ⟨k, hk⟩ := h.rounds
    exact ⟨k, b, hk, hbc⟩
/-- Exactly one value, and it tells a number. -/
def oneNum : List ByteArray → Bool
  | [x] => (needF x.data.toList).2
  | _ => false
theorem oneNum_say {l : List ByteArray} (h : oneNum l = true) : ∃ x v, l = [x] ∧ whole x = some v := by
  unfold oneNum at h
  split at h
  · rename_i x
    refine ⟨x, ?_⟩
    unfold needF at h
    unfold whole
    split at h
    · rename_i v hv; exact ⟨v, rfl, hv⟩
    · split at h <;> cases h
  · cases h
theorem num_f (k : Nat) (x : ByteArray) (hx : x.size ≤ maxLen) : spec_NeedNumber.f k x = some (needF x.data.toList) := by unfold spec_NeedNumber.f; rw [if_pos hx]
theorem rd0 (x : ByteArray) (l : List ByteArray) : rdOf ByteArray.empty (x :: l) 0 = x := rfl
theorem op_in : Ev (fun k => spec_NeedOp.f k o_in) true := ⟨12, fun k hk => by
  obtain ⟨n, rfl⟩ : ∃ n, k = n + 12 := ⟨k - 12, by omega⟩
  simp [spec_NeedOp.f, spec_keyIn_string.f, spec_keyIn_string.l0, tl, rdOf, wrap64]⟩
theorem op_notin : Ev (fun k => spec_NeedOp.f k o_notin) true := ⟨12, fun k hk => by
  obtain ⟨n, rfl⟩ : ∃ n, k = n + 12 := ⟨k - 12, by omega⟩
  simp [spec_NeedOp.f, spec_keyIn_string.f, spec_keyIn_string.l0, tl, rdOf, wrap64]⟩
theorem op_eq : Ev (fun k => spec_NeedOp.f k o_eq) true := ⟨12, fun k hk => by
  obtain ⟨n, rfl⟩ : ∃ n, k = n + 12 := ⟨k - 12, by omega⟩
  simp [spec_NeedOp.f, spec_keyIn_string.f, spec_keyIn_string.l0, tl, rdOf, wrap64]⟩
theorem op_eq2 : Ev (fun k => spec_NeedOp.f k o_eq2) true := ⟨12, fun k hk => by
  obtain ⟨n, rfl⟩ : ∃ n, k = n + 12 := ⟨k - 12, by omega⟩
  simp [spec_NeedOp.f, spec_keyIn_string.f, spec_keyIn_string.l0, tl, rdOf, wrap64]⟩
theorem op_ne : Ev (fun k => spec_NeedOp.f k o_ne) true := ⟨12, fun k hk => by
  obtain ⟨n, rfl⟩ : ∃ n, k = n + 12 := ⟨k - 12, by omega⟩
  simp [spec_NeedOp.f, spec_keyIn_string.f, spec_keyIn_string.l0, tl, rdOf, wrap64]⟩
theorem op_ex : Ev (fun k => spec_NeedOp.f k o_ex) true := ⟨12, fun k hk => by
  obtain ⟨n, rfl⟩ : ∃ n, k = n + 12 := ⟨k - 12, by omega⟩
  simp [spec_NeedOp.f, spec_keyIn_string.f, spec_keyIn_string.l0, tl, rdOf, wrap64]⟩
theorem op_nx : Ev (fun k => spec_NeedOp.f k o_nx) true := ⟨12, fun k hk => by
  obtain ⟨n, rfl⟩ : ∃ n, k = n + 12 := ⟨k - 12, by omega⟩
  simp [spec_NeedOp.f, spec_keyIn_string.f, spec_keyIn_string.l0, tl, rdOf, wrap64]⟩
theorem op_gt : Ev (fun k => spec_NeedOp.f k o_gt) true := ⟨12, fun k hk => by
  obtain ⟨n, rfl⟩ : ∃ n, k = n + 12 := ⟨k - 12, by omega⟩
  simp [spec_NeedOp.f, spec_keyIn_string.f, spec_keyIn_string.l0, tl, rdOf, wrap64]⟩
theorem op_lt : Ev (fun k => spec_NeedOp.f k o_lt) true := ⟨12, fun k hk => by
  obtain ⟨n, rfl⟩ : ∃ n, k = n + 12 := ⟨k - 12, by omega⟩
  simp [spec_NeedOp.f, spec_keyIn_string.f, spec_keyIn_string.l0, tl, rdOf, wrap64]⟩
theorem cn_in (key : ByteArray) (l : List ByteArray) (hx : ∀ x ∈ l, x.size ≤ maxLen) : Ev (fun k => spec_NeedCount.f k key o_in l) (decide (0 < l.length)) := ⟨2, fun k hk => by
  obtain ⟨n, rfl⟩ : ∃ n, k = n + 2 := ⟨k - 2, by omega⟩
  simp [spec_NeedCount.f, spec_NeedCount.j0, tl]⟩
theorem cn_notin (key : ByteArray) (l : List ByteArray) (hx : ∀ x ∈ l, x.size ≤ maxLen) : Ev (fun k => spec_NeedCount.f k key o_notin l) (decide (0 < l.length)) := ⟨2, fun k hk => by
  obtain ⟨n, rfl⟩ : ∃ n, k = n + 2 := ⟨k - 2, by omega⟩
  simp [spec_NeedCount.f, spec_NeedCount.j0, tl]⟩
theorem cn_eq (key : ByteArray) (l : List ByteArray) (hx : ∀ x ∈ l, x.size ≤ maxLen) : Ev (fun k => spec_NeedCount.f k key o_eq l) (decide (l.length = 1)) := ⟨2, fun k hk => by
  obtain ⟨n, rfl⟩ : ∃ n, k = n + 2 := ⟨k - 2, by omega⟩
  rcases l with _ | ⟨x, _ | ⟨y, l⟩⟩
  · simp [spec_NeedCount.f, spec_NeedCount.j0, spec_NeedCount.j1, tl]
  · have hn := num_f (n + 1) x (hx x (by simp))
    have hn0 := num_f n x (hx x (by simp))
    cases hb : (needF x.data.toList).2 <;> simp [spec_NeedCount.f, spec_NeedCount.j0, spec_NeedCount.j1, tl, rd0, hn, hn0, hb]
  · have hz : ¬ ((l.length : Int) + 1 + 1 = 1) := by omega
    simp [spec_NeedCount.f, spec_NeedCount.j0, spec_NeedCount.j1, tl, hz]⟩
theorem cn_eq2 (key : ByteArray) (l : List ByteArray) (hx : ∀ x ∈ l, x.size ≤ maxLen) : Ev (fun k => spec_NeedCount.f k key o_eq2 l) (decide (l.length = 1)) := ⟨2, fun k hk => by
  obtain ⟨n, rfl⟩ : ∃ n, k = n + 2 := ⟨k - 2, by omega⟩
  rcases l with _ | ⟨x, _ | ⟨y, l⟩⟩
  · simp [spec_NeedCount.f, spec_NeedCount.j0, spec_NeedCount.j1, tl]
  · have hn := num_f (n + 1) x (hx x (by simp))
    have hn0 := num_f n x (hx x (by simp))
    cases hb : (needF x.data.toList).2 <;> simp [spec_NeedCount.f, spec_NeedCount.j0, spec_NeedCount.j1, tl, rd0, hn, hn0, hb]
  · have hz : ¬ ((l.length : Int) + 1 + 1 = 1) := by omega
    simp [spec_NeedCount.f, spec_NeedCount.j0, spec_NeedCount.j1, tl, hz]⟩
theorem cn_ne (key : ByteArray) (l : List ByteArray) (hx : ∀ x ∈ l, x.size ≤ maxLen) : Ev (fun k => spec_NeedCount.f k key o_ne l) (decide (l.length = 1)) := ⟨2, fun k hk => by
  obtain ⟨n, rfl⟩ : ∃ n, k = n + 2 := ⟨k - 2, by omega⟩
  rcases l with _ | ⟨x, _ | ⟨y, l⟩⟩
  · simp [spec_NeedCount.f, spec_NeedCount.j0, spec_NeedCount.j1, tl]
  · have hn := num_f (n + 1) x (hx x (by simp))
    have hn0 := num_f n x (hx x (by simp))
    cases hb : (needF x.data.toList).2 <;> simp [spec_NeedCount.f, spec_NeedCount.j0, spec_NeedCount.j1, tl, rd0, hn, hn0, hb]
  · have hz : ¬ ((l.length : Int) + 1 + 1 = 1) := by omega
    simp [spec_NeedCount.f, spec_NeedCount.j0, spec_NeedCount.j1, tl, hz]⟩
theorem cn_ex (key : ByteArray) (l : List ByteArray) (hx : ∀ x ∈ l, x.size ≤ maxLen) : Ev (fun k => spec_NeedCount.f k key o_ex l) (decide (l = [])) := ⟨2, fun k hk => by
  obtain ⟨n, rfl⟩ : ∃ n, k = n + 2 := ⟨k - 2, by omega⟩
  cases l <;> simp [spec_NeedCount.f, spec_NeedCount.j0, spec_NeedCount.j1, tl] <;> omega⟩
theorem cn_nx (key : ByteArray) (l : List ByteArray) (hx : ∀ x ∈ l, x.size ≤ maxLen) : Ev (fun k => spec_NeedCount.f k key o_nx l) (decide (l = [])) := ⟨2, fun k hk => by
  obtain ⟨n, rfl⟩ : ∃ n, k = n + 2 := ⟨k - 2, by omega⟩
  cases l <;> simp [spec_NeedCount.f, spec_NeedCount.j0, spec_NeedCount.j1, tl] <;> omega⟩
theorem cn_gt (key : ByteArray) (l : List ByteArray) (hx : ∀ x ∈ l, x.size ≤ maxLen) : Ev (fun k => spec_NeedCount.f k key o_gt l) (oneNum l) := ⟨2, fun k hk => by
  obtain ⟨n, rfl⟩ : ∃ n, k = n + 2 := ⟨k - 2, by omega⟩
  rcases l with _ | ⟨x, _ | ⟨y, l⟩⟩
  · simp [spec_NeedCount.f, spec_NeedCount.j0, spec_NeedCount.j1, tl, oneNum]
  · have hn := num_f (n + 1) x (hx x (by simp))
    have hn0 := num_f n x (hx x (by simp))
    cases hb : (needF x.data.toList).2 <;> simp [spec_NeedCount.f, spec_NeedCount.j0, spec_NeedCount.j1, tl, rd0, hn, hn0, hb, oneNum]
  · have hz : ¬ ((l.length : Int) + 1 + 1 = 1) := by omega
    simp [spec_NeedCount.f, spec_NeedCount.j0, spec_NeedCount.j1, tl, hz, oneNum]⟩
theorem cn_lt (key : ByteArray) (l : List ByteArray) (hx : ∀ x ∈ l, x.size ≤ maxLen) : Ev (fun k => spec_NeedCount.f k key o_lt l) (oneNum l) := ⟨2, fun k hk => by
  obtain ⟨n, rfl⟩ : ∃ n, k = n + 2 := ⟨k - 2, by omega⟩
  rcases l with _ | ⟨x, _ | ⟨y, l⟩⟩
  · simp [spec_NeedCount.f, spec_NeedCount.j0, spec_NeedCount.j1, tl, oneNum]
  · have hn := num_f (n + 1) x (hx x (by simp))
    have hn0 := num_f n x (hx x (by simp))
    cases hb : (needF x.data.toList).2 <;> simp [spec_NeedCount.f, spec_NeedCount.j0, spec_NeedCount.j1, tl, rd0, hn, hn0, hb, oneNum]
  · have hz : ¬ ((l.length : Int) + 1 + 1 = 1) := by omega
    simp [spec_NeedCount.f, spec_NeedCount.j0, spec_NeedCount.j1, tl, hz, oneNum]⟩
theorem may_in (key : ByteArray) (hk : key.size ≤ 2147483647) (l : List ByteArray) (hl : l.length ≤ 2147483647) (hx : ∀ x ∈ l, x.size ≤ maxLen) : ∃ k b, spec_NeedMay.f k key o_in l = some b ∧ (b = true → ¬ l.length = 0) := by
  obtain ⟨k, b, h1, h2⟩ := may_ev key o_in hk l hl hx op_in _ (cn_in key l hx)
  exact ⟨k, b, h1, fun e => (by have := of_decide_eq_true (h2 e); omega)⟩
theorem may_notin (key : ByteArray) (hk : key.size ≤ 2147483647) (l : List ByteArray) (hl : l.length ≤ 2147483647) (hx : ∀ x ∈ l, x.size ≤ maxLen) : ∃ k b, spec_NeedMay.f k key o_notin l = some b ∧ (b = true → ¬ l.length = 0) := by
  obtain ⟨k, b, h1, h2⟩ := may_ev key o_notin hk l hl hx op_notin _ (cn_notin key l hx)
  exact ⟨k, b, h1, fun e => (by have := of_decide_eq_true (h2 e); omega)⟩
theorem may_eq (key : ByteArray) (hk : key.size ≤ 2147483647) (l : List ByteArray) (hl : l.length ≤ 2147483647) (hx : ∀ x ∈ l, x.size ≤ maxLen) : ∃ k b, spec_NeedMay.f k key o_eq l = some b ∧ (b = true → l.length = 1) := by
  obtain ⟨k, b, h1, h2⟩ := may_ev key o_eq hk l hl hx op_eq _ (cn_eq key l hx)
  exact ⟨k, b, h1, fun e => of_decide_eq_true (h2 e)⟩
theorem may_eq2 (key : ByteArray) (hk : key.size ≤ 2147483647) (l : List ByteArray) (hl : l.length ≤ 2147483647) (hx : ∀ x ∈ l, x.size ≤ maxLen) : ∃ k b, spec_NeedMay.f k key o_eq2 l = some b ∧ (b = true → l.length = 1) := by
  obtain ⟨k, b, h1, h2⟩ := may_ev key o_eq2 hk l hl hx op_eq2 _ (cn_eq2 key l hx)
  exact ⟨k, b, h1, fun e => of_decide_eq_true (h2 e)⟩
theorem may_ne (key : ByteArray) (hk : key.size ≤ 2147483647) (l : List ByteArray) (hl : l.length ≤ 2147483647) (hx : ∀ x ∈ l, x.size ≤ maxLen) : ∃ k b, spec_NeedMay.f k key o_ne l = some b ∧ (b = true → l.length = 1) := by
  obtain ⟨k, b, h1, h2⟩ := may_ev key o_ne hk l hl hx op_ne _ (cn_ne key l hx)
  exact ⟨k, b, h1, fun e => of_decide_eq_true (h2 e)⟩
theorem may_ex (key : ByteArray) (hk : key.size ≤ 2147483647) (l : List ByteArray) (hl : l.length ≤ 2147483647) (hx : ∀ x ∈ l, x.size ≤ maxLen) : ∃ k b, spec_NeedMay.f k key o_ex l = some b ∧ (b = true → l.length = 0) := by
  obtain ⟨k, b, h1, h2⟩ := may_ev key o_ex hk l hl hx op_ex _ (cn_ex key l hx)
  exact ⟨k, b, h1, fun e => (by have := of_decide_eq_true (h2 e); subst this; rfl)⟩
theorem may_nx (key : ByteArray) (hk : key.size ≤ 2147483647) (l : List ByteArray) (hl : l.length ≤ 2147483647) (hx : ∀ x ∈ l, x.size ≤ maxLen) : ∃ k b, spec_NeedMay.f k key o_nx l = some b ∧ (b = true → l.length = 0) := by
  obtain ⟨k, b, h1, h2⟩ := may_ev key o_nx hk l hl hx op_nx _ (cn_nx key l hx)
  exact ⟨k, b, h1, fun e => (by have := of_decide_eq_true (h2 e); subst this; rfl)⟩
theorem may_gt (key : ByteArray) (hk : key.size ≤ 2147483647) (l : List ByteArray) (hl : l.length ≤ 2147483647) (hx : ∀ x ∈ l, x.size ≤ maxLen) : ∃ k b, spec_NeedMay.f k key o_gt l = some b ∧ (b = true → ∃ x v, l = [x] ∧ whole x = some v) := by
  obtain ⟨k, b, h1, h2⟩ := may_ev key o_gt hk l hl hx op_gt _ (cn_gt key l hx)
  exact ⟨k, b, h1, fun e => oneNum_say (h2 e)⟩
theorem may_lt (key : ByteArray) (hk : key.size ≤ 2147483647) (l : List ByteArray) (hl : l.length ≤ 2147483647) (hx : ∀ x ∈ l, x.size ≤ maxLen) : ∃ k b, spec_NeedMay.f k key o_lt l = some b ∧ (b = true → ∃ x v, l = [x] ∧ whole x = some v) := by
  obtain ⟨k, b, h1, h2⟩ := may_ev key o_lt hk l hl hx op_lt _ (cn_lt key l hx)
  exact ⟨k, b, h1, fun e => oneNum_say (h2 e)⟩
end Go.Proofs.YtjlmhfciidfjiaaDoor.NdZ
