/- Sets of string: what the specification's functions tell: sorted lists without doubles, by their members. -/
import Derived.Test.YtmipenoiodjbhaaXFnLabelSetsx3
import Derived.Test.YtmipenoiodjbhaaSetS
import Derived.Test.YtmipenoiodjbhaaEv
namespace Go.Proofs.Ytmipenoiodjbhaa.PureL
open Go.RowKit Go.Proofs.Ytmipenoiodjbhaa.XFnLabelSets Go.Proofs.YtmipenoiodjbhaaW.PrintWords Go.Proofs.Ytmipenoiodjbhaa.EvL Go.Proofs.Ytmipenoiodjbhaa.SetGen Go.Proofs.Ytmipenoiodjbhaa.SetS

def lt (a b : ByteArray) : Prop := a.data.toList < b.data.toList
theorem less_iff : ∀ a b : List UInt8, Op.bytesLess a b = true ↔ a < b
  | [], [] => by simp [Op.bytesLess]
  | [], b :: bs => by simp [Op.bytesLess]
  | a :: al, [] => by simp [Op.bytesLess]
  | a :: al, b :: bs => by
    have ih := less_iff al bs
    simp only [Op.bytesLess]
    rw [List.cons_lt_cons_iff, ← ih]
    by_cases h : a < b
    · simp [h]
    · by_cases h2 : a = b
      · subst h2; simp
      · simp [h, h2]
theorem lt_irrefl (a : ByteArray) : ¬ lt a a := List.lt_irrefl _
theorem lt_trans {a b c : ByteArray} (h1 : lt a b) (h2 : lt b c) : lt a c := List.lt_trans h1 h2
theorem data_inj {a b : ByteArray} (h : a.data.toList = b.data.toList) : a = b := Go.WideShapes.bytes_inj h
theorem lt_total {a b : ByteArray} (h1 : ¬ lt a b) (h2 : a ≠ b) : lt b a := by
  unfold lt at *
  rcases List.le_total a.data.toList b.data.toList with h | h
  · exact absurd (data_inj (List.le_antisymm h (List.not_lt.1 h1))) h2
  · rcases Classical.em (b.data.toList < a.data.toList) with h3 | h3
    · exact h3
    · exact absurd (data_inj (List.le_antisymm (List.not_lt.1 h3) h)) h2
instance (a b : ByteArray) : Decidable (lt a b) := by unfold lt; infer_instance
theorem at_ (l : List ByteArray) (i : Nat) (h : i < l.length) : rdOf ByteArray.empty l (i : Int) = l[i] := by
  unfold rdOf; simp [h]
theorem toL (s : ByteArray) : s.toList = s.data.toList := ByteArray.toList_eq s
theorem test_eq (l : List ByteArray) (i : Nat) (h : i < l.length) (x : ByteArray) : (rdOf ByteArray.empty l (i : Int)).toList = x.toList ↔ l[i] = x := by
  rw [at_ l i h, toL, toL]; exact ⟨data_inj, fun e => by rw [e]⟩
theorem test_eq2 (l m : List ByteArray) (i : Nat) (h : i < l.length) (h' : i < m.length) : (rdOf ByteArray.empty l (i : Int)).toList = (rdOf ByteArray.empty m (i : Int)).toList ↔ l[i] = m[i] := by
  rw [at_ m i h']; exact test_eq l i h _
theorem test_lt (l m : List ByteArray) (i j : Nat) (h : i < l.length) (h' : j < m.length) : (Op.bytesLess ((rdOf ByteArray.empty l (i : Int)).toList) ((rdOf ByteArray.empty m (j : Int)).toList)) = true ↔ lt l[i] m[j] := by
  rw [at_ l i h, at_ m j h', toL, toL]; exact less_iff _ _
theorem back_forth (l : List ByteArray) : (l.map fun s => s.data.toList).map (fun b => (⟨b.toArray⟩ : ByteArray)) = l := by
  rw [List.map_map]
  exact (List.map_congr_left (fun x _ => data_inj (by simp))).trans (List.map_id _)
theorem srt_is (l : List ByteArray) : (srt l).Perm l := by
  have h := (List.mergeSort_perm (l.map fun s => s.data.toList) (fun x y => decide (x ≤ y))).map (fun b => (⟨b.toArray⟩ : ByteArray))
  rw [back_forth] at h
  exact h
theorem srt_sorted {r : List ByteArray} (hp : r.Pairwise lt) : srt r = r := by
  unfold srt
  rw [List.mergeSort_of_pairwise]
  · exact back_forth r
  · exact List.pairwise_map.2 (hp.imp (fun h => by simpa using List.le_of_lt h))

theorem canon_mem (l : List ByteArray) (x : ByteArray) : x ∈ canon l ↔ x ∈ l := by unfold canon; rw [(srt_is _).mem_iff, mem_ded]
theorem canon_nodup (l : List ByteArray) : (canon l).Nodup := (srt_is _).nodup_iff.2 (nodup_ded l)
theorem canon_of {l r : List ByteArray} (hp : r.Pairwise lt) (hm : ∀ x, x ∈ r ↔ x ∈ l) : r = canon l := by
  have hn : r.Nodup := hp.imp (fun h e => by subst e; exact lt_irrefl _ h)
  rw [← canon_eq hn hm, srt_sorted hp]
theorem canon_length (l : List ByteArray) : (canon l).length ≤ l.length := nodup_length (canon_nodup l) (fun x hx => (canon_mem l x).1 hx)

/-! ### a row's members -/
theorem in_l0 (l : List ByteArray) (x : ByteArray) (hl : l.length ≤ 8589934592) (n : Nat) : ∀ i : Nat, i ≤ l.length → l.length - i = n → Ev (fun k => spec_keyIn_string.l0 k l x i) (decide (x ∈ l.drop i)) := by
  induction n with
  | zero =>
    intro i hi hn
    rw [List.drop_eq_nil_of_le (by omega)]
    exact Ev.step (fun k => spec_keyIn_string.l0.eq_2 ..) (ifn (by omega) (now (by simp)))
  | succ n ih =>
    intro i hi hn
    have hlt : i < l.length := by omega
    refine Ev.step (fun k => spec_keyIn_string.l0.eq_2 ..) (ifp (by omega) (ifp (by omega) ?_))
    rw [List.drop_eq_getElem_cons hlt]
    by_cases h : l[i] = x
    · exact ifp ((test_eq l i hlt x).2 h) (now (by simp [h]))
    · refine ifn (fun e => h ((test_eq l i hlt x).1 e)) ?_
      rw [w64 (x := (i : Int) + 1) (by omega) (by omega)]
      have e : decide (x ∈ l[i] :: l.drop (i + 1)) = decide (x ∈ l.drop (i + 1)) := by
        have h2 : ¬ x = l[i] := fun e => h e.symm
        simp only [List.mem_cons, h2, false_or]
      rw [e]
      exact ih (i + 1) (by omega) (by omega)
theorem in_ev (l : List ByteArray) (x : ByteArray) (hl : l.length ≤ 8589934592) : Ev (fun k => spec_keyIn_string.f k l x) (decide (x ∈ l)) := by
  have := in_l0 l x hl _ 0 (by omega) rfl
  simpa [spec_keyIn_string.f] using this

/-! ### the members of a row, each once, rising -/
theorem ins_ok {out : List ByteArray} {x : ByteArray} {j : Nat} (hp : out.Pairwise lt) (h1 : ∀ p ∈ out.take j, lt p x) (h2 : ∀ p ∈ out.drop j, lt x p) : (out.take j ++ [x] ++ out.drop j).Pairwise lt := by
  have hp' := hp
  rw [← List.take_append_drop j out, List.pairwise_append] at hp'
  obtain ⟨q1, q2, q3⟩ := hp'
  rw [List.append_assoc, List.pairwise_append]
  refine ⟨q1, ?_, fun a ha b hb => ?_⟩
  · rw [List.singleton_append, List.pairwise_cons]
    exact ⟨h2, q2⟩
  · rcases List.mem_append.1 hb with h | h
    · rw [List.mem_singleton.1 h]; exact h1 a ha
    · exact q3 a ha b h
theorem keys_l1 (l out : List ByteArray) (i : Nat) (hi : i < l.length) (hl : l.length ≤ 8589934592) (ho : out.length + 1 ≤ 8589934592) (hp : out.Pairwise lt) (hx : l[i] ∉ out) (n : Nat) : ∀ j : Nat, j ≤ out.length → out.length - j = n → (∀ p ∈ out.take j, lt p l[i]) →
    ∃ r : List ByteArray, r.Pairwise lt ∧ (∀ x, x ∈ r ↔ x ∈ out ∨ x = l[i]) ∧ r.length = out.length + 1 ∧ ∀ q, Ev (fun k => spec_Keys_string.l0 k l r ((i : Int) + 1)) q → Ev (fun k => spec_Keys_string.l1 k l out i j) q := by
  have step : ∀ (j : Nat) (hj : j ≤ out.length) (h1 : ∀ p ∈ out.take j, lt p l[i]) (h2 : ∀ p ∈ out.drop j, lt l[i] p), (out.take j ++ [l[i]] ++ out.drop j).Pairwise lt ∧ (∀ x, x ∈ (out.take j ++ [l[i]] ++ out.drop j) ↔ x ∈ out ∨ x = l[i]) ∧ (out.take j ++ [l[i]] ++ out.drop j).length = out.length + 1 := by
    intro j hj h1 h2
    refine ⟨ins_ok hp h1 h2, fun x => ?_, by simp; omega⟩
    conv => rhs; rw [← List.take_append_drop j out]
    simp only [List.mem_append, List.mem_singleton]
    constructor
    · rintro ((h | h) | h)
      · exact .inl (.inl h)
      · exact .inr h
      · exact .inl (.inr h)
    · rintro ((h | h) | h)
      · exact .inl (.inl h)
      · exact .inr h
      · exact .inl (.inr h)
  have e1 : wrap64 ((i : Int) + 1) = (i : Int) + 1 := w64 (by omega) (by omega)
  induction n with
  | zero =>
    intro j hj hn h1
    have hje : j = out.length := by omega
    obtain ⟨s1, s2, s3⟩ := step j hj h1 (by rw [List.drop_eq_nil_of_le (by omega)]; simp)
    refine ⟨_, s1, s2, s3, fun q hq => ?_⟩
    refine Ev.step (fun k => spec_Keys_string.l1.eq_2 ..) (ifn (by omega) (sb (ifp (by omega) (ifp (by omega) (sb (ifp ?_ (sb (ifp (by omega) (ifp (by omega) (ifp ?_ (sb (sb (ifp ?_ ?_)))))))))))))
    · rw [Int.toNat_natCast]; simp; omega
    · rw [Int.toNat_natCast]; simp; omega
    · rw [Int.toNat_natCast]; simp; omega
    · rw [Int.toNat_natCast, e1, List.nil_append, at_ l i hi]
      exact hq
  | succ n ih =>
    intro j hj hn h1
    have hlt : j < out.length := by omega
    by_cases h : lt out[j] l[i]
    · obtain ⟨r, s1, s2, s3, s4⟩ := ih (j + 1) (by omega) (by omega) (fun p hp' => by
        rw [List.take_add_one, List.getElem?_eq_getElem hlt] at hp'
        rcases List.mem_append.1 hp' with h' | h'
        · exact h1 p h'
        · have h3 : p = out[j] := by simpa using h'
          rw [h3]; exact h)
      refine ⟨r, s1, s2, s3, fun q hq => ?_⟩
      refine Ev.step (fun k => spec_Keys_string.l1.eq_2 ..) (ifp (by omega) (ifp (by omega) (ifp (by omega) (ifp (by omega) (ifp ((test_lt out l j i hlt hi).2 h) ?_)))))
      rw [w64 (x := (j : Int) + 1) (by omega) (by omega)]
      exact s4 q hq
    · have h2 : ∀ p ∈ out.drop j, lt l[i] p := by
        have hne : out[j] ≠ l[i] := fun e => hx (e ▸ List.getElem_mem hlt)
        have hlt2 := lt_total h hne
        have hp' := hp.sublist (List.drop_sublist j out)
        rw [List.drop_eq_getElem_cons hlt, List.pairwise_cons] at hp'
        rw [List.drop_eq_getElem_cons hlt]
        intro p hpp
        rcases List.mem_cons.1 hpp with h' | h'
        · rw [h']; exact hlt2
        · exact lt_trans hlt2 (hp'.1 p h')
      obtain ⟨s1, s2, s3⟩ := step j hj h1 h2
      refine ⟨_, s1, s2, s3, fun q hq => ?_⟩
      refine Ev.step (fun k => spec_Keys_string.l1.eq_2 ..) (ifp (by omega) (ifp (by omega) (ifp (by omega) (ifp (by omega) (ifn (fun e => h ((test_lt out l j i hlt hi).1 e)) (sb (ifp (by omega) (sb (ifp ?_ (sb (ifp ?_ (sb (sb (ifp ?_ ?_))))))))))))))
      · rw [Int.toNat_natCast]; simp; omega
      · rw [Int.toNat_natCast]; simp; omega
      · rw [Int.toNat_natCast]; simp; omega
      · rw [Int.toNat_natCast, e1, List.nil_append, at_ l i hi]
        exact hq
theorem keys_l0 (l : List ByteArray) (hl : l.length ≤ 8589934592) (n : Nat) : ∀ (i : Nat) (out : List ByteArray), i ≤ l.length → l.length - i = n → out.Pairwise lt → (∀ x, x ∈ out ↔ x ∈ l.take i) → out.length ≤ i → Ev (fun k => spec_Keys_string.l0 k l out i) (canon l) := by
  induction n with
  | zero =>
    intro i out hi hn hp hm ho
    exact Ev.step (fun k => spec_Keys_string.l0.eq_2 ..) (ifn (by omega) (now (canon_of hp (fun x => by rw [hm x, List.take_of_length_le (by omega)]))))
  | succ n ih =>
    intro i out hi hn hp hm ho
    have hlt : i < l.length := by omega
    have hin := in_ev out l[i] (by omega)
    rw [← at_ l i hlt] at hin
    have htk : l.take (i + 1) = l.take i ++ [l[i]] := by rw [List.take_add_one, List.getElem?_eq_getElem hlt]; rfl
    have e1 : wrap64 ((i : Int) + 1) = (i : Int) + 1 := w64 (by omega) (by omega)
    refine Ev.step (fun k => spec_Keys_string.l0.eq_2 ..) (ifp (by omega) (ifp (by omega) (Ev.bind hin ?_)))
    rw [at_ l i hlt]
    by_cases h : l[i] ∈ out
    · refine ifp (by simp [h]) ?_
      rw [e1]
      exact ih (i + 1) out (by omega) (by omega) hp (fun x => by
        rw [hm x, htk, List.mem_append, List.mem_singleton]
        constructor
        · exact fun h' => .inl h'
        · rintro (h' | h')
          · exact h'
          · rw [h']; exact (hm _).1 h) (by omega)
    · obtain ⟨r, s1, s2, s3, s4⟩ := keys_l1 l out i hlt hl (by omega) hp h _ 0 (by omega) rfl (by simp)
      refine ifn (by simp [h]) (s4 _ ?_)
      exact ih (i + 1) r (by omega) (by omega) s1 (fun x => by rw [s2 x, hm x, htk, List.mem_append, List.mem_singleton]) (by omega)
theorem keys_ev (l : List ByteArray) (hl : l.length ≤ 8589934592) : Ev (fun k => spec_Keys_string.f k l) (canon l) := by
  have := keys_l0 l hl _ 0 [] (by omega) rfl List.Pairwise.nil (by simp) (by simp)
  simpa [spec_Keys_string.f] using this
--BOTH
end Go.Proofs.Ytmipenoiodjbhaa.PureL
