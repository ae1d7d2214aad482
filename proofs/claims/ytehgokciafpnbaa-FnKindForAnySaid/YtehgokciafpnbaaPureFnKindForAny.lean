/- For all lists of groups and versions, and of kinds (no list longer than 2^31 - 1): a kind is told just if one of the groups is there; then its group is one of these; else it is the empty one. -/
import Derived.Test.YtehgokciafpnbaaQFnKindForAny
import Derived.Test.YtehgokciafpnbaaStr
namespace Go.Proofs.Ytehgokciafpnbaa.Pure
open Go.RowKit Go.Proofs.Ytehgokciafpnbaa.XFnKindForAny Go.Proofs.YtehgokciafpnbaaW.PrintWords Go.Proofs.Ytehgokciafpnbaa.EvL Go.Proofs.Ytehgokciafpnbaa.Str

theorem at26 (xs : List S26) (i : Nat) (h : i < xs.length) : rd_T26 xs (i : Int) = xs[i] := by
  unfold rd_T26; simp [List.getD_eq_getElem?_getD, h]
theorem at51 (xs : List S51) (i : Nat) (h : i < xs.length) : rd_T51 xs (i : Int) = xs[i] := by
  unfold rd_T51; simp [List.getD_eq_getElem?_getD, h]
theorem at44 (xs : List S44) (i : Nat) (h : i < xs.length) : rd_T44 xs (i : Int) = xs[i] := by
  unfold rd_T44; simp [List.getD_eq_getElem?_getD, h]

/-! ### the sizes -/
theorem fits8 (a b c : ByteArray) : ∃ t, laws_zzFits8.f a b c = some t := by
  unfold laws_zzFits8.f
  repeat' split
  all_goals exact ⟨_, rfl⟩

theorem fits9_l0 (l : List S26) (hl : l.length ≤ 2147483647) (n : Nat) : ∀ i : Nat, i ≤ l.length → l.length - i = n → ∃ b, Ev (fun k => laws_zzFits9.l0 k l l.length i) b := by
  induction n with
  | zero =>
    intro i hi hn
    exact ⟨true, Ev.step (fun k => laws_zzFits9.l0.eq_2 ..) (ifn (by omega) (Ev.now _))⟩
  | succ n ih =>
    intro i hi hn
    obtain ⟨b, hb⟩ := ih (i + 1) (by omega) (by omega)
    obtain ⟨t, ht⟩ := fits8 (rd_T26 l i).f0 (rd_T26 l i).f1 (rd_T26 l i).f2
    by_cases h : t = true
    · refine ⟨b, Ev.step (fun k => laws_zzFits9.l0.eq_2 ..) (ifp (by omega) (ifp (by omega) (ifp (by omega) (cb ht (ifp h ?_)))))⟩
      rw [w64 (x := (i : Int) + 1) (by omega) (by omega)]
      exact hb
    · exact ⟨false, Ev.step (fun k => laws_zzFits9.l0.eq_2 ..) (ifp (by omega) (ifp (by omega) (ifp (by omega) (cb ht (ifn h (Ev.now _))))))⟩

theorem fits9_ev (l : List S26) : ∃ b, Ev (fun k => laws_zzFits9.f k l) b ∧ (b = true → l.length ≤ 2147483647) := by
  unfold laws_zzFits9.f
  by_cases h : (l.length : Int) > 2147483647
  · exact ⟨false, ifp h (Ev.now _), fun e => by cases e⟩
  · obtain ⟨b, hb⟩ := fits9_l0 l (by omega) _ 0 (by omega) rfl
    exact ⟨b, ifn h hb, fun _ => by omega⟩

/-! ### is a group there? -/
def Has (g : ByteArray) (l : List S26) : Prop := ∃ x ∈ l, L x.f0 = L g

theorem has_l0 (g v : ByteArray) (l : List S26) (hl : l.length ≤ 2147483647) (n : Nat) : ∀ (i : Nat) (p q : Bool), i ≤ l.length → l.length - i = n →
    ∃ p' q', Ev (fun k => spec_KindHas.l0 k g v l p q i) (p', q') ∧ (p' = true ↔ p = true ∨ Has g (l.drop i)) := by
  induction n with
  | zero =>
    intro i p q hi hn
    refine ⟨p, q, Ev.step (fun k => spec_KindHas.l0.eq_2 ..) (ifn (by omega) (Ev.now _)), ?_⟩
    rw [List.drop_eq_nil_of_le (by omega)]
    simp [Has]
  | succ n ih =>
    intro i p q hi hn
    have hlt : i < l.length := by omega
    have hw : Has g (l.drop i) ↔ (L (l[i]).f0 = L g ∨ Has g (l.drop (i + 1))) := by
      rw [List.drop_eq_getElem_cons hlt]
      unfold Has
      simp only [List.mem_cons, exists_eq_or_imp]
    by_cases hp : p = true
    · subst hp
      by_cases hq : q = true
      · obtain ⟨p', q', he, hi'⟩ := ih (i + 1) true true (by omega) (by omega)
        refine ⟨p', q', Ev.step (fun k => spec_KindHas.l0.eq_2 ..) (ifp (by omega) (ifp rfl (ifp hq ?_))), by simpa using hi'⟩
        rw [w64 (x := (i : Int) + 1) (by omega) (by omega)]; exact he
      · by_cases hg : (rd_T26 l i).f0.toList = g.toList
        · obtain ⟨p', q', he, hi'⟩ := ih (i + 1) true ((rd_T26 l i).f1.toList == v.toList) (by omega) (by omega)
          refine ⟨p', q', Ev.step (fun k => spec_KindHas.l0.eq_2 ..) (ifp (by omega) (ifp rfl (ifn hq (ifp (by omega) (ifp hg ?_))))), by simpa using hi'⟩
          rw [w64 (x := (i : Int) + 1) (by omega) (by omega)]; exact he
        · obtain ⟨p', q', he, hi'⟩ := ih (i + 1) true false (by omega) (by omega)
          refine ⟨p', q', Ev.step (fun k => spec_KindHas.l0.eq_2 ..) (ifp (by omega) (ifp rfl (ifn hq (ifp (by omega) (ifn hg ?_))))), by simpa using hi'⟩
          rw [w64 (x := (i : Int) + 1) (by omega) (by omega)]; exact he
    · have hpf : p = false := by simpa using hp
      subst hpf
      have hd : ∀ q0 : Bool, ∃ p' q', Ev (fun k => spec_KindHas.l0 k g v l ((rd_T26 l i).f0.toList == g.toList) q0 (wrap64 ((i : Int) + 1))) (p', q') ∧ (p' = true ↔ false = true ∨ Has g (l.drop i)) := by
        intro q0
        obtain ⟨p', q', he, hi'⟩ := ih (i + 1) ((rd_T26 l i).f0.toList == g.toList) q0 (by omega) (by omega)
        refine ⟨p', q', ?_, ?_⟩
        · rw [w64 (x := (i : Int) + 1) (by omega) (by omega)]; exact he
        · rw [hi', hw, at26 l i hlt]
          simp [toList_L]
      by_cases hq : q = true
      · obtain ⟨p', q', he, hi'⟩ := hd true
        exact ⟨p', q', Ev.step (fun k => spec_KindHas.l0.eq_2 ..) (ifp (by omega) (ifn (by simp) (ifp (by omega) (ifp hq he)))), hi'⟩
      · by_cases hg : (rd_T26 l i).f0.toList = g.toList
        · obtain ⟨p', q', he, hi'⟩ := hd ((rd_T26 l i).f1.toList == v.toList)
          refine ⟨p', q', Ev.step (fun k => spec_KindHas.l0.eq_2 ..) (ifp (by omega) (ifn (by simp) (ifp (by omega) (ifn hq ?_)))), hi'⟩
          exact ifp hg he
        · obtain ⟨p', q', he, hi'⟩ := hd false
          refine ⟨p', q', Ev.step (fun k => spec_KindHas.l0.eq_2 ..) (ifp (by omega) (ifn (by simp) (ifp (by omega) (ifn hq ?_)))), hi'⟩
          exact ifn hg he

theorem has_ev (g v : ByteArray) (l : List S26) (hl : l.length ≤ 2147483647) : ∃ p q, Ev (fun k => spec_KindHas.f k g v l) (p, q) ∧ (p = true ↔ Has g l) := by
  obtain ⟨p, q, he, h⟩ := has_l0 g v l hl _ 0 false false (by omega) rfl
  exact ⟨p, q, by unfold spec_KindHas.f; exact he, by simpa using h⟩

/-! ### one group and version -/
def Has51 (g : ByteArray) (l : List S51) : Prop := ∃ x ∈ l, L x.f0 = L g

/-- What is told of one group: a kind of it, if it is there; else the empty one. -/
def Told (g : ByteArray) (l : List S51) (r : ByteArray × ByteArray × ByteArray × Bool) : Prop :=
  (r.2.2.2 = true ∧ L r.1 = L g ∧ Has51 g l) ∨ (r = ((⟨#[]⟩ : ByteArray), (⟨#[]⟩ : ByteArray), (⟨#[]⟩ : ByteArray), false) ∧ ¬ Has51 g l)

theorem gv_l1 (g v : ByteArray) (l : List S51) (hl : l.length ≤ 2147483647) (n : Nat) : ∀ i : Nat, i ≤ l.length → l.length - i = n → ¬ Has51 g (l.take i) →
    ∃ r, Ev (fun k => schema_GroupVersion_KindForGroupVersionKinds.l1 k l l.length i g v) r ∧ Told g l r := by
  induction n with
  | zero =>
    intro i hi hn hno
    have : i = l.length := by omega
    subst this
    rw [List.take_length] at hno
    exact ⟨_, Ev.step (fun k => schema_GroupVersion_KindForGroupVersionKinds.l1.eq_2 ..) (ifn (by omega) (Ev.now _)), .inr ⟨rfl, hno⟩⟩
  | succ n ih =>
    intro i hi hn hno
    have hlt : i < l.length := by omega
    by_cases hg : (rd_T51 l i).f0.toList = g.toList
    · refine ⟨(g, v, (rd_T51 l i).f2, true), Ev.step (fun k => schema_GroupVersion_KindForGroupVersionKinds.l1.eq_2 ..) (ifp (by omega) (ifp (by omega) (ifp (by omega) (ifp hg ?_)))), .inl ⟨rfl, rfl, l[i], List.getElem_mem hlt, ?_⟩⟩
      · exact cb (g := schema_GroupVersion_WithKind.f g v (rd_T51 l i).f2) rfl (Ev.now _)
      · rw [at51 l i hlt, toList_L, toList_L] at hg; exact hg
    · obtain ⟨r, hr, ht⟩ := ih (i + 1) (by omega) (by omega) (by
        rintro ⟨x, hx, he⟩
        rw [List.take_succ_eq_append_getElem hlt] at hx
        rcases List.mem_append.1 hx with hx | hx
        · exact hno ⟨x, hx, he⟩
        · rw [List.mem_singleton.1 hx] at he
          apply hg
          rw [at51 l i hlt, toList_L, toList_L, he])
      refine ⟨r, Ev.step (fun k => schema_GroupVersion_KindForGroupVersionKinds.l1.eq_2 ..) (ifp (by omega) (ifp (by omega) (ifp (by omega) (ifn hg ?_)))), ht⟩
      rw [w64 (x := (i : Int) + 1) (by omega) (by omega)]; exact hr

theorem gv_l0 (g v : ByteArray) (l : List S51) (hl : l.length ≤ 2147483647) (n : Nat) : ∀ i : Nat, i ≤ l.length → l.length - i = n →
    ∃ r, Ev (fun k => schema_GroupVersion_KindForGroupVersionKinds.l0 k l l l.length i g v) r ∧ Told g l r := by
  induction n with
  | zero =>
    intro i hi hn
    obtain ⟨r, hr, ht⟩ := gv_l1 g v l hl _ 0 (by omega) rfl (by simp [Has51])
    exact ⟨r, Ev.step (fun k => schema_GroupVersion_KindForGroupVersionKinds.l0.eq_2 ..) (ifn (by omega) hr), ht⟩
  | succ n ih =>
    intro i hi hn
    have hlt : i < l.length := by omega
    obtain ⟨r, hr, ht⟩ := ih (i + 1) (by omega) (by omega)
    by_cases hg : (rd_T51 l i).f0.toList = g.toList
    · by_cases hv : (rd_T51 l i).f1.toList = v.toList
      · have hg2 := hg
        rw [at51 l i hlt, toList_L, toList_L] at hg2
        refine ⟨_, Ev.step (fun k => schema_GroupVersion_KindForGroupVersionKinds.l0.eq_2 ..) (ifp (by omega) (ifp (by omega) (ifp (by omega) (ifp hg (ifp hv (Ev.now _)))))), .inl ⟨rfl, ?_, l[i], List.getElem_mem hlt, hg2⟩⟩
        rw [at51 l i hlt]; exact hg2
      · refine ⟨r, Ev.step (fun k => schema_GroupVersion_KindForGroupVersionKinds.l0.eq_2 ..) (ifp (by omega) (ifp (by omega) (ifp (by omega) (ifp hg (ifn hv ?_))))), ht⟩
        rw [w64 (x := (i : Int) + 1) (by omega) (by omega)]; exact hr
    · refine ⟨r, Ev.step (fun k => schema_GroupVersion_KindForGroupVersionKinds.l0.eq_2 ..) (ifp (by omega) (ifp (by omega) (ifp (by omega) (ifn hg ?_)))), ht⟩
      rw [w64 (x := (i : Int) + 1) (by omega) (by omega)]; exact hr

theorem gv_ev (g v : ByteArray) (l : List S51) (hl : l.length ≤ 2147483647) : ∃ r, Ev (fun k => schema_GroupVersion_KindForGroupVersionKinds.f k g v l) r ∧ Told g l r := by
  unfold schema_GroupVersion_KindForGroupVersionKinds.f
  exact gv_l0 g v l hl _ 0 (by omega) rfl

/-! ### the best of several -/
def Among (r : ByteArray × ByteArray × ByteArray) (l : List S51) : Prop := ∃ x ∈ l, L r.1 = L x.f0

theorem best_l1 (ks ts : List S51) (hk : ks.length ≤ 2147483647) (i : Nat) (hi : i < ts.length) (r0 : ByteArray × ByteArray × ByteArray) (h0 : Among r0 ts) (hit : i < 2147483647)
    (next : Ev (fun k => schema_bestMatch.l0 k ks ts ts ts.length ((i + 1 : Nat) : Int)) r0) (n : Nat) : ∀ j : Nat, j ≤ ks.length → ks.length - j = n →
    ∃ r, Ev (fun k => schema_bestMatch.l1 k ks ts ts ts.length i ks ks.length j (rd_T51 ts i).f0 (rd_T51 ts i).f1 (rd_T51 ts i).f2) r ∧ Among r ts := by
  induction n with
  | zero =>
    intro j hj hn
    refine ⟨r0, Ev.step (fun k => schema_bestMatch.l1.eq_2 ..) (ifn (by omega) ?_), h0⟩
    rw [w64 (x := (i : Int) + 1) (by omega) (by omega)]; exact next
  | succ n ih =>
    intro j hj hn
    obtain ⟨r, hr, ha⟩ := ih (j + 1) (by omega) (by omega)
    by_cases he : ((rd_T51 ks j).f0.toList == (rd_T51 ts i).f0.toList && ((rd_T51 ks j).f1.toList == (rd_T51 ts i).f1.toList && (rd_T51 ks j).f2.toList == (rd_T51 ts i).f2.toList)) = true
    · refine ⟨_, Ev.step (fun k => schema_bestMatch.l1.eq_2 ..) (ifp (by omega) (ifp (by omega) (ifp (by omega) (ifp he (Ev.now _))))), ts[i], List.getElem_mem hi, ?_⟩
      simp only [Bool.and_eq_true, beq_iff_eq] at he
      have := he.1
      rw [toList_L, toList_L, at51 ts i hi] at this
      exact this
    · refine ⟨r, Ev.step (fun k => schema_bestMatch.l1.eq_2 ..) (ifp (by omega) (ifp (by omega) (ifp (by omega) (ifn he ?_)))), ha⟩
      rw [w64 (x := (j : Int) + 1) (by omega) (by omega)]; exact hr

theorem best_l0 (ks ts : List S51) (hk : ks.length ≤ 2147483647) (ht : ts.length ≤ 2147483647) (hpos : 0 < ts.length) (n : Nat) : ∀ i : Nat, i ≤ ts.length → ts.length - i = n →
    ∃ r, Ev (fun k => schema_bestMatch.l0 k ks ts ts ts.length i) r ∧ Among r ts := by
  induction n with
  | zero =>
    intro i hi hn
    refine ⟨_, Ev.step (fun k => schema_bestMatch.l0.eq_2 ..) (ifn (by omega) (ifp (by omega) (Ev.now _))), ts[0], List.getElem_mem hpos, ?_⟩
    have := at51 ts 0 hpos
    rw [show ((0 : Nat) : Int) = 0 from rfl] at this
    rw [this]
  | succ n ih =>
    intro i hi hn
    obtain ⟨r0, hr, ha⟩ := ih (i + 1) (by omega) (by omega)
    obtain ⟨r, hr2, ha2⟩ := best_l1 ks ts hk i (by omega) r0 ha (by omega) hr _ 0 (by omega) rfl
    exact ⟨r, Ev.step (fun k => schema_bestMatch.l0.eq_2 ..) (ifp (by omega) (ifp (by omega) (ifp (by omega) hr2))), ha2⟩

/-! ### all groups -/
/-- The groups that are asked for. -/
def Any44 (gs : List S44) (ks : List S51) (r : ByteArray × ByteArray × ByteArray × Bool) : Prop :=
  (r.2.2.2 = true ∧ ∃ x ∈ gs, L r.1 = L x.f0 ∧ Has51 x.f0 ks) ∨ (r = ((⟨#[]⟩ : ByteArray), (⟨#[]⟩ : ByteArray), (⟨#[]⟩ : ByteArray), false) ∧ ∀ x ∈ gs, ¬ Has51 x.f0 ks)

theorem gvs_l0 (ks : List S51) (gs : List S44) (hk : ks.length ≤ 2147483647) (hg : gs.length ≤ 2147483647) (n : Nat) : ∀ (i : Nat) (ts : List S51), i ≤ gs.length → gs.length - i = n → ts.length ≤ i →
    (∀ t ∈ ts, ∃ x ∈ gs, L t.f0 = L x.f0 ∧ Has51 x.f0 ks) → (ts = [] → ∀ x ∈ gs.take i, ¬ Has51 x.f0 ks) →
    ∃ r, Ev (fun k => schema_GroupVersions_KindForGroupVersionKinds.l0 k ks ts gs gs.length i) r ∧ Any44 gs ks r := by
  induction n with
  | zero =>
    intro i ts hi hn htl hts hnone
    have : i = gs.length := by omega
    subst this
    rw [List.take_length] at hnone
    by_cases h1 : (ts.length : Int) = 1
    · have hpos : 0 < ts.length := by omega
      have h0 := at51 ts 0 hpos
      rw [show ((0 : Nat) : Int) = 0 from rfl] at h0
      refine ⟨_, Ev.step (fun k => schema_GroupVersions_KindForGroupVersionKinds.l0.eq_2 ..) (ifn (by omega) (ifp h1 (ifp (by omega) (Ev.now _)))), .inl ⟨rfl, ?_⟩⟩
      rw [h0]
      exact hts _ (List.getElem_mem hpos)
    · by_cases h2 : (ts.length : Int) > 1
      · obtain ⟨r, hr, x, hx, he⟩ := best_l0 ks ts hk (by omega) (by omega) _ 0 (by omega) rfl
        obtain ⟨y, hy, he2, hh⟩ := hts x hx
        refine ⟨_, Ev.step (fun k => schema_GroupVersions_KindForGroupVersionKinds.l0.eq_2 ..) (ifn (by omega) (ifn h1 (ifp h2 ((show Ev (fun k => schema_bestMatch.f k ks ts) r from hr).bind (Ev.now _))))), .inl ⟨rfl, y, hy, he.trans he2, hh⟩⟩
      · have hnil : ts = [] := List.length_eq_zero_iff.1 (by omega)
        exact ⟨_, Ev.step (fun k => schema_GroupVersions_KindForGroupVersionKinds.l0.eq_2 ..) (ifn (by omega) (ifn h1 (ifn h2 (Ev.now _)))), .inr ⟨rfl, hnone hnil⟩⟩
  | succ n ih =>
    intro i ts hi hn htl hts hnone
    have hlt : i < gs.length := by omega
    obtain ⟨r, hr, ht⟩ := gv_ev (rd_T44 gs i).f0 (rd_T44 gs i).f1 ks hk
    rcases ht with ⟨hok, hgr, hhas⟩ | ⟨rfl, hno⟩
    · obtain ⟨r', hr', ha⟩ := ih (i + 1) (ts ++ [⟨r.1, r.2.1, r.2.2.1⟩]) (by omega) (by omega) (by simp; omega) (by
        intro t ht
        rcases List.mem_append.1 ht with ht | ht
        · exact hts t ht
        · rw [List.mem_singleton.1 ht]
          exact ⟨gs[i], List.getElem_mem hlt, by rw [← at44 gs i hlt]; exact hgr, by rw [← at44 gs i hlt]; exact hhas⟩) (by simp)
      refine ⟨r', Ev.step (fun k => schema_GroupVersions_KindForGroupVersionKinds.l0.eq_2 ..) (ifp (by omega) (ifp (by omega) (ifp (by omega) (hr.bind (ifp hok (ifp (by omega) ?_)))))), ha⟩
      rw [w64 (x := (i : Int) + 1) (by omega) (by omega)]; exact hr'
    · obtain ⟨r', hr', ha⟩ := ih (i + 1) ts (by omega) (by omega) (by omega) hts (by
        intro hnil x hx
        rw [List.take_succ_eq_append_getElem hlt] at hx
        rcases List.mem_append.1 hx with hx | hx
        · exact hnone hnil x hx
        · rw [List.mem_singleton.1 hx, ← at44 gs i hlt]; exact hno)
      refine ⟨r', Ev.step (fun k => schema_GroupVersions_KindForGroupVersionKinds.l0.eq_2 ..) (ifp (by omega) (ifp (by omega) (ifp (by omega) (hr.bind (ifn (by simp) ?_))))), ha⟩
      rw [w64 (x := (i : Int) + 1) (by omega) (by omega)]; exact hr'

def to51 (x : S26) : S51 := ⟨x.f0, x.f1, x.f2⟩
def to44 (x : S26) : S44 := ⟨x.f0, x.f1⟩

theorem kinds_l0 (l : List S26) (hl : l.length ≤ 2147483647) (n : Nat) : ∀ (i : Nat) (out : List S51), i ≤ l.length → l.length - i = n → out = (l.take i).map to51 →
    Ev (fun k => impl_kinds.l0 k out l l.length i) (l.map to51) := by
  induction n with
  | zero =>
    intro i out hi hn ho
    have : i = l.length := by omega
    subst this
    rw [List.take_length] at ho
    exact Ev.step (fun k => impl_kinds.l0.eq_2 ..) (ifn (by omega) (now ho))
  | succ n ih =>
    intro i out hi hn ho
    have hlt : i < l.length := by omega
    have := ih (i + 1) (out ++ [to51 (rd_T26 l i)]) (by omega) (by omega) (by rw [ho, List.take_succ_eq_append_getElem hlt, List.map_append, at26 l i hlt]; rfl)
    have hol : out.length = i := by rw [ho]; simp; omega
    refine Ev.step (fun k => impl_kinds.l0.eq_2 ..) (ifp (by omega) (ifp (by omega) (ifp (by omega) (cb (g := impl_kindOf.f (rd_T26 l i).f0 (rd_T26 l i).f1 (rd_T26 l i).f2) rfl (ifp (by omega) ?_)))))
    rw [w64 (x := (i : Int) + 1) (by omega) (by omega)]; exact this

theorem any_l0 (gs ks : List S26) (hg : gs.length ≤ 2147483647) (hk : ks.length ≤ 2147483647) (n : Nat) : ∀ (i : Nat) (out : List S44), i ≤ gs.length → gs.length - i = n → out = (gs.take i).map to44 →
    ∃ r, Ev (fun k => impl_KindForAny.l0 k ks out gs gs.length i) r ∧ Any44 (gs.map to44) (ks.map to51) r := by
  induction n with
  | zero =>
    intro i out hi hn ho
    have : i = gs.length := by omega
    subst this
    rw [List.take_length] at ho
    subst ho
    obtain ⟨r, hr, ha⟩ := gvs_l0 (ks.map to51) (gs.map to44) (by simp; omega) (by simp; omega) _ 0 [] (by omega) rfl (by simp) (by simp) (by simp)
    refine ⟨r, Ev.step (fun k => impl_KindForAny.l0.eq_2 ..) (ifn (by omega) ?_), ha⟩
    refine (show Ev (fun k => impl_kinds.f k ks) (ks.map to51) from kinds_l0 ks hk _ 0 [] (by omega) rfl (by simp)).bind ?_
    exact (show Ev (fun k => schema_GroupVersions_KindForGroupVersionKinds.f k (gs.map to44) (ks.map to51)) r from hr).bind (Ev.now _)
  | succ n ih =>
    intro i out hi hn ho
    have hlt : i < gs.length := by omega
    obtain ⟨r, hr, ha⟩ := ih (i + 1) (out ++ [to44 (rd_T26 gs i)]) (by omega) (by omega) (by rw [ho, List.take_succ_eq_append_getElem hlt, List.map_append, at26 gs i hlt]; rfl)
    have hol : out.length = i := by rw [ho]; simp; omega
    refine ⟨r, Ev.step (fun k => impl_KindForAny.l0.eq_2 ..) (ifp (by omega) (ifp (by omega) (ifp (by omega) (ifp (by omega) ?_)))), ha⟩
    rw [w64 (x := (i : Int) + 1) (by omega) (by omega)]; exact hr

/-! ### the law -/
theorem law_l0 (gs ks : List S26) (hg : gs.length ≤ 2147483647) (hk : ks.length ≤ 2147483647) (ok : Bool) (a b c : ByteArray)
    (h : (ok = true ∧ ∃ x ∈ gs, L a = L x.f0 ∧ Has x.f0 ks) ∨ (ok = false ∧ a = ⟨#[]⟩ ∧ b = ⟨#[]⟩ ∧ c = ⟨#[]⟩ ∧ ∀ x ∈ gs, ¬ Has x.f0 ks)) (n : Nat) :
    ∀ (i : Nat) (want own : Bool), i ≤ gs.length → gs.length - i = n → (want = true ↔ ∃ x ∈ gs.take i, Has x.f0 ks) → (own = true ↔ ∃ x ∈ gs.take i, Has x.f0 ks ∧ L a = L x.f0) →
      Ev (fun k => laws_FnKindForAny.l0 k gs ks ok want own i a b c) true := by
  induction n with
  | zero =>
    intro i want own hi hn hw ho
    have : i = gs.length := by omega
    subst this
    rw [List.take_length] at hw ho
    refine Ev.step (fun k => laws_FnKindForAny.l0.eq_2 ..) (ifn (by omega) ?_)
    rcases h with ⟨rfl, x, hx, he, hh⟩ | ⟨rfl, rfl, rfl, rfl, hno⟩
    · have h1 : want = true := hw.2 ⟨x, hx, hh⟩
      have h2 : own = true := ho.2 ⟨x, hx, hh, he⟩
      subst h1; subst h2
      exact ifp (by simp) (ifp rfl (Ev.now _))
    · have h1 : want = false := by
        cases hwv : want with
        | false => rfl
        | true => obtain ⟨x, hx, hh⟩ := hw.1 hwv; exact absurd hh (hno x hx)
      subst h1
      exact ifp (by simp) (ifn (by simp) (ifp (by simp [toList_L, L]) (Ev.now _)))
  | succ n ih =>
    intro i want own hi hn hw ho
    have hlt : i < gs.length := by omega
    obtain ⟨p, q, hp, hpi⟩ := has_ev (rd_T26 gs i).f0 (rd_T26 gs i).f1 ks hk
    have tk : gs.take (i + 1) = gs.take i ++ [gs[i]] := List.take_succ_eq_append_getElem hlt
    rw [at26 gs i hlt] at hpi
    -- what the next round has
    have go : ∀ want' own' : Bool, want' = (want || p) → own' = (own || (p && (a.toList == (rd_T26 gs i).f0.toList))) → Ev (fun k => laws_FnKindForAny.l0 k gs ks ok want' own' (wrap64 ((i : Int) + 1)) a b c) true := by
      intro want' own' e1 e2
      rw [w64 (x := (i : Int) + 1) (by omega) (by omega)]
      refine ih (i + 1) want' own' (by omega) (by omega) ?_ ?_
      · rw [e1, tk, Bool.or_eq_true, hw, hpi]
        simp only [List.mem_append, List.mem_singleton]
        constructor
        · rintro (⟨x, hx, hh⟩ | hh)
          · exact ⟨x, .inl hx, hh⟩
          · exact ⟨_, .inr rfl, hh⟩
        · rintro ⟨x, hx | rfl, hh⟩
          · exact .inl ⟨x, hx, hh⟩
          · exact .inr hh
      · rw [e2, tk, Bool.or_eq_true, ho, Bool.and_eq_true, hpi, beq_iff_eq, toList_L, toList_L, at26 gs i hlt]
        simp only [List.mem_append, List.mem_singleton]
        constructor
        · rintro (⟨x, hx, hh⟩ | hh)
          · exact ⟨x, .inl hx, hh⟩
          · exact ⟨_, .inr rfl, hh⟩
        · rintro ⟨x, hx | rfl, hh⟩
          · exact .inl ⟨x, hx, hh⟩
          · exact .inr hh
    refine Ev.step (fun k => laws_FnKindForAny.l0.eq_2 ..) (ifp (by omega) (ifp (by omega) (hp.bind ?_)))
    cases want with
    | true =>
      refine ifp rfl ?_
      cases own with
      | true => exact ifp rfl (go _ _ (by simp) (by simp))
      | false =>
        refine ifn (by simp) ?_
        cases p with
        | true => exact ifp rfl (go _ _ (by simp) (by simp))
        | false => exact ifn (by simp) (go _ _ (by simp) (by simp))
    | false =>
      refine ifn (by simp) ?_
      cases own with
      | true => exact ifp rfl (go _ _ (by simp) (by simp))
      | false =>
        refine ifn (by simp) ?_
        cases p with
        | true => exact ifp rfl (go _ _ (by simp) (by simp))
        | false => exact ifn (by simp) (go _ _ (by simp) (by simp))

theorem has_map (g : ByteArray) (ks : List S26) : Has51 g (ks.map to51) ↔ Has g ks := by
  unfold Has51 Has to51
  constructor
  · rintro ⟨x, hx, he⟩
    obtain ⟨y, hy, rfl⟩ := List.mem_map.1 hx
    exact ⟨y, hy, he⟩
  · rintro ⟨y, hy, he⟩
    exact ⟨_, List.mem_map.2 ⟨y, hy, rfl⟩, he⟩

theorem FnKindForAny : QFnKindForAny.Pure := by
  intro gs ks _ _
  refine Ev.rounds ?_
  unfold laws_FnKindForAny.f
  obtain ⟨b1, hb1, h1⟩ := fits9_ev gs
  obtain ⟨b2, hb2, h2⟩ := fits9_ev ks
  have stop : Ev (fun k => laws_FnKindForAny.j0 k gs ks true) true := Ev.step (fun k => laws_FnKindForAny.j0.eq_2 ..) (ifp rfl (Ev.now _))
  refine hb1.bind ?_
  by_cases e1 : b1 = true
  · refine ifp e1 (hb2.bind ?_)
    by_cases e2 : b2 = true
    · subst e2
      have hg := h1 e1
      have hk := h2 rfl
      obtain ⟨r, hr, ha⟩ := any_l0 gs ks hg hk _ 0 [] (by omega) rfl (by simp)
      refine Ev.step (fun k => laws_FnKindForAny.j0.eq_2 ..) (ifn (by simp) ((show Ev (fun k => impl_KindForAny.f k gs ks) r from hr).bind ?_))
      refine law_l0 gs ks hg hk _ _ _ _ ?_ _ 0 false false (by omega) rfl (by simp) (by simp)
      rcases ha with ⟨hok, x, hx, he, hh⟩ | ⟨rfl, hno⟩
      · obtain ⟨y, hy, rfl⟩ := List.mem_map.1 hx
        exact .inl ⟨hok, y, hy, he, (has_map _ _).1 hh⟩
      · exact .inr ⟨rfl, rfl, rfl, rfl, fun x hx hh => hno _ (List.mem_map.2 ⟨x, hx, rfl⟩) ((has_map _ _).2 hh)⟩
    · have : b2 = false := by simpa using e2
      subst this
      exact stop
  · exact ifn e1 stop

end Go.Proofs.Ytehgokciafpnbaa.Pure
