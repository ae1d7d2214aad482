/- Sets of labels: what the functions on them tell, as lists of pairs; what the specification's functions tell. -/
import Derived.Test.YtmipenoiodjbhaaMapS
import Derived.Test.YtmipenoiodjbhaaPureL
namespace Go.Proofs.Ytmipenoiodjbhaa.LabL
open Go.RowKit Go.Maps Go.Proofs.YtmipenoiodjbhaaW.PrintWords Go.Proofs.Ytmipenoiodjbhaa.EvL Go.Proofs.Ytmipenoiodjbhaa.SetGen Go.Proofs.Ytmipenoiodjbhaa.MapGen Go.Proofs.Ytmipenoiodjbhaa.XFnLabelSets Go.Proofs.Ytmipenoiodjbhaa.MapS
open Go.Proofs.Ytmipenoiodjbhaa.SetS (canon canon_eq canon_congr srt srt_length S_below)
open Go.Proofs.Ytmipenoiodjbhaa.PureL (canon_mem canon_nodup canon_length keys_ev)

theorem snoc_ind {α : Type} {motive : List α → Prop} (nil : motive []) (snoc : ∀ l a, motive l → motive (l ++ [a])) (l : List α) : motive l := by
  have h : ∀ m : List α, motive m.reverse := fun m => by
    induction m with
    | nil => exact nil
    | cons a m ih => rw [List.reverse_cons]; exact snoc _ _ ih
  have h2 := h l.reverse
  rwa [List.reverse_reverse] at h2
def keysOf (l : List S44) : List ByteArray := l.map fun p => p.f0
theorem fn_isSome (l : List S44) (x : ByteArray) : (fn l x).isSome = true ↔ x ∈ keysOf l := by
  induction l using snoc_ind with
  | nil => simp [fn, keysOf]
  | snoc l p ih =>
    rw [fn_snoc]
    unfold keysOf at *
    rw [List.map_append, List.mem_append]
    by_cases h : x = p.f0
    · simp [h]
    · simp [h, ih]
theorem fn_append (a b : List S44) (x : ByteArray) : fn (a ++ b) x = over (fn a) (fn b) x := by
  induction b using snoc_ind with
  | nil => simp [over, fn]
  | snoc b p ih =>
    rw [← List.append_assoc, fn_snoc]
    unfold over at *
    rw [fn_snoc]
    by_cases h : x = p.f0
    · simp [h]
    · simp [h, ih]
def prs (l : List S44) : List S44 := pr (fn l) (canon (keysOf l))
theorem fn_pr (f : ByteArray → Option ByteArray) (ks : List ByteArray) (x : ByteArray) : fn (pr f ks) x = if x ∈ ks then some ((f x).getD E0) else none := by
  induction ks using snoc_ind with
  | nil => simp [fn, pr]
  | snoc ks k ih =>
    have e : pr f (ks ++ [k]) = pr f ks ++ [⟨k, (f k).getD E0⟩] := by unfold pr; rw [List.map_append]; rfl
    rw [e, fn_snoc]
    by_cases h : x = k
    · subst h; simp
    · simp [h, ih]
theorem fn_prs (l : List S44) (x : ByteArray) : fn (prs l) x = fn l x := by
  unfold prs
  rw [fn_pr]
  by_cases h : x ∈ keysOf l
  · rw [if_pos ((canon_mem _ _).2 h)]
    obtain ⟨v, hv⟩ := Option.isSome_iff_exists.1 ((fn_isSome l x).2 h)
    rw [hv]; rfl
  · rw [if_neg (fun h2 => h ((canon_mem _ _).1 h2))]
    rcases hq : fn l x with _ | v
    · rfl
    · exact absurd ((fn_isSome l x).1 (by rw [hq]; rfl)) h
theorem prs_eq {a b : List S44} : prs a = prs b ↔ ∀ x, fn a x = fn b x := by
  constructor
  · intro h x
    rw [← fn_prs a, h, fn_prs]
  · intro h
    have e : fn a = fn b := funext h
    unfold prs
    rw [e, canon_congr (l := keysOf a) (m := keysOf b) (fun x => by rw [← fn_isSome, ← fn_isSome, h])]
theorem keysOf_pr (f : ByteArray → Option ByteArray) (ks : List ByteArray) : keysOf (pr f ks) = ks := by
  unfold keysOf pr
  rw [List.map_map]
  exact List.map_id _
theorem prs_length (l : List S44) : (prs l).length ≤ l.length := by
  unfold prs pr
  rw [List.length_map]
  have := canon_length (keysOf l)
  unfold keysOf at *
  rw [List.length_map] at this
  exact this
def eqB (a b : List S44) : Bool := (a.all fun p => decide (fn a p.f0 = fn b p.f0)) && (b.all fun p => decide (fn a p.f0 = fn b p.f0))
theorem eqB_iff (a b : List S44) : eqB a b = true ↔ ∀ x, fn a x = fn b x := by
  unfold eqB
  rw [Bool.and_eq_true, List.all_eq_true, List.all_eq_true]
  constructor
  · rintro ⟨h1, h2⟩ x
    rcases ha : fn a x with _ | v
    · rcases hb : fn b x with _ | u
      · rfl
      · obtain ⟨p, hp, e⟩ := List.mem_map.1 ((fn_isSome b x).1 (by rw [hb]; rfl))
        have := h2 p hp
        rw [e, ha, hb] at this
        simp at this
    · obtain ⟨p, hp, e⟩ := List.mem_map.1 ((fn_isSome a x).1 (by rw [ha]; rfl))
      have := h1 p hp
      rw [e, ha] at this
      simpa using this
  · intro h
    exact ⟨fun p _ => by simp [h], fun p _ => by simp [h]⟩
/-- A pair stands against a set: its key has another value there. -/
def tst (b : List S44) (p : S44) : Bool := match fn b p.f0 with | some v => decide (v ≠ p.f1) | none => false
def cfB (a b : List S44) : Bool := (prs a).any (tst b)
theorem cfB_iff (a b : List S44) : cfB a b = true ↔ ∃ x u c, fn a x = some u ∧ fn b x = some c ∧ u ≠ c := by
  unfold cfB
  rw [List.any_eq_true]
  constructor
  · rintro ⟨p, hp, ht⟩
    unfold tst at ht
    rcases hb : fn b p.f0 with _ | c
    · rw [hb] at ht; cases ht
    · rw [hb] at ht
      have hk : p.f0 ∈ keysOf a := by
        unfold prs pr at hp
        obtain ⟨x, hx, e⟩ := List.mem_map.1 hp
        rw [← e]
        exact (canon_mem _ _).1 hx
      obtain ⟨u, hu⟩ := Option.isSome_iff_exists.1 ((fn_isSome a p.f0).2 hk)
      have he : p.f1 = u := by
        unfold prs pr at hp
        obtain ⟨x, hx, e⟩ := List.mem_map.1 hp
        rw [← e] at hu ⊢
        simp only at hu ⊢
        rw [hu]; rfl
      refine ⟨p.f0, u, c, hu, hb, fun e => ?_⟩
      rw [he, e] at ht
      simp at ht
  · rintro ⟨x, u, c, hu, hc, hne⟩
    refine ⟨⟨x, u⟩, ?_, ?_⟩
    · unfold prs pr
      refine List.mem_map.2 ⟨x, (canon_mem _ _).2 ((fn_isSome a x).1 (by rw [hu]; rfl)), ?_⟩
      rw [hu]; rfl
    · unfold tst
      rw [hc]
      simp only [decide_eq_true_eq]
      exact fun e => hne e.symm
theorem cf_sym (a b : List S44) : cfB b a = cfB a b := by
  rw [Bool.eq_iff_iff, cfB_iff, cfB_iff]
  exact ⟨fun ⟨x, u, c, h1, h2, h3⟩ => ⟨x, c, u, h2, h1, fun e => h3 e.symm⟩, fun ⟨x, u, c, h1, h2, h3⟩ => ⟨x, c, u, h2, h1, fun e => h3 e.symm⟩⟩

/-! ### the specification's functions -/
theorem at_ (l : List S44) (i : Nat) (h : i < l.length) : rd_T44 l (i : Int) = l[i] := by
  unfold rd_T44; simp [h]
def fnd (l : List S44) (x : ByteArray) : ByteArray × Bool := ((fn l x).getD E0, (fn l x).isSome)
theorem find_l0 (l : List S44) (x : ByteArray) (hl : l.length ≤ 8589934592) : ∀ i : Nat, i ≤ l.length → Ev (fun k => spec_Find.l0 k l x ((i : Int) - 1)) (fnd (l.take i) x)
  | 0, _ => Ev.step (fun k => spec_Find.l0.eq_2 ..) (ifn (by omega) (now (by simp [fnd, fn])))
  | i + 1, hi => by
    have hlt : i < l.length := by omega
    have ih := find_l0 l x hl i (by omega)
    have htk : l.take (i + 1) = l.take i ++ [l[i]] := by rw [List.take_add_one, List.getElem?_eq_getElem hlt]; rfl
    have e0 : (((i + 1 : Nat) : Int) - 1) = (i : Int) := by omega
    rw [e0]
    refine Ev.step (fun k => spec_Find.l0.eq_2 ..) (ifp (by omega) (ifp (by omega) (ifp (by omega) ?_)))
    rw [at_ l i hlt, htk]
    have hfn : fnd (l.take i ++ [l[i]]) x = if x = l[i].f0 then (l[i].f1, true) else fnd (l.take i) x := by
      unfold fnd
      rw [fn_snoc]
      by_cases h : x = l[i].f0 <;> simp [h]
    rw [hfn]
    by_cases h : x = l[i].f0
    · rw [if_pos h]
      exact ifp (by rw [h]) (Ev.now _)
    · rw [if_neg h]
      refine ifn (fun e => h (toL_inj e).symm) ?_
      rw [w64 (x := (i : Int) - 1) (by omega) (by omega)]
      exact ih
theorem find_ev (l : List S44) (x : ByteArray) (hl : l.length ≤ 8589934592) : Ev (fun k => spec_Find.f k l x) (fnd l x) := by
  have := find_l0 l x hl l.length (Nat.le_refl _)
  rw [List.take_length] at this
  unfold spec_Find.f
  rw [w64 (by omega) (by omega)]
  exact this
theorem rdat (l : List ByteArray) (i : Nat) (h : i < l.length) : rdOf ByteArray.empty l (i : Int) = l[i] := by
  unfold rdOf; simp [h]
theorem pairs_l1 (l : List S44) (ks : List ByteArray) (hl : l.length ≤ 8589934592) (hk : ks.length ≤ 8589934592) (n : Nat) : ∀ (i : Nat) (out : List S44), i ≤ ks.length → ks.length - i = n → out.length ≤ i →
    Ev (fun k => spec_Pairs.l1 k l ks out i) (out ++ pr (fn l) (ks.drop i)) := by
  induction n with
  | zero =>
    intro i out hi hn ho
    rw [List.drop_eq_nil_of_le (by omega)]
    exact Ev.step (fun k => spec_Pairs.l1.eq_2 ..) (ifn (by omega) (now (by simp [pr])))
  | succ n ih =>
    intro i out hi hn ho
    have hlt : i < ks.length := by omega
    have hf := find_ev l ks[i] hl
    rw [← rdat ks i hlt] at hf
    refine Ev.step (fun k => spec_Pairs.l1.eq_2 ..) (ifp (by omega) (ifp (by omega) (Ev.bind hf (ifp (by omega) ?_))))
    have e1 : wrap64 ((i : Int) + 1) = ((i + 1 : Nat) : Int) := w64 (by omega) (by omega)
    rw [rdat ks i hlt, e1, List.drop_eq_getElem_cons hlt]
    have := ih (i + 1) (out ++ [⟨ks[i], (fnd l ks[i]).1⟩]) (by omega) (by omega) (by simp; omega)
    rw [List.append_assoc] at this
    exact this
theorem pairs_l0 (l : List S44) (hl : l.length ≤ 8589934592) (n : Nat) : ∀ (i : Nat) (out : List ByteArray), i ≤ l.length → l.length - i = n → out.length ≤ i → out = keysOf (l.take i) →
    Ev (fun k => spec_Pairs.l0 k l out i) (prs l) := by
  induction n with
  | zero =>
    intro i out hi hn ho he
    rw [List.take_of_length_le (by omega)] at he
    subst he
    have hkl : (keysOf l).length ≤ 8589934592 := by unfold keysOf; rw [List.length_map]; exact hl
    refine Ev.step (fun k => spec_Pairs.l0.eq_2 ..) (ifn (by omega) (Ev.bind (keys_ev (keysOf l) hkl) ?_))
    have := pairs_l1 l (canon (keysOf l)) hl (Nat.le_trans (canon_length _) hkl) _ 0 [] (by omega) rfl (by simp)
    simpa [prs] using this
  | succ n ih =>
    intro i out hi hn ho he
    have hlt : i < l.length := by omega
    have htk : l.take (i + 1) = l.take i ++ [l[i]] := by rw [List.take_add_one, List.getElem?_eq_getElem hlt]; rfl
    refine Ev.step (fun k => spec_Pairs.l0.eq_2 ..) (ifp (by omega) (ifp (by omega) (ifp (by omega) ?_)))
    have e1 : wrap64 ((i : Int) + 1) = ((i + 1 : Nat) : Int) := w64 (by omega) (by omega)
    rw [at_ l i hlt, e1]
    exact ih (i + 1) _ (by omega) (by omega) (by simp; omega) (by rw [htk, he]; unfold keysOf; rw [List.map_append]; rfl)
theorem pairs_ev (l : List S44) (hl : l.length ≤ 8589934592) : Ev (fun k => spec_Pairs.f k l) (prs l) := by
  have := pairs_l0 l hl _ 0 [] (by omega) rfl (by simp) (by simp [keysOf])
  simpa [spec_Pairs.f] using this
theorem psame_l0 (a b : List S44) (hab : a.length = b.length) (ha : a.length ≤ 8589934592) (n : Nat) : ∀ i : Nat, i ≤ a.length → a.length - i = n → ∃ r, Ev (fun k => spec_PairsSame.l0 k a b i) r ∧ (r = true ↔ a.drop i = b.drop i) := by
  induction n with
  | zero =>
    intro i hi hn
    rw [List.drop_eq_nil_of_le (by omega), List.drop_eq_nil_of_le (by omega)]
    exact ⟨true, Ev.step (fun k => spec_PairsSame.l0.eq_2 ..) (ifn (by omega) (Ev.now _)), by simp⟩
  | succ n ih =>
    intro i hi hn
    have hlt : i < a.length := by omega
    have hlt2 : i < b.length := by omega
    obtain ⟨r, hr, hq⟩ := ih (i + 1) (by omega) (by omega)
    have e1 : wrap64 ((i : Int) + 1) = ((i + 1 : Nat) : Int) := w64 (by omega) (by omega)
    by_cases h : a[i].f0 = b[i].f0 ∧ a[i].f1 = b[i].f1
    · refine ⟨r, Ev.step (fun k => spec_PairsSame.l0.eq_2 ..) (ifp (by omega) (ifp (by omega) (ifp (by omega) (ifn ?_ ?_)))), ?_⟩
      · rw [at_ a i hlt, at_ b i hlt2, h.1, h.2]; simp
      · rw [e1]; exact hr
      · rw [hq, List.drop_eq_getElem_cons hlt, List.drop_eq_getElem_cons hlt2, List.cons.injEq]
        have : a[i] = b[i] := by
          rcases ea : a[i] with ⟨u, v⟩
          rcases eb : b[i] with ⟨u', v'⟩
          rw [ea, eb] at h
          simp only at h
          rw [h.1, h.2]
        simp [this]
    · refine ⟨false, Ev.step (fun k => spec_PairsSame.l0.eq_2 ..) (ifp (by omega) (ifp (by omega) (ifp (by omega) (ifp ?_ (Ev.now _))))), ?_⟩
      · rw [at_ a i hlt, at_ b i hlt2]
        simp only [Bool.or_eq_true, Bool.not_eq_true', beq_eq_false_iff_ne, ne_eq]
        rcases Classical.em (a[i].f0 = b[i].f0) with h1 | h1
        · exact .inr (fun e => h ⟨h1, toL_inj e⟩)
        · exact .inl (fun e => h1 (toL_inj e))
      · constructor
        · intro e; cases e
        · intro e
          rw [List.drop_eq_getElem_cons hlt, List.drop_eq_getElem_cons hlt2, List.cons.injEq] at e
          exact absurd ⟨congrArg S44.f0 e.1, congrArg S44.f1 e.1⟩ h
theorem psame_ev (a b : List S44) (ha : a.length ≤ 8589934592) : ∃ r, Ev (fun k => spec_PairsSame.f k a b) r ∧ (r = true ↔ a = b) := by
  unfold spec_PairsSame.f
  by_cases h : a.length = b.length
  · obtain ⟨r, h1, h2⟩ := psame_l0 a b h ha _ 0 (by omega) rfl
    exact ⟨r, ifp (by omega) h1, by simpa using h2⟩
  · exact ⟨false, ifn (by omega) (Ev.now _), by constructor; (intro e; cases e); (intro e; exact absurd (by rw [e]) h)⟩
theorem fits2_l0 (l : List S44) (hl : l.length ≤ 2147483647) (n : Nat) : ∀ i : Nat, i ≤ l.length → l.length - i = n → ∃ b, Ev (fun k => laws_zzFits2.l0 k l (l.length : Int) i) b := by
  induction n with
  | zero =>
    intro i hi hn
    exact ⟨true, Ev.step (fun k => laws_zzFits2.l0.eq_2 ..) (ifn (by omega) (Ev.now _))⟩
  | succ n ih =>
    intro i hi hn
    obtain ⟨b, hb⟩ := ih (i + 1) (by omega) (by omega)
    obtain ⟨t, ht⟩ : ∃ t, laws_zzFits3.f (rd_T44 l i).f0 (rd_T44 l i).f1 = some t := by
      unfold laws_zzFits3.f
      repeat' split
      all_goals exact ⟨_, rfl⟩
    by_cases h : t = true
    · refine ⟨b, Ev.step (fun k => laws_zzFits2.l0.eq_2 ..) (ifp (by omega) (ifp (by omega) (ifp (by omega) (cb ht (ifp h ?_)))))⟩
      rw [w64 (x := (i : Int) + 1) (by omega) (by omega)]
      exact hb
    · exact ⟨false, Ev.step (fun k => laws_zzFits2.l0.eq_2 ..) (ifp (by omega) (ifp (by omega) (ifp (by omega) (cb ht (ifn h (Ev.now _))))))⟩
theorem fits2_ev (l : List S44) : ∃ k b, laws_zzFits2.f k l = some b ∧ (b = true → l.length ≤ 2147483647) := by
  by_cases h : (l.length : Int) > 2147483647
  · exact ⟨0, false, by unfold laws_zzFits2.f; rw [if_pos h], fun e => by cases e⟩
  · obtain ⟨b, hb⟩ := fits2_l0 l (by omega) _ 0 (by omega) rfl
    obtain ⟨k, hk⟩ := hb.rounds
    exact ⟨k, b, by unfold laws_zzFits2.f; rw [if_neg h]; exact hk, fun _ => by omega⟩
end Go.Proofs.Ytmipenoiodjbhaa.LabL
