/- For all texts name, version and group (none longer than 2^31 - 1 bytes), name and version without a point: "name.version.group" is read as that kind, and as the name with the group "version.group"; "name.group", the group without a point, is read as the name with the group alone; of resources alike. -/
import Derived.Test.YtehgokciafpnbabLFnArgBoth
namespace Go.Proofs.Ytehgokciafpnbab.Pure
open Go.RowKit Go.Proofs.Ytehgokciafpnbab.XFnArgBoth Go.Proofs.YtehgokciafpnbabW.PrintWords Go.Proofs.YtehgokciafpnbabW.PrintLast Go.Proofs.Ytehgokciafpnbab.EvL Go.Proofs.Ytehgokciafpnbab.Str Go.Proofs.Ytehgokciafpnbab.LFnArgBoth

theorem dot : L (⟨#[46]⟩ : ByteArray) = [46] := rfl
theorem dots : (⟨#[46]⟩ : ByteArray).size = 1 := rfl

/-- A text cut at its first point. -/
structure Cut (s n g : ByteArray) : Prop where
  eq : L s = L n ++ 46 :: L g
  no : 46 ∉ L n

theorem Cut.place {s n g : ByteArray} (h : Cut s n g) : place (L s) 46 = ((L n).length : Int) := by rw [h.eq]; exact place_split h.no
theorem Cut.size {s n g : ByteArray} (h : Cut s n g) : s.size = (L n).length + 1 + (L g).length := by rw [size_L, h.eq]; simp; omega
theorem Cut.behind {s n g : ByteArray} (h : Cut s n g) : s.extract ((L n).length + 1) s.size = g := by
  apply L_inj; rw [L_from, h.eq]
  rw [show L n ++ 46 :: L g = (L n ++ [46]) ++ L g from by simp, List.drop_append_of_le_length (by simp)]
  simp
theorem Cut.ahead {s n g : ByteArray} (h : Cut s n g) : s.extract 0 (L n).length = n := by
  apply L_inj; rw [L_upto, h.eq]; simp

theorem cut_join (n g : ByteArray) (h : 46 ∉ L n) : Cut ((n ++ (⟨#[46]⟩ : ByteArray)) ++ g) n g := ⟨by rw [L_append, L_append, dot]; simp, h⟩

theorem kind_ev (s n g : ByteArray) (hs : s.size < 4611686018427387904) (h : Cut s n g) : Ev (fun k => schema_ParseGroupKind.f k s) (g, n) := by
  have hz := h.size
  unfold schema_ParseGroupKind.f
  refine (zzIndex_ev s 46 _ dot hs).bind ?_
  rw [h.place, w64 (x := ((L n).length : Int) + 1) (by omega) (by omega)]
  refine ifn (by omega) (ifp (by omega) (ifp (by omega) ?_))
  refine ifp (by omega) (ifp (by omega) (now ?_))
  rw [show (((L n).length : Int) + 1).toNat = (L n).length + 1 from by omega, show ((L n).length : Int).toNat = (L n).length from by omega, h.behind, h.ahead]

theorem resource_ev (s n g : ByteArray) (hs : s.size < 4611686018427387904) (h : Cut s n g) : Ev (fun k => schema_ParseGroupResource.f k s) (g, n) := by
  have hz := h.size
  unfold schema_ParseGroupResource.f
  refine (zzIndex_ev s 46 _ dot hs).bind ?_
  rw [h.place, w64 (x := ((L n).length : Int) + 1) (by omega) (by omega)]
  refine ifp (by omega) (ifp (by omega) (ifp (by omega) ?_))
  refine ifp (by omega) (ifp (by omega) (now ?_))
  rw [show (((L n).length : Int) + 1).toNat = (L n).length + 1 from by omega, show ((L n).length : Int).toNat = (L n).length from by omega, h.behind, h.ahead]

theorem split_step (s n g : ByteArray) (x : List ByteArray) (r : List ByteArray) (hs : s.size < 4611686018427387904) (hx : x.length < 2) (h : Cut s n g) (hr : Ev (fun k => schema_zzSplitThree.l0 k g (x ++ [n])) r) :
    Ev (fun k => schema_zzSplitThree.l0 k s x) r := by
  have hz := h.size
  refine Ev.step (fun k => schema_zzSplitThree.l0.eq_2 ..) (ifp (by omega) ?_)
  refine (zzIndex_ev s 46 _ dot hs).bind ?_
  rw [h.place, w64 (x := ((L n).length : Int) + 1) (by omega) (by omega)]
  refine ifn (by omega) (ifp (by omega) (ifp (by omega) (ifp (by omega) ?_)))
  refine ifp (by omega) (ifp (by omega) ?_)
  rw [show (((L n).length : Int) + 1).toNat = (L n).length + 1 from by omega, show ((L n).length : Int).toNat = (L n).length from by omega, h.behind, h.ahead]
  exact hr

theorem split_ev (s a r b c : ByteArray) (hs : s.size < 4611686018427387904) (h : Cut s a r) (h2 : Cut r b c) : Ev (fun k => schema_zzSplitThree.f k s) [a, b, c] := by
  have hz := h.size
  have hz2 := size_L r
  unfold schema_zzSplitThree.f
  refine split_step s a r [] _ hs (by simp) h (split_step r b c [a] _ (by omega) (by simp) h2 ?_)
  exact Ev.step (fun k => schema_zzSplitThree.l0.eq_2 ..) (ifn (by simp) (ifp (by simp) (now rfl)))

theorem count_long (s a r b c : ByteArray) (h : Cut s a r) (h2 : Cut r b c) : 2 ≤ (((L s).count 46 : Nat) : Int) := by
  rw [h.eq, h2.eq]; simp only [List.count_append, List.count_cons]; simp; omega

theorem count_short (s a c : ByteArray) (h : Cut s a c) (hc : 46 ∉ L c) : ¬ 2 ≤ (((L s).count 46 : Nat) : Int) := by
  rw [h.eq]; simp only [List.count_append, List.count_cons, List.count_eq_zero.2 h.no, List.count_eq_zero.2 hc]; simp

theorem Kind_long (s a r b c : ByteArray) (hs : s.size < 4611686018427387904) (h : Cut s a r) (h2 : Cut r b c) : Ev (fun k => impl_KindArg.f k s) (c, b, a, true, r, (⟨#[]⟩ : ByteArray), a) := by
  unfold impl_KindArg.f
  refine (zzCount_ev s 46 _ dot hs).bind ((kind_ev s a r hs h).bind (ifp (count_long s a r b c h h2) ?_))
  exact (split_ev s a r b c hs h h2).bind (now rfl)

theorem Kind_short (s a c : ByteArray) (hs : s.size < 4611686018427387904) (h : Cut s a c) (hc : 46 ∉ L c) : Ev (fun k => impl_KindArg.f k s) ((⟨#[]⟩ : ByteArray), (⟨#[]⟩ : ByteArray), (⟨#[]⟩ : ByteArray), false, c, (⟨#[]⟩ : ByteArray), a) := by
  unfold impl_KindArg.f
  exact (zzCount_ev s 46 _ dot hs).bind ((kind_ev s a c hs h).bind (ifn (count_short s a c h hc) (now rfl)))

theorem Resource_long (s a r b c : ByteArray) (hs : s.size < 4611686018427387904) (h : Cut s a r) (h2 : Cut r b c) : Ev (fun k => impl_ResourceArg.f k s) (c, b, a, true, r, (⟨#[]⟩ : ByteArray), a) := by
  unfold impl_ResourceArg.f
  refine (zzCount_ev s 46 _ dot hs).bind ((resource_ev s a r hs h).bind (ifp (count_long s a r b c h h2) ?_))
  exact (split_ev s a r b c hs h h2).bind (now rfl)

theorem Resource_short (s a c : ByteArray) (hs : s.size < 4611686018427387904) (h : Cut s a c) (hc : 46 ∉ L c) : Ev (fun k => impl_ResourceArg.f k s) ((⟨#[]⟩ : ByteArray), (⟨#[]⟩ : ByteArray), (⟨#[]⟩ : ByteArray), false, c, (⟨#[]⟩ : ByteArray), a) := by
  unfold impl_ResourceArg.f
  exact (zzCount_ev s 46 _ dot hs).bind ((resource_ev s a c hs h).bind (ifn (count_short s a c h hc) (now rfl)))

theorem two (name group : ByteArray) (hn : name.size ≤ 2147483647) (hg : group.size ≤ 2147483647) (h0 : 46 ∉ L name) : Ev (fun k => laws_FnArgBoth.j2 k name group false) true := by
  refine Ev.step (fun k => laws_FnArgBoth.j2.eq_2 ..) (ifn (by simp) ((KindPlain_ev group 46 _ dot (by omega)).bind ?_))
  by_cases h1 : 46 ∉ L group
  · have hc := cut_join name group h0
    have hz : ((name ++ (⟨#[46]⟩ : ByteArray)) ++ group).size < 4611686018427387904 := by rw [ByteArray.size_append, ByteArray.size_append, dots]; omega
    refine ifp (by simpa using h1) (ifp (by omega) (ifp (by rw [ByteArray.size_append, dots]; omega) ?_))
    refine (Kind_short _ name group hz hc h1).bind ((Resource_short _ name group hz hc h1).bind ?_)
    refine ifn (by simp) (ifn (by simp) (ifp ?_ (now ?_)))
    · simp [toList_L, L_nil]
    · simp
  · exact ifn (by simpa using h1) (Ev.now _)

theorem FnArgBoth : laws_FnArgBoth.Pure := by
  intro a v g _ _ _
  refine Ev.rounds ?_
  unfold laws_FnArgBoth.f
  have stop : Ev (fun k => laws_FnArgBoth.j0 k a v g true) true := Ev.step (fun k => laws_FnArgBoth.j0.eq_2 ..) (ifp rfl (Ev.now _))
  by_cases z0 : (a.size : Int) > 2147483647
  · exact ifp z0 stop
  · refine ifn z0 ?_
    by_cases z1 : (v.size : Int) > 2147483647
    · exact ifp z1 stop
    · refine ifn z1 ?_
      by_cases z2 : (g.size : Int) > 2147483647
      · rw [decide_eq_true z2]; exact stop
      · rw [decide_eq_false z2]
        have nope : Ev (fun k => laws_FnArgBoth.j1 k a v g true) true := Ev.step (fun k => laws_FnArgBoth.j1.eq_2 ..) (ifp rfl (Ev.now _))
        refine Ev.step (fun k => laws_FnArgBoth.j0.eq_2 ..) (ifn (by simp) ((KindPlain_ev a 46 _ dot (by omega)).bind ?_))
        by_cases h0 : 46 ∉ L a
        · refine ifp (by simpa using h0) ((KindPlain_ev v 46 _ dot (by omega)).bind ?_)
          by_cases h1 : 46 ∉ L v
          · rw [decide_eq_true h1]
            have e0 := ByteArray.size_append (a := a) (b := (⟨#[46]⟩ : ByteArray))
            have e1 := ByteArray.size_append (a := a ++ (⟨#[46]⟩ : ByteArray)) (b := v)
            have e2 := ByteArray.size_append (a := (a ++ (⟨#[46]⟩ : ByteArray)) ++ v) (b := (⟨#[46]⟩ : ByteArray))
            have e3 := ByteArray.size_append (a := ((a ++ (⟨#[46]⟩ : ByteArray)) ++ v) ++ (⟨#[46]⟩ : ByteArray)) (b := g)
            have e4 := ByteArray.size_append (a := v) (b := (⟨#[46]⟩ : ByteArray))
            have e5 := ByteArray.size_append (a := v ++ (⟨#[46]⟩ : ByteArray)) (b := g)
            rw [dots] at e0 e2 e4
            have c2 := cut_join v g h1
            have c1 : Cut ((((a ++ (⟨#[46]⟩ : ByteArray)) ++ v) ++ (⟨#[46]⟩ : ByteArray)) ++ g) a ((v ++ (⟨#[46]⟩ : ByteArray)) ++ g) := ⟨by simp only [L_append, dot]; simp, h0⟩
            refine Ev.step (fun k => laws_FnArgBoth.j1.eq_2 ..) (ifn (by simp) (ifp (by omega) (ifp (by omega) (ifp (by omega) (ifp (by omega) ?_)))))
            refine (Kind_long _ a _ v g (by omega) c1 c2).bind ((Resource_long _ a _ v g (by omega) c1 c2).bind ?_)
            refine ifp (by omega) (ifp (by omega) (ifp rfl (ifp rfl (ifn (by simp) (ifn (by simp) (ifn ?_ ?_))))))
            · simp [toList_L, L_nil]
            · have := two a g (by omega) (by omega) h0
              simpa [toList_L, L_nil] using this
          · rw [decide_eq_false h1]; exact nope
        · exact ifn (by simpa using h0) nope

end Go.Proofs.Ytehgokciafpnbab.Pure
