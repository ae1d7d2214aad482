/- For all ways of parsing and all texts (none longer than 2^31 - 1 bytes) of which the reference speaks: a version compared with a text is as it is to the version that the text is, parsed as the version was; a text that is none is an error. No condition. -/
import Derived.Test.YtmfgkidppchobaaDoorQFnVersionCompare
import Derived.Test.YtmfgkidppchobaaDoorVerLCompare
namespace Go.Proofs.YtmfgkidppchobaaDoor.Pure
open Go.RowKit Go.Proofs.YtmfgkidppchobaaDoorW.PrintWords Go.Proofs.YtmfgkidppchobaaDoorW.PrintLast Go.Proofs.YtmfgkidppchobaaDoor.XFnVersionCompare Go.Proofs.YtmfgkidppchobaaDoor.EvL Go.Proofs.YtmfgkidppchobaaDoor.Str Go.Proofs.YtmfgkidppchobaaDoor.VerQ Go.Proofs.YtmfgkidppchobaaDoor.Ver3 Go.Proofs.YtmfgkidppchobaaDoor.Ver10 Go.Proofs.YtmfgkidppchobaaDoor.Ver11 Go.Proofs.YtmfgkidppchobaaDoor.VerTXFnVersionCompare Go.Proofs.YtmfgkidppchobaaDoor.VerUXFnVersionCompare Go.Proofs.YtmfgkidppchobaaDoor.VerYXFnVersionCompare Go.Proofs.YtmfgkidppchobaaDoor.VerOXFnVersionCompare
theorem facts_of {kind : Int} {s : ByteArray} {r : PW} (hs : s.size ≤ 2147483647) (h : parsedL kind s = some (r.2.1, r.1, r.2.2.1, r.2.2.2.1)) : r.1.length ≤ 4294967296 ∧ r.2.2.1.size ≤ 2147483648 ∧ U64 r.1 := by
  obtain ⟨_, h2, h3, h4, _⟩ := parsed_facts hs h
  exact ⟨by omega, h4, h3⟩
theorem compare_j2 (x14 : Int) (x15 x58 : Bool) (r q : PW) (h : x58 = true → x15 = false) (hn : x58 = false → x15 = true ∧ (r.1.length ≤ 4294967296 ∧ r.2.2.1.size ≤ 2147483648) ∧ (q.1.length ≤ 4294967296 ∧ q.2.2.1.size ≤ 2147483648) ∧ (askV r.2.1 q.2.1 r.2.2.1 q.2.2.1 = true → versV r.1 q.1 r.2.1 q.2.1 r.2.2.1 q.2.2.1 = x14)) :
    Ev (fun k => laws_FnVersionCompare.j2 k x14 x15 x58 r.1 r.2.1 r.2.2.1 r.2.2.2.1 q.1 q.2.1 q.2.2.1 q.2.2.2.1) true := by
  refine Ev.step (fun k => laws_FnVersionCompare.j2.eq_2 ..) ?_
  cases x58 with
  | true => exact ifp rfl (now (by rw [h rfl]; rfl))
  | false =>
    obtain ⟨h1, hr, hq, hv⟩ := hn rfl
    refine ifn (by simp) ((asked_ev r.1 q.1 r.2.1 q.2.1 r.2.2.1 q.2.2.1 r.2.2.2.1 q.2.2.2.1 hr.2 hq.2).bind ?_)
    by_cases ha : askV r.2.1 q.2.1 r.2.2.1 q.2.2.1 = true
    · refine ifp ha (ifp h1 ((versions_ev r.1 q.1 r.2.1 q.2.1 r.2.2.1 q.2.2.1 r.2.2.2.1 q.2.2.2.1 hr.1 hq.1 hr.2 hq.2).bind (now ?_)))
      rw [hv ha]; exact beq_self_eq_true x14
    · exact ifn ha (now rfl)
theorem FnVersionCompare : Go.Proofs.YtmfgkidppchobaaDoor.QFnVersionCompare.Pure := by
  intro a0 a1 a2 _ _ _
  refine Ev.rounds ?_
  unfold laws_FnVersionCompare.f
  have big : ∀ b : Bool, b = true → Ev (fun k => laws_FnVersionCompare.j0 k a0 a1 a2 b) true := fun b hb => Ev.step (fun k => laws_FnVersionCompare.j0.eq_2 ..) (ifp hb (now rfl))
  by_cases s1 : (a1.size : Int) > 2147483647
  · exact ifp s1 (big true rfl)
  refine ifn s1 ?_
  by_cases s2 : (a2.size : Int) > 2147483647
  · exact big _ (decide_eq_true s2)
  refine Ev.step (fun k => laws_FnVersionCompare.j0.eq_2 ..) (ifn (by rw [decide_eq_true_eq]; exact s2) ?_)
  refine cbv (a := Int.tmod (wrap64 ((Int.tmod a0 4) + 4)) 4) rfl ?_
  obtain ⟨t, ht⟩ : ∃ t, Int.tmod (wrap64 ((Int.tmod a0 4) + 4)) 4 = t := ⟨_, rfl⟩
  simp only [ht]
  obtain ⟨r, er, hr⟩ := parsed_spec t a1 (by omega)
  refine er.bind ?_
  by_cases ra : r.2.2.2.2.2 = true
  case neg => exact ifn ra (now rfl)
  refine ifp ra ?_
  obtain ⟨r1, r2⟩ := hr ra
  have j1 : ∀ way : Int, (r.2.1 = true → way = 2) → (r.2.1 = false → way = 1) → Ev (fun k => laws_FnVersionCompare.j1 k t a1 a2 r.2.2.2.2.1 way r.1 r.2.1 r.2.2.1 r.2.2.2.1) true := by
    intro way w2 w1
    obtain ⟨q, eq, hq⟩ := parsed_spec way a2 (by omega)
    refine Ev.step (fun k => laws_FnVersionCompare.j1.eq_2 ..) (eq.bind ?_)
    by_cases qa : q.2.2.2.2.2 = true
    case neg => exact ifn qa (now rfl)
    refine ifp qa ?_
    obtain ⟨q1, q2⟩ := hq qa
    refine Ev.bind (a := Ver11.compareL t a1 a2) ⟨0, fun k _ => if_pos ⟨by omega, by omega⟩⟩ ?_
    unfold compareL
    cases ro : r.2.2.2.2.1 with
    | false =>
      rw [r2 ro]
      exact ifn (by simp) (compare_j2 _ _ _ r q (fun _ => rfl) (fun h => nomatch h))
    | true =>
      obtain ⟨p1, sh1⟩ := r1 ro
      obtain ⟨f1, f2, f3⟩ := facts_of (by omega) p1
      have hway : parsedL way a2 = (parseL r.2.1 a2).map fun v => (r.2.1, v) := by
        cases hsv : r.2.1 with
        | true => rw [w2 hsv]; rfl
        | false => rw [w1 hsv]; rfl
      rw [p1]
      show Ev (fun k => if true = true then laws_FnVersionCompare.j2 k (compareS r.1 r.2.1 r.2.2.1 (parseL r.2.1 a2)).1 (compareS r.1 r.2.1 r.2.2.1 (parseL r.2.1 a2)).2 (!q.2.2.2.2.1) r.1 r.2.1 r.2.2.1 r.2.2.2.1 q.1 q.2.1 q.2.2.1 q.2.2.2.1 else laws_FnVersionCompare.j2 k (compareS r.1 r.2.1 r.2.2.1 (parseL r.2.1 a2)).1 (compareS r.1 r.2.1 r.2.2.1 (parseL r.2.1 a2)).2 true r.1 r.2.1 r.2.2.1 r.2.2.2.1 q.1 q.2.1 q.2.2.1 q.2.2.2.1) true
      refine ifp rfl ?_
      cases qo : q.2.2.2.2.1 with
      | false =>
        have hnone : parseL r.2.1 a2 = none := by
          have := q2 qo
          rw [hway] at this
          cases hp : parseL r.2.1 a2 with
          | none => rfl
          | some v => rw [hp] at this; cases this
        rw [hnone]
        exact compare_j2 _ _ _ r q (fun _ => rfl) (fun h => nomatch h)
      | true =>
        obtain ⟨p2, sh2⟩ := q1 qo
        obtain ⟨g1, g2, g3⟩ := facts_of (by omega) p2
        rw [hway] at p2
        obtain ⟨v, hv, he⟩ := Option.map_eq_some_iff.mp p2
        obtain ⟨e1, e2⟩ := Prod.mk.inj he
        rw [hv, e2]
        refine compare_j2 _ _ _ r q (fun h => nomatch h) (fun _ => ⟨rfl, ⟨f1, f2⟩, ⟨g1, g2⟩, fun ha => ?_⟩)
        have := vers_cmp _ _ _ _ _ _ f3 g3 sh1 sh2 ha
        rw [this, ← e1]; rfl
  by_cases hsem : r.2.1 = true
  · exact ifp hsem (j1 2 (fun _ => rfl) (fun h => by rw [hsem] at h; cases h))
  · exact ifn hsem (j1 1 (fun h => absurd h hsem) (fun _ => rfl))
end Go.Proofs.YtmfgkidppchobaaDoor.Pure
