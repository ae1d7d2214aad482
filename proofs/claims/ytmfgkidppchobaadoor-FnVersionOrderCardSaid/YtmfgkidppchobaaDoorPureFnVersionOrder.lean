/- For all ways of parsing and all texts (none longer than 2^31 - 1 bytes) of which the reference speaks: of two versions, at least, less, greater and equal are told by their numbers, those that there are not being 0, and of two semantic ones by semantic versioning. No condition. -/
import Derived.Test.YtmfgkidppchobaaDoorQFnVersionOrder
import Derived.Test.YtmfgkidppchobaaDoorVerLOrder
namespace Go.Proofs.YtmfgkidppchobaaDoor.Pure
open Go.RowKit Go.Proofs.YtmfgkidppchobaaDoorW.PrintWords Go.Proofs.YtmfgkidppchobaaDoorW.PrintLast Go.Proofs.YtmfgkidppchobaaDoor.XFnVersionOrder Go.Proofs.YtmfgkidppchobaaDoor.EvL Go.Proofs.YtmfgkidppchobaaDoor.Str Go.Proofs.YtmfgkidppchobaaDoor.VerQ Go.Proofs.YtmfgkidppchobaaDoor.Ver3 Go.Proofs.YtmfgkidppchobaaDoor.Ver10 Go.Proofs.YtmfgkidppchobaaDoor.Ver11 Go.Proofs.YtmfgkidppchobaaDoor.VerTXFnVersionOrder Go.Proofs.YtmfgkidppchobaaDoor.VerUXFnVersionOrder Go.Proofs.YtmfgkidppchobaaDoor.VerYXFnVersionOrder Go.Proofs.YtmfgkidppchobaaDoor.VerOXFnVersionOrder
theorem order_j2 (r q : PW) (c : Int) (hc : c = -1 ∨ c = 0 ∨ c = 1) (hr : r.1.length ≤ 4294967296 ∧ r.2.2.1.size ≤ 2147483648) (hq : q.1.length ≤ 4294967296 ∧ q.2.2.1.size ≤ 2147483648) (hv : askV r.2.1 q.2.1 r.2.2.1 q.2.2.1 = true → versV r.1 q.1 r.2.1 q.2.1 r.2.2.1 q.2.2.1 = c) (x10 x13 : Bool) :
    Ev (fun k => laws_FnVersionOrder.j2 k x10 x13 (c != -1) (c == -1) (c == 1) (c == 0) true false r.1 r.2.1 r.2.2.1 r.2.2.2.1 q.1 q.2.1 q.2.2.1 q.2.2.2.1) true := by
  refine Ev.step (fun k => laws_FnVersionOrder.j2.eq_2 ..) (ifn (by simp) ?_)
  refine (asked_ev r.1 q.1 r.2.1 q.2.1 r.2.2.1 q.2.2.1 r.2.2.2.1 q.2.2.2.1 hr.2 hq.2).bind ?_
  by_cases ha : askV r.2.1 q.2.1 r.2.2.1 q.2.2.1 = true
  · refine ifp ha ((versions_ev r.1 q.1 r.2.1 q.2.1 r.2.2.1 q.2.2.1 r.2.2.2.1 q.2.2.2.1 hr.1 hq.1 hr.2 hq.2).bind ?_)
    rw [hv ha]
    rcases hc with rfl | rfl | rfl
    · exact ifp (by decide) (ifp (by decide) (ifp (by decide) (now (by decide))))
    · exact ifp (by decide) (ifp (by decide) (ifp (by decide) (now (by decide))))
    · exact ifp (by decide) (ifp (by decide) (ifp (by decide) (now (by decide))))
  · exact ifn ha (now rfl)
theorem facts_of {kind : Int} {s : ByteArray} {r : PW} (hs : s.size ≤ 2147483647) (h : parsedL kind s = some (r.2.1, r.1, r.2.2.1, r.2.2.2.1)) : r.1.length ≤ 4294967296 ∧ r.2.2.1.size ≤ 2147483648 ∧ U64 r.1 := by
  obtain ⟨_, h2, h3, h4, _⟩ := parsed_facts hs h
  exact ⟨by omega, h4, h3⟩
theorem FnVersionOrder : Go.Proofs.YtmfgkidppchobaaDoor.QFnVersionOrder.Pure := by
  intro a0 a1 a2 a3 _ _ _ _
  refine Ev.rounds ?_
  unfold laws_FnVersionOrder.f
  have big : ∀ b : Bool, b = true → Ev (fun k => laws_FnVersionOrder.j0 k a0 a1 a2 a3 b) true := fun b hb => Ev.step (fun k => laws_FnVersionOrder.j0.eq_2 ..) (ifp hb (now rfl))
  by_cases s1 : (a1.size : Int) > 2147483647
  · exact ifp s1 (big true rfl)
  refine ifn s1 ?_
  by_cases s3 : (a3.size : Int) > 2147483647
  · exact big _ (decide_eq_true s3)
  refine Ev.step (fun k => laws_FnVersionOrder.j0.eq_2 ..) (ifn (by rw [decide_eq_true_eq]; exact s3) ?_)
  refine cbv (a := Int.tmod (wrap64 ((Int.tmod a0 4) + 4)) 4) rfl (cbv (a := Int.tmod (wrap64 ((Int.tmod a2 4) + 4)) 4) rfl ?_)
  obtain ⟨t, ht⟩ : ∃ t, Int.tmod (wrap64 ((Int.tmod a0 4) + 4)) 4 = t := ⟨_, rfl⟩
  obtain ⟨u, hu⟩ : ∃ u, Int.tmod (wrap64 ((Int.tmod a2 4) + 4)) 4 = u := ⟨_, rfl⟩
  simp only [ht, hu]
  obtain ⟨r, er, hr⟩ := parsed_spec t a1 (by omega)
  obtain ⟨q, eq, hq⟩ := parsed_spec u a3 (by omega)
  refine er.bind (eq.bind ?_)
  have stop : ∀ b : Bool, b = true → Ev (fun k => laws_FnVersionOrder.j1 k t a1 u a3 r.2.2.2.2.1 q.2.2.2.2.1 b r.1 r.2.1 r.2.2.1 r.2.2.2.1 q.1 q.2.1 q.2.2.1 q.2.2.2.1) true := fun b hb => Ev.step (fun k => laws_FnVersionOrder.j1.eq_2 ..) (ifp hb (now rfl))
  by_cases ra : r.2.2.2.2.2 = true
  case neg => exact ifn ra (stop true rfl)
  refine ifp ra ?_
  by_cases qa : q.2.2.2.2.2 = true
  case neg => exact stop _ (by rw [show q.2.2.2.2.2 = false from by simpa using qa]; rfl)
  obtain ⟨r1, r2⟩ := hr ra
  obtain ⟨q1, q2⟩ := hq qa
  refine Ev.step (fun k => laws_FnVersionOrder.j1.eq_2 ..) (ifn (by rw [qa]; simp) ?_)
  refine Ev.bind (a := Ver11.orderL (VerQ.parsedL t a1) (VerQ.parsedL u a3)) ⟨0, fun k _ => if_pos ⟨by omega, by omega⟩⟩ ?_
  have bad : ∀ (x10 x13 x15 x16 x17 x18 x19 b : Bool), b = true → (if x10 = true then x19 == x13 else x19 == false) = true → Ev (fun k => laws_FnVersionOrder.j2 k x10 x13 x15 x16 x17 x18 x19 b r.1 r.2.1 r.2.2.1 r.2.2.2.1 q.1 q.2.1 q.2.2.1 q.2.2.2.1) true := by
    intro x10 x13 x15 x16 x17 x18 x19 b hb h
    refine Ev.step (fun k => laws_FnVersionOrder.j2.eq_2 ..) (ifp hb ?_)
    by_cases h1 : x10 = true
    · rw [if_pos h1] at h; exact ifp h1 (now h)
    · rw [if_neg h1] at h; exact ifn h1 (now h)
  cases ro : r.2.2.2.2.1 with
  | false =>
    rw [r2 ro]
    have e : Ver11.orderL none (VerQ.parsedL u a3) = (false, false, false, false, false) := rfl
    rw [e]
    exact ifn (by simp) (ifn (by simp) (bad _ _ _ _ _ _ _ _ rfl rfl))
  | true =>
    obtain ⟨p1, sh1⟩ := r1 ro
    refine ifp rfl ?_
    cases qo : q.2.2.2.2.1 with
    | false =>
      rw [q2 qo, p1]
      have e : Ver11.orderL (some (r.2.1, r.1, r.2.2.1, r.2.2.2.1)) none = (false, false, false, false, false) := rfl
      rw [e]
      exact ifn (by simp) (bad _ _ _ _ _ _ _ _ rfl rfl)
    | true =>
      obtain ⟨p2, sh2⟩ := q1 qo
      obtain ⟨f1, f2, f3⟩ := facts_of (by omega) p1
      obtain ⟨g1, g2, g3⟩ := facts_of (by omega) p2
      rw [p1, p2]
      have e : Ver11.orderL (some (r.2.1, r.1, r.2.2.1, r.2.2.2.1)) (some (q.2.1, q.1, q.2.2.1, q.2.2.2.1)) = (cmpL r.1 q.1 r.2.1 q.2.1 r.2.2.1 q.2.2.1 != -1, cmpL r.1 q.1 r.2.1 q.2.1 r.2.2.1 q.2.2.1 == -1, cmpL r.1 q.1 r.2.1 q.2.1 r.2.2.1 q.2.2.1 == 1, cmpL r.1 q.1 r.2.1 q.2.1 r.2.2.1 q.2.2.1 == 0, true) := rfl
      rw [e]
      refine ifn (by simp) ?_
      exact order_j2 r q _ (cmp_range _ _ _ _ _ _) ⟨f1, f2⟩ ⟨g1, g2⟩ (fun ha => vers_cmp _ _ _ _ _ _ f3 g3 sh1 sh2 ha) true true
end Go.Proofs.YtmfgkidppchobaaDoor.Pure
