/- For every form, first and last port: a range of ports in each of its three forms is the ports from its first one to its last one. -/
import Derived.Test.YtmkpkpkcoieeiabDoorLFnPorts
import Derived.Test.YtmkpkpkcoieeiabDoorQFnPorts
namespace Go.Proofs.YtmkpkpkcoieeiabDoor.Pure
open Go.RowKit Go.Proofs.YtmkpkpkcoieeiabDoor.XFnPorts Go.Proofs.YtmkpkpkcoieeiabDoorW.PrintWords Go.Proofs.YtmkpkpkcoieeiabDoorW.PrintLast Go.Proofs.YtmkpkpkcoieeiabDoor.EvL Go.Proofs.YtmkpkpkcoieeiabDoor.Str Go.Proofs.YtmkpkpkcoieeiabDoor.LFnPorts Go.Proofs.YtmkpkpkcoieeiabDoor.Num

theorem main (x a b : Int) (hx : 0 ≤ x ∧ x ≤ 255) (ha : 1 ≤ a) (hab : a ≤ b) (hb : b ≤ 65535) (h0 : Int.tmod x 3 = 0 → b = a) :
    ∃ s, Ev (fun k => spec_PortsText.f k (wrap64 (Int.tmod x 3)) a b) s ∧ Ev (fun k => impl_PortsParse.f k s) (a, b - a + 1, false) := by
  have ht : Int.tmod x 3 = x % 3 := Int.tmod_eq_emod_of_nonneg hx.1
  rw [w64 (x := Int.tmod x 3) (by omega) (by omega)]
  obtain ⟨s, eS, dS, nS, vS, zS⟩ := number_ev a (by omega) (by omega)
  obtain ⟨t, eT, dT, nT, vT, zT⟩ := number_ev b (by omega) (by omega)
  obtain ⟨u, eU, dU, nU, vU, zU⟩ := number_ev (b - a) (by omega) (by omega)
  have wS := whole_text dS nS zS
  have wT := whole_text dT nT zT
  have wU := whole_text dU nU zU
  unfold spec_PortsText.f
  by_cases q0 : Int.tmod x 3 = 0
  · refine ⟨s, ifp q0 (eS.bind (Ev.now _)), ?_⟩
    have := parse_one s (edges_of s (by omega) nS (dig_in dS)) (digs_no dS).1 (digs_no dS).2
    rw [wS, vS] at this
    simp only [] at this
    rw [portRes_ok (by omega) (by omega) (by omega)] at this
    have e := h0 q0
    subst e
    exact this
  · by_cases q1 : Int.tmod x 3 = 1
    · refine ⟨(s ++ (⟨#[45]⟩ : ByteArray)) ++ t, ifn q0 (ifp q1 (eS.bind (ifp (by omega) (eT.bind (ifp (by rw [ByteArray.size_append, one1]; omega) (Ev.now _)))))), ?_⟩
      have e : L ((s ++ (⟨#[45]⟩ : ByteArray)) ++ t) = L s ++ 45 :: L t := by rw [L_append, L_append, minus]; simp
      have hE : Edges ((s ++ (⟨#[45]⟩ : ByteArray)) ++ t) := by
        refine edges_of _ (by simp only [ByteArray.size_append, one1]; omega) (by rw [e]; simp) ?_
        rw [e]
        intro c hc
        rcases List.mem_append.1 hc with h | h
        · exact dig_in dS c h
        · rcases List.mem_cons.1 h with h | h
          · subst h; decide
          · exact dig_in dT c h
      have := parse_hyph _ (L s) (L t) hE e (digs_no dS).1 (by
        rw [e]; intro h
        rcases List.mem_append.1 h with h | h
        · exact (digs_no dS).2 h
        · rcases List.mem_cons.1 h with h | h
          · exact absurd h (by decide)
          · exact (digs_no dT).2 h)
      unfold two at this
      rw [wS, wT, vS, vT] at this
      simp only [] at this
      rw [portRes_ok (by omega) (by omega) (by omega)] at this
      exact this
    · refine ⟨(s ++ (⟨#[43]⟩ : ByteArray)) ++ u, ifn q0 (ifn q1 (eS.bind (ifp (by omega) ?_))), ?_⟩
      · rw [w64 (x := b - a) (by omega) (by omega)]
        exact eU.bind (ifp (by rw [ByteArray.size_append, one2]; omega) (Ev.now _))
      · have e : L ((s ++ (⟨#[43]⟩ : ByteArray)) ++ u) = L s ++ 43 :: L u := by rw [L_append, L_append, plus]; simp
        have hE : Edges ((s ++ (⟨#[43]⟩ : ByteArray)) ++ u) := by
          refine edges_of _ (by simp only [ByteArray.size_append, one2]; omega) (by rw [e]; simp) ?_
          rw [e]
          intro c hc
          rcases List.mem_append.1 hc with h | h
          · exact dig_in dS c h
          · rcases List.mem_cons.1 h with h | h
            · subst h; decide
            · exact dig_in dU c h
        have := parse_plus _ (L s) (L u) hE e (digs_no dS).2 (by
          rw [e]; intro h
          rcases List.mem_append.1 h with h | h
          · exact (digs_no dS).1 h
          · rcases List.mem_cons.1 h with h | h
            · exact absurd h (by decide)
            · exact (digs_no dU).1 h)
        unfold two at this
        rw [wS, wU, vS, vU] at this
        simp only [] at this
        rw [show a + (b - a) = b from by omega, w64 (x := b) (by omega) (by omega), portRes_ok (by omega) (by omega) (by omega)] at this
        exact this

theorem FnPorts : QFnPorts.Pure := by
  intro x a b wx wa wb
  have hx : 0 ≤ x ∧ x ≤ 255 := by
    have e1 : IntKind.u8.min = 0 := rfl
    have e2 : IntKind.u8.max = 255 := rfl
    simpa [Lit.wf, e1, e2] using wx
  have bnd16 : ∀ x : Int, (Lit.int .u16 x).wf = true → 0 ≤ x ∧ x ≤ 65535 := by
    intro x h
    have e1 : IntKind.u16.min = 0 := rfl
    have e2 : IntKind.u16.max = 65535 := rfl
    simpa [Lit.wf, e1, e2] using h
  have ha := bnd16 a wa
  have hb := bnd16 b wb
  refine Ev.rounds ?_
  unfold laws_FnPorts.f
  rw [w64 (x := a) (by omega) (by omega), w64 (x := b) (by omega) (by omega)]
  have stop : ∀ p q, Ev (fun k => laws_FnPorts.j1 k x p q true) true := fun p q => Ev.step (fun k => laws_FnPorts.j1.eq_2 ..) (ifp rfl (Ev.now _))
  have run : ∀ p q : Int, 0 ≤ p → p ≤ 65535 → 0 ≤ q → q ≤ 65535 → (Int.tmod x 3 = 0 → q = p) → Ev (fun k => laws_FnPorts.j0 k x p q) true := by
    intro p q p0 p1 q0 q1 hpq
    refine Ev.step (fun k => laws_FnPorts.j0.eq_2 ..) ?_
    by_cases z : p < 1
    · exact ifp z (stop p q)
    · refine ifn z ?_
      by_cases z2 : q < p
      · rw [decide_eq_true z2]; exact stop p q
      · rw [decide_eq_false z2]
        obtain ⟨s, e1, e2⟩ := main x p q hx (by omega) (by omega) (by omega) hpq
        refine Ev.step (fun k => laws_FnPorts.j1.eq_2 ..) (ifn (by simp) (e1.bind (e2.bind (ifn (by simp) (ifp rfl (now ?_))))))
        rw [w64 (x := q - p) (by omega) (by omega), w64 (x := q - p + 1) (by omega) (by omega)]
        simp
  by_cases z : Int.tmod x 3 = 0
  · exact ifp z (run a a ha.1 ha.2 ha.1 ha.2 (fun _ => rfl))
  · exact ifn z (run a b ha.1 ha.2 hb.1 hb.2 (fun h => absurd h z))

end Go.Proofs.YtmkpkpkcoieeiabDoor.Pure
