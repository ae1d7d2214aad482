/- For two amounts whose scales are from -500 to 500, the second one's value not the least int64 (of others the law says nothing): a difference that is told is the difference; taken away again what was added leaves what was there, where both are told. -/
import Derived.Test.YtmkpkpkcoieeiaaLFnAmountSubc
import Derived.Test.YtmkpkpkcoieeiaaQFnAmountSub
namespace Go.Proofs.Ytmkpkpkcoieeiaa.Pure
open Go.RowKit Go.Proofs.Ytmkpkpkcoieeiaa.XFnAmountSub Go.Proofs.YtmkpkpkcoieeiaaW.PrintWords Go.Proofs.YtmkpkpkcoieeiaaW.PrintLast Go.Proofs.Ytmkpkpkcoieeiaa.EvL Go.Proofs.Ytmkpkpkcoieeiaa.Dec Go.Proofs.Ytmkpkpkcoieeiaa.LFnAmountSub

def In64 (v : Int) : Prop := -9223372036854775808 ≤ v ∧ v ≤ 9223372036854775807

/-- What a sum or a difference tells: nothing, or the number; the scale is one that is looked at. -/
def Tells (v s u t : Int) (g h : Int) (told : Bool) : Prop :=
  (-500 ≤ h ∧ h ≤ 500) ∧ (told = true → In64 g ∧ g * 10 ^ (h - -500).toNat = v * 10 ^ (s - -500).toNat + u * 10 ^ (t - -500).toNat)

theorem raise (v s t : Int) (h : t ≤ s) (ht : -500 ≤ t) : v * 10 ^ (s - t).toNat * 10 ^ (t - -500).toNat = v * 10 ^ (s - -500).toNat := by
  rw [Int.mul_assoc, ← p10_add]
  congr 2
  omega

theorem add_tells (v s u t : Int) (hv : In64 v) (hs : -500 ≤ s ∧ s ≤ 500) (hu : In64 u) (ht : -500 ≤ t ∧ t ≤ 500) :
    ∃ g h told, Ev (fun k => resource_int64Amount_Add.f k v s u t) (told, g, h) ∧ Tells v s u t g h told := by
  unfold resource_int64Amount_Add.f
  by_cases u0 : u = 0
  · exact ⟨v, s, true, ifp u0 (Ev.now _), hs, fun _ => ⟨hv, by rw [u0, Int.zero_mul, Int.add_zero]⟩⟩
  by_cases v0 : v = 0
  · exact ⟨u, t, true, ifn u0 (ifp v0 (Ev.now _)), ht, fun _ => ⟨hu, by rw [v0, Int.zero_mul, Int.zero_add]⟩⟩
  by_cases e : s = t
  · have ha := addi_ev v u hv hu
    by_cases hf : fits (v + u) = true
    · rw [if_pos hf] at ha
      exact ⟨v + u, s, true, ifn u0 (ifn v0 (ifp e (ha.bind (ifp rfl (Ev.now _))))), hs, fun _ => ⟨(fits_iff _).1 hf, by rw [e, Int.add_mul]⟩⟩
    · rw [if_neg hf] at ha
      exact ⟨v, s, false, ifn u0 (ifn v0 (ifp e (ha.bind (ifn (by simp) (Ev.now _))))), hs, fun h => by cases h⟩
  by_cases hgt : s > t
  · obtain ⟨x, hx, hxf⟩ := positive_ev v (s - t) hv (by omega) (by omega)
    have w : wrap32 (s - t) = s - t := w32 (by omega) (by omega)
    by_cases hf : fits (v * 10 ^ (s - t).toNat) = true
    · have hxe := hxf hf
      have hx64 := (fits_iff _).1 hf
      rw [hf] at hx
      rw [← hxe] at hx64
      have ha := addi_ev x u hx64 hu
      by_cases hf2 : fits (x + u) = true
      · rw [if_pos hf2] at ha
        refine ⟨x + u, t, true, ifn u0 (ifn v0 (ifn e (ifp hgt ?_))), ht, fun _ => ⟨(fits_iff _).1 hf2, ?_⟩⟩
        · rw [w]; exact hx.bind (ifp rfl (ha.bind (ifp rfl (Ev.now _))))
        · rw [Int.add_mul, hxe, raise v s t (by omega) ht.1]
      · rw [if_neg hf2] at ha
        refine ⟨v, s, false, ifn u0 (ifn v0 (ifn e (ifp hgt ?_))), hs, fun h => by cases h⟩
        rw [w]; exact hx.bind (ifp rfl (ha.bind (ifn (by simp) (Ev.now _))))
    · refine ⟨v, s, false, ifn u0 (ifn v0 (ifn e (ifp hgt ?_))), hs, fun h => by cases h⟩
      rw [w]; exact hx.bind (ifn hf (Ev.now _))
  · obtain ⟨x, hx, hxf⟩ := positive_ev u (t - s) hu (by omega) (by omega)
    have w : wrap32 (t - s) = t - s := w32 (by omega) (by omega)
    by_cases hf : fits (u * 10 ^ (t - s).toNat) = true
    · have hxe := hxf hf
      have hx64 := (fits_iff _).1 hf
      rw [hf] at hx
      rw [← hxe] at hx64
      have ha := addi_ev v x hv hx64
      by_cases hf2 : fits (v + x) = true
      · rw [if_pos hf2] at ha
        refine ⟨v + x, s, true, ifn u0 (ifn v0 (ifn e (ifn hgt ?_))), hs, fun _ => ⟨(fits_iff _).1 hf2, ?_⟩⟩
        · rw [w]; exact hx.bind (ifp rfl (ha.bind (ifp rfl (Ev.now _))))
        · rw [Int.add_mul, hxe, raise u t s (by omega) hs.1]
      · rw [if_neg hf2] at ha
        refine ⟨v, s, false, ifn u0 (ifn v0 (ifn e (ifn hgt ?_))), hs, fun h => by cases h⟩
        rw [w]; exact hx.bind (ifp rfl (ha.bind (ifn (by simp) (Ev.now _))))
    · refine ⟨v, s, false, ifn u0 (ifn v0 (ifn e (ifn hgt ?_))), hs, fun h => by cases h⟩
      rw [w]; exact hx.bind (ifn hf (Ev.now _))

theorem sum_tells (v s u t : Int) (hv : In64 v) (hs : -500 ≤ s ∧ s ≤ 500) (hu : In64 u) (ht : -500 ≤ t ∧ t ≤ 500) :
    ∃ g h told, Ev (fun k => impl_AmountAdd.f k v s u t) (g, h, told) ∧ Tells v s u t g h told := by
  obtain ⟨g, h, told, he, hb, hq⟩ := add_tells v s u t hv hs hu ht
  refine ⟨g, h, told, ?_, hb, hq⟩
  unfold impl_AmountAdd.f
  rw [w32 (x := s) (by omega) (by omega), w32 (x := t) (by omega) (by omega)]
  refine he.bind (now ?_)
  simp only
  rw [w64 (x := h) (by omega) (by omega)]

theorem diff_tells (v s u t : Int) (hv : In64 v) (hs : -500 ≤ s ∧ s ≤ 500) (hu : In64 u) (hu2 : ¬ u = -9223372036854775808) (ht : -500 ≤ t ∧ t ≤ 500) :
    ∃ g h told, Ev (fun k => impl_AmountSub.f k v s u t) (g, h, told) ∧ Tells v s (-u) t g h told := by
  have hn : In64 (-u) := by unfold In64 at *; omega
  obtain ⟨g, h, told, he, hb, hq⟩ := add_tells v s (-u) t hv hs hn ht
  refine ⟨g, h, told, ?_, hb, hq⟩
  unfold impl_AmountSub.f
  rw [w32 (x := s) (by omega) (by omega), w32 (x := t) (by omega) (by omega)]
  unfold resource_int64Amount_Sub.f
  rw [w64 (x := -u) hn.1 hn.2]
  refine Ev.bind (he.bind (Ev.now _)) (now ?_)
  simp only
  rw [w64 (x := h) (by omega) (by omega)]

theorem neg_dec (m e : Int) : spec_DecimalNeg.f (dec m e).1 (dec m e).2.1 (dec m e).2.2 = some (dec (-m) e) := by
  unfold spec_DecimalNeg.f
  by_cases hm : m = 0
  · subst hm; simp [dec_zero]
  · obtain ⟨l, k, hp, hd, hne, _⟩ := dec_parts m e hm
    have hpos : 0 < l.length := List.length_pos_iff.2 hne
    have h2 : dec (-m) e = (!decide (m < 0), l, e + k) := by
      have h3 : dec m e = (decide (m < 0), digs (strip m.natAbs).1, e + ((strip m.natAbs).2 : Int)) := by unfold dec; rw [if_neg hm]
      have h4 : dec (-m) e = (decide (-m < 0), digs (strip (-m).natAbs).1, e + ((strip (-m).natAbs).2 : Int)) := by unfold dec; rw [if_neg (by omega)]
      rw [h3] at hp
      have e1 := congrArg (fun x => x.2) hp
      simp only at e1
      rw [h4, Int.natAbs_neg, e1]
      have : decide (-m < 0) = !decide (m < 0) := by
        by_cases h : m < 0
        · rw [decide_eq_true h, decide_eq_false (by omega)]; rfl
        · rw [decide_eq_false h, decide_eq_true (by omega)]; rfl
      rw [this]
    rw [hp, h2]
    simp only
    rw [if_pos (by omega)]

theorem big (D : Nat) (hD : D = 1000) (x : Int) (hx : In64 x) (s : Int) (hs : -500 ≤ s ∧ s ≤ 500) : (x * 10 ^ (s - -500).toNat).natAbs ≤ 9223372036854775808 * 10 ^ D := by
  rw [Int.natAbs_mul, Int.natAbs_pow]
  refine Nat.mul_le_mul (by unfold In64 at hx; omega) ?_
  exact Nat.pow_le_pow_right (by decide) (by omega)

theorem size2 (x y s t : Int) (hx : In64 x) (hy : In64 y) (hs : -500 ≤ s ∧ s ≤ 500) (ht : -500 ≤ t ∧ t ≤ 500) :
    (dec (x * 10 ^ (s - -500).toNat + y * 10 ^ (t - -500).toNat) (-500)).2.1.length ≤ 1020 ∧ (dec (x * 10 ^ (s - -500).toNat + y * 10 ^ (t - -500).toNat) (-500)).2.2 ≤ 1020 := by
  obtain ⟨D, hD⟩ : ∃ D, D = 1000 := ⟨_, rfl⟩
  have h1 := big D hD x hx s hs
  have h2 := big D hD y hy t ht
  generalize x * 10 ^ (s - -500).toNat = X at *
  generalize y * 10 ^ (t - -500).toNat = Y at *
  have h3 : (X + Y).natAbs ≤ X.natAbs + Y.natAbs := Int.natAbs_add_le _ _
  have h5 : (X + Y).natAbs < 10 ^ (D + 20) := by
    have hp : 0 < 10 ^ D := Nat.pow_pos (by decide)
    rw [Nat.pow_add, show (10 : Nat) ^ 20 = 100000000000000000000 from by decide]
    omega
  obtain ⟨a, b, c⟩ := dec_size (X + Y) (-500) (D + 20) (by
    have : (((X + Y).natAbs : Nat) : Int) < ((10 ^ (D + 20) : Nat) : Int) := Int.ofNat_lt.2 h5
    rw [Int.natCast_pow] at this
    exact this)
  by_cases h : X + Y = 0
  · have := c h; omega
  · have := b h; omega

theorem ev_max {α : Type} {f : Nat → Option α} {a : α} (h : Ev f a) : ∃ N, ∀ k, N ≤ k → f k = some a := h

theorem FnAmountSub : QFnAmountSub.Pure := by
  rintro ⟨v, s⟩ ⟨u, t⟩ ⟨hv, _⟩ ⟨hu, _⟩
  replace hv : In64 v := wf64 hv
  replace hu : In64 u := wf64 hu
  simp only
  have plain : Ev (fun k => XFnAmountSub.laws_FnAmountSub.f k v s u t) true → ∃ k, ZFnAmountSub.laws_FnAmountSub.f k v s u t = some true := by
    intro h
    obtain ⟨k, hk⟩ := Ev.rounds h
    refine ⟨k, ?_⟩
    unfold ZFnAmountSub.laws_FnAmountSub.f
    split
    · rfl
    · exact hk
  have stop : ∀ a b c d e f g h i j, Ev (fun k => XFnAmountSub.laws_FnAmountSub.j0 k true a b c d e f g h i j) true := fun a b c d e f g h i j => Ev.step (fun k => laws_FnAmountSub.j0.eq_2 ..) (ifp rfl (Ev.now _))
  by_cases hin : -500 ≤ s ∧ s ≤ 500
  · by_cases hin2 : -500 ≤ t ∧ t ≤ 500
    · have hx := amountOf_in v s hv hin.1 hin.2
      have hy := amountOf_in u t hu hin2.1 hin2.2
      by_cases hm : u = -9223372036854775808
      · refine plain ?_
        unfold XFnAmountSub.laws_FnAmountSub.f
        refine hx.bind (hy.bind (ifp rfl (ifp rfl ?_)))
        rw [show (u == -9223372036854775808) = true from by simpa using hm]
        exact stop ..
      · have hnu : In64 (-u) := by unfold In64 at *; omega
        have hz := amount_size v s hv hin.1 hin.2
        have hz2 := amount_size (-u) t hnu hin2.1 hin2.2
        obtain ⟨g, h, told, hd, hgh, htold⟩ := diff_tells v s u t hv hin hu hm hin2
        obtain ⟨p, q, added, ha, hpq, hadded⟩ := sum_tells v s u t hv hin hu hin2
        have back : added = true → ∃ x y taken, Ev (fun k => impl_AmountSub.f k p q u t) (x, y, taken) ∧ (taken = true → Ev (fun k => laws_amountIs.f k x y (dec v s).1 (dec v s).2.1 (dec v s).2.2) true) := by
          intro hadd
          obtain ⟨hp, hpe⟩ := hadded hadd
          obtain ⟨x, y, taken, hb, hxy, htk⟩ := diff_tells p q u t hp hpq hu hm hin2
          refine ⟨x, y, taken, hb, fun hk => ?_⟩
          obtain ⟨hx64, hxe⟩ := htk hk
          have := amountIs_ev x y v s (-500) hx64 hxy.1 hxy.2 hxy.1 hin.1 (by omega) (by omega) (by omega) (by omega)
          rw [decide_eq_true (by rw [hxe, hpe, Int.neg_mul]; omega)] at this
          exact this
        by_cases hway : u ≠ 0 ∨ v = 0
        · refine plain ?_
          unfold XFnAmountSub.laws_FnAmountSub.f
          refine hx.bind (hy.bind (ifp rfl (ifp rfl ?_)))
          rw [show (u == -9223372036854775808) = false from by simpa using hm]
          have j1 : Ev (fun k => XFnAmountSub.laws_FnAmountSub.j1 k false v s u t (dec v s).1 (dec v s).2.1 (dec v s).2.2) true := by
            refine Ev.step (fun k => laws_FnAmountSub.j1.eq_2 ..) (ifn (by simp) (ha.bind ?_))
            by_cases hadd : added = true
            · obtain ⟨x, y, taken, hb, hk⟩ := back hadd
              refine ifp hadd (hb.bind ?_)
              by_cases htk : taken = true
              · exact ifp htk ((hk htk).bind (ifp rfl (awake.bind (Ev.now _))))
              · exact ifn htk (awake.bind (Ev.now _))
            · exact ifn hadd (awake.bind (Ev.now _))
          refine Ev.step (fun k => laws_FnAmountSub.j0.eq_2 ..) (ifn (by simp) (hd.bind (cb (neg_dec u t) ?_)))
          have hsum := add_ev v (-u) s t (-500) hin.1 hin2.1 (by omega) (by omega) (by omega) (by omega) (by omega) (by intros; omega) (by omega) (by omega) (by omega) _ rfl
          refine hsum.bind ?_
          by_cases htl : told = true
          · obtain ⟨hg, hge⟩ := htold htl
            obtain ⟨e1, e2⟩ := size2 v (-u) s t hv hnu hin hin2
            have := amountIs_ev g h (v * 10 ^ (s - -500).toNat + (-u) * 10 ^ (t - -500).toNat) (-500) (-500) hg hgh.1 hgh.2 hgh.1 (by omega) (by omega) (by omega) (by omega) (by omega)
            rw [decide_eq_true (by rw [hge]; simp)] at this
            exact ifp htl (ifp rfl (this.bind j1))
          · exact ifn htl j1
        · have hu0 : u = 0 := by
            apply Classical.byContradiction
            intro hne; exact hway (.inl hne)
          have hv0 : ¬ v = 0 := fun hne => hway (.inr hne)
          subst hu0
          obtain ⟨l, j, hp, _, hne, _⟩ := dec_parts v s hv0
          have hpos : 0 < l.length := List.length_pos_iff.2 hne
          have hl : ¬ ((dec v s).2.1.length : Int) = 0 := by rw [hp]; simp only; omega
          rw [dec_zero] at hy
          have r1 : Ev (fun k => impl_AmountSub.f k v s 0 t) (v, s, true) := by
            unfold impl_AmountSub.f
            rw [w32 (x := s) (by omega) (by omega), w32 (x := t) (by omega) (by omega)]
            unfold resource_int64Amount_Sub.f resource_int64Amount_Add.f
            refine Ev.bind (Ev.bind (ifp (by unfold wrap64; omega) (Ev.now _)) (Ev.now _)) (now ?_)
            simp only
            rw [w64 (x := s) (by omega) (by omega)]
          have r2 : Ev (fun k => impl_AmountAdd.f k v s 0 t) (v, s, true) := by
            unfold impl_AmountAdd.f
            rw [w32 (x := s) (by omega) (by omega), w32 (x := t) (by omega) (by omega)]
            unfold resource_int64Amount_Add.f
            refine Ev.bind (ifp rfl (Ev.now _)) (now ?_)
            simp only
            rw [w64 (x := s) (by omega) (by omega)]
          have r3 := amountIs_ev v s v s (-500) hv hin.1 hin.2 hin.1 hin.1 (by omega) (by omega) (by omega) (by omega)
          rw [decide_eq_true rfl] at r3
          obtain ⟨N1, n1⟩ := ev_max hx
          obtain ⟨N2, n2⟩ := ev_max hy
          obtain ⟨N3, n3⟩ := ev_max r1
          obtain ⟨N4, n4⟩ := ev_max r2
          obtain ⟨N5, n5⟩ := ev_max r3
          obtain ⟨N6, n6⟩ := ev_max awake
          refine ⟨N1 + N2 + N3 + N4 + N5 + N6, ?_⟩
          unfold ZFnAmountSub.laws_FnAmountSub.f
          refine if_pos ⟨_, _, _, _, _, _, _, _, _, _, _, n1 _ (by omega), hl, n2 _ (by omega), by omega, n3 _ (by omega), n5 _ (by omega), n4 _ (by omega), n3 _ (by omega), n5 _ (by omega), n6 _ (by omega)⟩
    · obtain ⟨r, hr, hf⟩ := amountOf_out u t hu (by omega)
      refine plain ?_
      unfold XFnAmountSub.laws_FnAmountSub.f
      exact (amountOf_in v s hv hin.1 hin.2).bind (hr.bind (ifp rfl (ifn (by rw [hf]; simp) (stop ..))))
  · obtain ⟨r, hr, hf⟩ := amountOf_out v s hv (by omega)
    refine plain ?_
    unfold XFnAmountSub.laws_FnAmountSub.f
    by_cases hin2 : -500 ≤ t ∧ t ≤ 500
    · exact hr.bind ((amountOf_in u t hu hin2.1 hin2.2).bind (ifn (by rw [hf]; simp) (stop ..)))
    · obtain ⟨r2, hr2, _⟩ := amountOf_out u t hu (by omega)
      exact hr.bind (hr2.bind (ifn (by rw [hf]; simp) (stop ..)))

end Go.Proofs.Ytmkpkpkcoieeiaa.Pure
