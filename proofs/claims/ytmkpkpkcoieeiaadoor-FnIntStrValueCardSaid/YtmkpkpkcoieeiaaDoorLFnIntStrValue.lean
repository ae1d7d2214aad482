/- The whole number that a text tells (spec.NumWhole), as a function on lists of bytes. -/
import Derived.Test.YtmkpkpkcoieeiaaDoorXFnIntStrValuex
import Derived.Test.YtmkpkpkcoieeiaaDoorStr
import Derived.Test.YtmkpkpkcoieeiaaDoorNum
namespace Go.Proofs.YtmkpkpkcoieeiaaDoor.LFnIntStrValue
open Go.RowKit Go.Proofs.YtmkpkpkcoieeiaaDoor.XFnIntStrValue Go.Proofs.YtmkpkpkcoieeiaaDoorW.PrintWords Go.Proofs.YtmkpkpkcoieeiaaDoorW.PrintLast Go.Proofs.YtmkpkpkcoieeiaaDoorW.PrintMore Go.Proofs.YtmkpkpkcoieeiaaDoor.EvL Go.Proofs.YtmkpkpkcoieeiaaDoor.Str Go.Proofs.YtmkpkpkcoieeiaaDoor.Num

/-- A number with its sign. -/
def sgn (m : Bool) (a : Nat) : Int := if m = true then -(a : Int) else (a : Int)
/-- A number that is told, or none. -/
def wh (o : Option Int) : Int × Bool := match o with | some v => (v, true) | none => (0, false)
/-- What the digits behind a number come to. -/
def res (least most : Int) (m : Bool) (acc : Nat) (l : List UInt8) : Int × Bool := if digs l ∧ least ≤ sgn m (val acc l) ∧ sgn m (val acc l) ≤ most then (sgn m (val acc l), true) else (0, false)

theorem res_no {least most : Int} {m : Bool} {acc : Nat} {l : List UInt8} (h : ¬ (digs l ∧ least ≤ sgn m (val acc l) ∧ sgn m (val acc l) ≤ most)) : res least most m acc l = (0, false) := if_neg h

theorem NumWhole_l0 (least most : Int) (hl0 : -9223372036854775808 ≤ least) (hl1 : least ≤ -10) (hm0 : 10 ≤ most) (hm1 : most ≤ 9223372036854775807) (b : ByteArray) (hb : b.size ≤ 140737488351232) (m : Bool) (n : Nat) :
    ∀ i acc : Nat, (L b).length - i = n → i ≤ (L b).length → least ≤ sgn m acc → sgn m acc ≤ most →
    Ev (fun k => spec_NumWhole.l0 k b least most m (sgn m acc) i) (res least most m acc ((L b).drop i)) := by
  have hz := size_L b
  induction n with
  | zero =>
    intro i acc hn hi h0 h1
    refine Ev.step (fun k => spec_NumWhole.l0.eq_2 ..) (ifn (by omega) (ifp h0 (now ?_)))
    rw [List.drop_eq_nil_of_le (by omega)]
    unfold res
    rw [if_pos ⟨fun c hc => by simp at hc, h0, h1⟩, decide_eq_true h1]
    rfl
  | succ n ih =>
    intro i acc hn hi h0 h1
    have hlt : i < (L b).length := by omega
    refine Ev.step (fun k => spec_NumWhole.l0.eq_2 ..) (ifp (by omega) (ifp (by omega) ?_))
    rw [bt_L b i hlt, List.drop_eq_getElem_cons hlt]
    generalize hc : (L b)[i] = c
    have hcl : c.toNat < 256 := c.toNat_lt
    rw [w64 (x := (c.toNat : Int)) (by omega) (by omega), w64 (x := (c.toNat : Int) - 48) (by omega) (by omega)]
    have hstop : ¬ dig c → Ev (fun k => spec_NumWhole.j4 k b least most m (sgn m acc) i ((c.toNat : Int) - 48) true) (res least most m acc (c :: (L b).drop (i + 1))) := by
      intro hd
      rw [res_no (fun h => hd (digs_cons.1 h.1).1)]
      exact Ev.step (fun k => spec_NumWhole.j4.eq_2 ..) (ifp rfl (Ev.now _))
    by_cases hd0 : ((c.toNat : Int) - 48) < 0
    · exact ifp hd0 (hstop (by unfold dig; omega))
    · refine ifn hd0 ?_
      by_cases hd9 : ((c.toNat : Int) - 48) > 9
      · rw [decide_eq_true hd9]; exact hstop (by unfold dig; omega)
      · rw [decide_eq_false hd9]
        have hdig : dig c := by unfold dig; omega
        have hv : ∀ r, val acc (c :: r) = val (acc * 10 + (c.toNat - 48)) r := fun _ => rfl
        have hge := val_ge ((L b).drop (i + 1)) (acc * 10 + (c.toNat - 48))
        have hres : res least most m acc (c :: (L b).drop (i + 1)) = res least most m (acc * 10 + (c.toNat - 48)) ((L b).drop (i + 1)) := by
          unfold res
          rw [hv]
          simp only [digs_cons, hdig, true_and]
        refine Ev.step (fun k => spec_NumWhole.j4.eq_2 ..) (ifn (by simp) ?_)
        have hnx := ih (i + 1) (acc * 10 + (c.toNat - 48)) (by omega) (by omega)
        rw [w64 (x := (i : Int) + 1) (by omega) (by omega)]
        cases m with
        | true =>
          refine ifp rfl ?_
          have e1 : sgn true acc = -(acc : Int) := rfl
          have e2 : sgn true (acc * 10 + (c.toNat - 48)) = -((acc * 10 + (c.toNat - 48) : Nat) : Int) := rfl
          rw [e1] at h0 h1 ⊢
          rw [e2] at hnx
          have ht : Int.tdiv (least + ((c.toNat : Int) - 48)) 10 = -((-(least + ((c.toNat : Int) - 48))) / 10) := by
            conv => lhs; rw [show least + ((c.toNat : Int) - 48) = -(-(least + ((c.toNat : Int) - 48))) from by omega]
            rw [Int.neg_tdiv, Int.tdiv_eq_ediv_of_nonneg (by omega)]
          rw [w64 (x := least + ((c.toNat : Int) - 48)) (by omega) (by omega), ht, w64 (x := -((-(least + ((c.toNat : Int) - 48))) / 10)) (by omega) (by omega)]
          by_cases hq : -(acc : Int) < -((-(least + ((c.toNat : Int) - 48))) / 10)
          · refine ifp hq (now ?_)
            rw [hres, res_no]
            rintro ⟨_, h2, _⟩
            have e3 : sgn true (val (acc * 10 + (c.toNat - 48)) ((L b).drop (i + 1))) = -((val (acc * 10 + (c.toNat - 48)) ((L b).drop (i + 1)) : Nat) : Int) := rfl
            rw [e3] at h2
            omega
          · refine ifn hq ?_
            rw [w64 (x := 10 * -(acc : Int)) (by omega) (by omega), w64 (x := 10 * -(acc : Int) - ((c.toNat : Int) - 48)) (by omega) (by omega)]
            rw [hres, show 10 * -(acc : Int) - ((c.toNat : Int) - 48) = -((acc * 10 + (c.toNat - 48) : Nat) : Int) from by omega]
            exact hnx (by omega) (by omega)
        | false =>
          refine ifn (by simp) ?_
          have e1 : sgn false acc = (acc : Int) := rfl
          have e2 : sgn false (acc * 10 + (c.toNat - 48)) = ((acc * 10 + (c.toNat - 48) : Nat) : Int) := rfl
          rw [e1] at h0 h1 ⊢
          rw [e2] at hnx
          rw [w64 (x := most - ((c.toNat : Int) - 48)) (by omega) (by omega), Int.tdiv_eq_ediv_of_nonneg (by omega), w64 (x := (most - ((c.toNat : Int) - 48)) / 10) (by omega) (by omega)]
          by_cases hq : (acc : Int) > (most - ((c.toNat : Int) - 48)) / 10
          · refine ifp hq (now ?_)
            rw [hres, res_no]
            rintro ⟨_, _, h2⟩
            have e3 : sgn false (val (acc * 10 + (c.toNat - 48)) ((L b).drop (i + 1))) = ((val (acc * 10 + (c.toNat - 48)) ((L b).drop (i + 1)) : Nat) : Int) := rfl
            rw [e3] at h2
            omega
          · refine ifn hq ?_
            rw [w64 (x := 10 * (acc : Int)) (by omega) (by omega), w64 (x := 10 * (acc : Int) + ((c.toNat : Int) - 48)) (by omega) (by omega)]
            rw [hres, show 10 * (acc : Int) + ((c.toNat : Int) - 48) = ((acc * 10 + (c.toNat - 48) : Nat) : Int) from by omega]
            exact hnx (by omega) (by omega)

theorem NumWhole_j2 (least most : Int) (hl0 : -9223372036854775808 ≤ least) (hl1 : least ≤ -10) (hm0 : 10 ≤ most) (hm1 : most ≤ 9223372036854775807) (b : ByteArray) (hb : b.size ≤ 140737488351232) (m : Bool) :
    Ev (fun k => spec_NumWhole.j2 k b least most m) (if L b = [] then (0, false) else res least most m 0 (L b)) := by
  refine Ev.step (fun k => spec_NumWhole.j2.eq_2 ..) ?_
  rw [toList_L]
  by_cases h : L b = []
  · rw [if_pos h]; exact ifp h (Ev.now _)
  · rw [if_neg h]
    refine ifn h ?_
    have := NumWhole_l0 least most hl0 hl1 hm0 hm1 b hb m _ 0 0 rfl (by omega) (by unfold sgn; split <;> simp <;> omega) (by unfold sgn; split <;> simp <;> omega)
    simp only [List.drop_zero] at this
    have e : sgn m 0 = 0 := by unfold sgn; split <;> rfl
    rw [e] at this
    exact this

theorem NumWhole_ev (s : ByteArray) (least most : Int) (hl0 : -9223372036854775808 ≤ least) (hl1 : least ≤ -10) (hm0 : 10 ≤ most) (hm1 : most ≤ 9223372036854775807) (hs : s.size ≤ 140737488351232) :
    Ev (fun k => spec_NumWhole.f k s least most) (wh (whole least most (L s))) := by
  have hz := size_L s
  have hend : ∀ (l : List UInt8) (m : Bool), neg l = m → wh (whole least most l) = (if body l = [] then (0, false) else res least most m 0 (body l)) := by
    intro l m hm
    unfold whole num res sgn
    rw [hm]
    by_cases h : body l = []
    · rw [if_pos h, if_neg (fun x => x.1 h)]; rfl
    · rw [if_neg h]
      by_cases h2 : digs (body l) ∧ least ≤ (if m = true then -((val 0 (body l) : Nat) : Int) else ((val 0 (body l) : Nat) : Int)) ∧ (if m = true then -((val 0 (body l) : Nat) : Int) else ((val 0 (body l) : Nat) : Int)) ≤ most
      · rw [if_pos h2, if_pos ⟨h, h2⟩]; rfl
      · rw [if_neg h2, if_neg (fun x => h2 x.2)]; rfl
  unfold spec_NumWhole.f
  rw [toList_L]
  cases hl : L s with
  | nil =>
    refine ifp rfl (Ev.step (fun k => spec_NumWhole.j0.eq_2 ..) (ifn (by simp) ?_))
    rw [toList_L, hl]
    refine ifp rfl (Ev.step (fun k => spec_NumWhole.j1.eq_2 ..) (ifn (by simp) ?_))
    have := NumWhole_j2 least most hl0 hl1 hm0 hm1 s hs false
    rw [hl] at this
    exact this
  | cons c r =>
    have hlen : 0 < (L s).length := by rw [hl]; simp
    have hc : bt s 0 = (c.toNat : Int) := by
      have h1 := bt_L s 0 hlen
      have h2 : (L s)[0] = c := by simp [hl]
      rw [h2] at h1
      exact h1
    have hcut : L (s.extract 1 s.size) = r := by rw [L_from, hl]; rfl
    have hcs : (s.extract 1 s.size).size ≤ 140737488351232 := by
      rw [size_L, hcut]
      have : (L s).length = r.length + 1 := by rw [hl]; rfl
      omega
    refine ifn (by simp) (ifp (by omega) ?_)
    rw [hc]
    have hbody : body (c :: r) = if c.toNat = 43 ∨ c.toNat = 45 then r else c :: r := rfl
    have hneg : neg (c :: r) = decide (c.toNat = 45) := rfl
    by_cases h45 : c.toNat = 45
    · rw [show ((c.toNat : Int) == 45) = true from beq_iff_eq.mpr (by omega)]
      refine Ev.step (fun k => spec_NumWhole.j0.eq_2 ..) (ifp rfl (Ev.step (fun k => spec_NumWhole.j1.eq_2 ..) (ifp rfl (ifp (by omega) ?_))))
      rw [hend (c :: r) true (by rw [hneg]; simpa using h45), show body (c :: r) = r from hbody.trans (if_pos (.inr h45)), ← hcut]
      exact NumWhole_j2 least most hl0 hl1 hm0 hm1 _ hcs true
    · rw [show ((c.toNat : Int) == 45) = false from beq_eq_false_iff_ne.mpr (by omega)]
      refine Ev.step (fun k => spec_NumWhole.j0.eq_2 ..) (ifn (by simp) ?_)
      rw [toList_L, hl, hc]
      refine ifn (by simp) (ifp (by omega) ?_)
      rw [hend (c :: r) false (by rw [hneg]; simpa using h45)]
      by_cases h43 : c.toNat = 43
      · rw [show ((c.toNat : Int) == 43) = true from beq_iff_eq.mpr (by omega)]
        refine Ev.step (fun k => spec_NumWhole.j1.eq_2 ..) (ifp rfl (ifp (by omega) ?_))
        rw [show body (c :: r) = r from hbody.trans (if_pos (.inl h43)), ← hcut]
        exact NumWhole_j2 least most hl0 hl1 hm0 hm1 _ hcs false
      · rw [show ((c.toNat : Int) == 43) = false from beq_eq_false_iff_ne.mpr (by omega)]
        refine Ev.step (fun k => spec_NumWhole.j1.eq_2 ..) (ifn (by simp) ?_)
        rw [show body (c :: r) = c :: r from hbody.trans (if_neg (fun hx => hx.elim h43 h45)), ← hl]
        exact NumWhole_j2 least most hl0 hl1 hm0 hm1 s hs false

end Go.Proofs.YtmkpkpkcoieeiaaDoor.LFnIntStrValue
