/- For all texts a, b, c that are numbers above 0 without a nought ahead (none longer than 2^31 - 1 bytes): the comparison of two of them is an order: told the other way round it is the other way round, 0 just if they are the same text, and it goes on from a, b and b, c to a, c. -/
import Derived.Test.YtgmkfalnncaacaaXFnResourceVersionOrderx
import Derived.Test.YtgmkfalnncaacaaStr
namespace Go.Proofs.Ytgmkfalnncaacaa.Pure
open Go.RowKit Go.Proofs.Ytgmkfalnncaacaa.XFnResourceVersionOrder Go.Proofs.YtgmkfalnncaacaaW.PrintWords Go.Proofs.YtgmkfalnncaacaaW.PrintLast Go.Proofs.Ytgmkfalnncaacaa.EvL Go.Proofs.Ytgmkfalnncaacaa.Str

/-! ### the order of lists of bytes -/
theorem cb_vals : ∀ a b : List UInt8, Lib.compareBytes a b = -1 ∨ Lib.compareBytes a b = 0 ∨ Lib.compareBytes a b = 1
  | [], [] => by simp [Lib.compareBytes]
  | [], _ :: _ => by simp [Lib.compareBytes]
  | _ :: _, [] => by simp [Lib.compareBytes]
  | a :: us, b :: bs => by
    unfold Lib.compareBytes
    split
    · exact .inl rfl
    · split
      · exact .inr (.inr rfl)
      · exact cb_vals us bs

theorem cb_neg : ∀ a b : List UInt8, Lib.compareBytes b a = -Lib.compareBytes a b
  | [], [] => by simp [Lib.compareBytes]
  | [], _ :: _ => by simp [Lib.compareBytes]
  | _ :: _, [] => by simp [Lib.compareBytes]
  | a :: us, b :: bs => by
    unfold Lib.compareBytes
    by_cases h1 : a < b
    · have h2 : ¬ b < a := fun h => absurd (UInt8.lt_trans h1 h) (UInt8.lt_irrefl _)
      rw [if_neg h2, if_pos h1, if_pos h1]; rfl
    · by_cases h2 : b < a
      · rw [if_pos h2, if_neg h1, if_pos h2]
      · rw [if_neg h2, if_neg h1, if_neg h1, if_neg h2]; exact cb_neg us bs

theorem cb_zero : ∀ a b : List UInt8, Lib.compareBytes a b = 0 ↔ a = b
  | [], [] => by simp [Lib.compareBytes]
  | [], _ :: _ => by simp [Lib.compareBytes]
  | _ :: _, [] => by simp [Lib.compareBytes]
  | a :: us, b :: bs => by
    unfold Lib.compareBytes
    by_cases h1 : a < b
    · have : a ≠ b := fun e => by subst e; exact absurd h1 (UInt8.lt_irrefl _)
      rw [if_pos h1]; simp [this]
    · by_cases h2 : b < a
      · have : a ≠ b := fun e => by subst e; exact absurd h2 (UInt8.lt_irrefl _)
        rw [if_neg h1, if_pos h2]; simp [this]
      · have e : a = b := UInt8.toNat_inj.1 (by rw [UInt8.lt_iff_toNat_lt] at h1 h2; omega)
        rw [if_neg h1, if_neg h2, cb_zero us bs]; simp [e]

theorem cb_trans : ∀ a b c : List UInt8, Lib.compareBytes a b ≤ 0 → Lib.compareBytes b c ≤ 0 → Lib.compareBytes a c < 0 ∨ (Lib.compareBytes a c = 0 ∧ Lib.compareBytes a b = 0 ∧ Lib.compareBytes b c = 0)
  | [], [], [] => by simp [Lib.compareBytes]
  | [], [], _ :: _ => by simp [Lib.compareBytes]
  | [], _ :: _, [] => by simp [Lib.compareBytes]
  | [], _ :: _, _ :: _ => by simp [Lib.compareBytes]
  | _ :: _, [], _ => by simp [Lib.compareBytes]
  | _ :: _, _ :: _, [] => by simp [Lib.compareBytes]
  | a :: us, b :: bs, c :: cs => by
    unfold Lib.compareBytes
    simp only [UInt8.lt_iff_toNat_lt]
    intro h1 h2
    by_cases ab : a.toNat < b.toNat
    · by_cases bc : b.toNat < c.toNat
      · rw [if_pos (by omega)]; exact .inl (by omega)
      · by_cases cb : c.toNat < b.toNat
        · rw [if_neg bc, if_pos cb] at h2; omega
        · rw [if_pos (by omega)]; exact .inl (by omega)
    · by_cases ba : b.toNat < a.toNat
      · rw [if_neg ab, if_pos ba] at h1; omega
      · rw [if_neg ab, if_neg ba] at h1
        rw [if_neg ab, if_neg ba]
        by_cases bc : b.toNat < c.toNat
        · rw [if_pos (by omega)]; exact .inl (by omega)
        · by_cases cb : c.toNat < b.toNat
          · rw [if_neg bc, if_pos cb] at h2; omega
          · rw [if_neg bc, if_neg cb] at h2
            rw [if_neg (by omega), if_neg (by omega), if_neg bc, if_neg cb]
            exact cb_trans us bs cs h1 h2

/-! ### the order of numbers -/
theorem rvc_neg (a b : ByteArray) : rvc b a = -rvc a b := by
  unfold rvc
  by_cases h1 : a.size < b.size
  · rw [if_neg (by omega), if_pos h1, if_pos h1]; rfl
  · by_cases h2 : b.size < a.size
    · rw [if_pos h2, if_neg h1, if_pos h2]
    · rw [if_neg h2, if_neg h1, if_neg h1, if_neg h2]; exact cb_neg _ _

theorem rvc_vals (a b : ByteArray) : rvc a b = -1 ∨ rvc a b = 0 ∨ rvc a b = 1 := by
  unfold rvc
  split
  · exact .inl rfl
  · split
    · exact .inr (.inr rfl)
    · exact cb_vals _ _

theorem rvc_zero (a b : ByteArray) : rvc a b = 0 ↔ L a = L b := by
  have ha := size_L a
  have hb := size_L b
  unfold rvc
  by_cases h1 : a.size < b.size
  · rw [if_pos h1]
    exact ⟨fun h => by omega, fun h => by rw [h] at ha; omega⟩
  · by_cases h2 : b.size < a.size
    · rw [if_neg h1, if_pos h2]
      exact ⟨fun h => by omega, fun h => by rw [h] at ha; omega⟩
    · rw [if_neg h1, if_neg h2]; exact cb_zero _ _

theorem rvc_trans (a b c : ByteArray) (h1 : rvc a b ≤ 0) (h2 : rvc b c ≤ 0) : rvc a c < 0 ∨ (rvc a c = 0 ∧ rvc a b = 0 ∧ rvc b c = 0) := by
  unfold rvc at *
  by_cases ab : a.size < b.size
  · by_cases bc : b.size < c.size
    · rw [if_pos (by omega)]; exact .inl (by omega)
    · by_cases cb : c.size < b.size
      · rw [if_neg bc, if_pos cb] at h2; omega
      · rw [if_pos (by omega)]; exact .inl (by omega)
  · by_cases ba : b.size < a.size
    · rw [if_neg ab, if_pos ba] at h1; omega
    · rw [if_neg ab, if_neg ba] at h1 ⊢
      by_cases bc : b.size < c.size
      · rw [if_pos (by omega)]; exact .inl (by omega)
      · by_cases cb : c.size < b.size
        · rw [if_neg bc, if_pos cb] at h2; omega
        · rw [if_neg bc, if_neg cb] at h2 ⊢
          rw [if_neg (by omega), if_neg (by omega)]
          exact cb_trans _ _ _ h1 h2

/-! ### the numbers -/
theorem bt_get (s : ByteArray) (i : Nat) (h : i < s.size) : bt s (i : Int) = ((s[i]'h).toNat : Int) := by
  unfold bt
  rw [dif_pos (by simpa using h)]
  rfl

theorem num_l0 (s : ByteArray) (hs : s.size < 4611686018427387904) (n : Nat) : ∀ i : Nat, s.size - i = n → i ≤ s.size → (∀ j (hj : j < s.size), j < i → 48 ≤ (s[j]'hj).toNat ∧ (s[j]'hj).toNat ≤ 57) →
    ∃ b, Ev (fun k => spec_NumPositive.l0 k s i) b ∧ (b = true → wfd s) := by
  have hz := size_L s
  induction n with
  | zero =>
    intro i hn hi hd
    by_cases h0 : s.toList = ([] : List UInt8)
    · exact ⟨false, Ev.step (fun k => spec_NumPositive.l0.eq_2 ..) (ifn (by omega) (ifp h0 (Ev.now _))), fun h => by cases h⟩
    · have hpos : 0 < s.size := by
        rw [toList_L] at h0
        have := List.length_pos_iff.2 h0
        omega
      refine ⟨_, Ev.step (fun k => spec_NumPositive.l0.eq_2 ..) (ifn (by omega) (ifn h0 (ifp (by omega) (Ev.now _)))), fun h => ?_⟩
      have e := bt_get s 0 hpos
      rw [show ((0 : Nat) : Int) = 0 from rfl] at e
      rw [e] at h
      have h' : ((s[0]'hpos).toNat : Int) ≠ 48 := by simpa using h
      exact ⟨hpos, by omega, fun j hj => hd j hj (by omega)⟩
  | succ n ih =>
    intro i hn hi hd
    have hlt : i < s.size := by omega
    have e := bt_get s i hlt
    by_cases h1 : bt s (i : Int) < 48
    · exact ⟨false, Ev.step (fun k => spec_NumPositive.l0.eq_2 ..) (ifp (by omega) (ifp (by omega) (ifp h1 (Ev.now _)))), fun h => by cases h⟩
    · by_cases h2 : bt s (i : Int) > 57
      · exact ⟨false, Ev.step (fun k => spec_NumPositive.l0.eq_2 ..) (ifp (by omega) (ifp (by omega) (ifn h1 (ifp h2 (Ev.now _))))), fun h => by cases h⟩
      · obtain ⟨b, hb, hw⟩ := ih (i + 1) (by omega) (by omega) (fun j hj hji => by
          by_cases hjj : j < i
          · exact hd j hj hjj
          · obtain rfl : j = i := by omega
            omega)
        refine ⟨b, Ev.step (fun k => spec_NumPositive.l0.eq_2 ..) (ifp (by omega) (ifp (by omega) (ifn h1 (ifn h2 ?_)))), hw⟩
        rw [w64 (x := (i : Int) + 1) (by omega) (by omega)]
        exact hb

theorem num_ev (s : ByteArray) (hs : s.size < 4611686018427387904) : ∃ b, Ev (fun k => spec_NumPositive.f k s) b ∧ (b = true → wfd s) :=
  num_l0 s hs _ 0 rfl (by omega) (fun _ _ h => absurd h (by omega))

theorem rvc_ev (a b : ByteArray) (ha : wfd a) (hb : wfd b) : Ev (fun k => impl_ResourceVersionCompare.f k a b) (rvc a b, true) := by
  unfold impl_ResourceVersionCompare.f
  exact ifp ha (ifp hb (Ev.now _))

theorem last_ev (a b c : ByteArray) (ha : wfd a) (hb : wfd b) (hc : wfd c) : Ev (fun k => laws_FnResourceVersionOrder.j1 k a b c false) true := by
  have hv := rvc_vals a b
  have hn := rvc_neg a b
  have hz := rvc_zero a b
  refine Ev.step (fun k => laws_FnResourceVersionOrder.j1.eq_2 ..) (ifn (by simp) ?_)
  refine (rvc_ev a b ha hb).bind ((rvc_ev b a hb ha).bind ((rvc_ev b c hb hc).bind ((rvc_ev a c ha hc).bind ?_)))
  refine ifp rfl (ifp rfl (ifp rfl (ifp rfl (ifp ?_ ?_))))
  · show rvc a b = wrap64 (-rvc b a)
    rw [hn, w64 (by omega) (by omega)]; omega
  · have tr : ∀ r : Option Bool, Ev (fun _ : Nat => if rvc a b ≤ 0 then (if rvc b c ≤ 0 then (if rvc a c ≤ 0 then (if rvc a c < 0 then (some true) else (if rvc a b = 0 then (some (rvc b c == 0)) else (some false))) else (some false)) else (some true)) else (some true)) true := by
      intro _
      by_cases h1 : rvc a b ≤ 0
      · refine ifp h1 ?_
        by_cases h2 : rvc b c ≤ 0
        · refine ifp h2 ?_
          rcases rvc_trans a b c h1 h2 with h | ⟨h, h3, h4⟩
          · exact ifp (by omega) (ifp h (Ev.now _))
          · exact ifp (by omega) (ifn (by omega) (ifp h3 (now (by simp [h4]))))
        · exact ifn h2 (Ev.now _)
      · exact ifn h1 (Ev.now _)
    by_cases he : L a = L b
    · refine ifp (by rw [toList_L, toList_L]; exact he) (ifn ?_ (tr none))
      simp [hz.2 he]
    · refine ifn (by rw [toList_L, toList_L]; exact he) (ifn ?_ (tr none))
      have : rvc a b ≠ 0 := fun h => he (hz.1 h)
      simp [this]

theorem FnResourceVersionOrder : laws_FnResourceVersionOrder.Pure := by
  intro a b c _ _ _
  refine Ev.rounds ?_
  unfold laws_FnResourceVersionOrder.f
  have stop : Ev (fun k => laws_FnResourceVersionOrder.j0 k a b c true) true := Ev.step (fun k => laws_FnResourceVersionOrder.j0.eq_2 ..) (ifp rfl (Ev.now _))
  by_cases z0 : (a.size : Int) > 2147483647
  · exact ifp z0 stop
  · refine ifn z0 ?_
    by_cases z1 : (b.size : Int) > 2147483647
    · exact ifp z1 stop
    · refine ifn z1 ?_
      by_cases z2 : (c.size : Int) > 2147483647
      · rw [decide_eq_true z2]; exact stop
      · rw [decide_eq_false z2]
        have nope : Ev (fun k => laws_FnResourceVersionOrder.j1 k a b c true) true := Ev.step (fun k => laws_FnResourceVersionOrder.j1.eq_2 ..) (ifp rfl (Ev.now _))
        obtain ⟨ta, ea, wa⟩ := num_ev a (by omega)
        obtain ⟨tb, eb, wb⟩ := num_ev b (by omega)
        obtain ⟨tc, ec, wc⟩ := num_ev c (by omega)
        refine Ev.step (fun k => laws_FnResourceVersionOrder.j0.eq_2 ..) (ifn (by simp) (ea.bind ?_))
        by_cases ha : ta = true
        · refine ifp ha (eb.bind ?_)
          by_cases hb : tb = true
          · refine ifp hb (ec.bind ?_)
            by_cases hc : tc = true
            · rw [hc]; exact last_ev a b c (wa ha) (wb hb) (wc hc)
            · rw [Bool.eq_false_iff.2 hc]; exact nope
          · exact ifn hb nope
        · exact ifn ha nope

end Go.Proofs.Ytgmkfalnncaacaa.Pure
