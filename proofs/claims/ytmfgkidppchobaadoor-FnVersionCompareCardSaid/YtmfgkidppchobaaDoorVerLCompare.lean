/- What the row's listed variables give a walk, for a row whose list ends with strconv's two errors. -/
import Derived.Test.YtmfgkidppchobaaDoorVerE
import Derived.Test.YtmfgkidppchobaaDoorXFnVersionComparex
import Derived.Test.YtmfgkidppchobaaDoorVerF
import Derived.Test.YtmfgkidppchobaaDoorVerH
namespace Go.Proofs.YtmfgkidppchobaaDoor.VOCompare
open Go.RowKit Go.Proofs.YtmfgkidppchobaaDoor.Vars
theorem vars0 {w : World} (h : laidMetH Tryd.prog Rows.fnVersionCompareRow.laid w) : Vars w := by
 rw [MakeChecks.laidMetH_plain _ _ _ (by kernel_rfl)] at h
 have h3 : laidMet Tryd.prog [("strconv.ErrRange", Rows.laid_strconv_ErrRange), ("strconv.ErrSyntax", Rows.laid_strconv_ErrSyntax)] w := h.tail.tail.tail
 obtain ⟨a0, s0, hv0, -, -, -⟩ := laid_sentinel h3 gR tR Tryd.underlying64 rowP Tryd.underlying107 Tryd.underlying109 rfl rfl Tryd.underlying9 cE cT
 obtain ⟨a1, s1, hv1, -, -, -⟩ := laid_sentinel h3.tail gS tS Tryd.underlying64 rowP Tryd.underlying107 Tryd.underlying109 rfl rfl Tryd.underlying9 cE cT
 exact ⟨⟨_, by have h0 := World.var?_cell gS hv1 0; simpa using h0, .inr ⟨_, _, rfl⟩⟩, ⟨_, by have h0 := World.var?_cell gR hv0 0; simpa using h0, .inr ⟨_, _, rfl⟩⟩⟩
theorem vars_of {w : World} (h : laidMetH Tryd.prog Rows.fnVersionCompareRow.laid w) : VT.V w := by
 have h1 := vars0 h
 rw [MakeChecks.laidMetH_plain _ _ _ (by kernel_rfl)] at h
 have h3 : laidMet Tryd.prog (Rows.fnVersionCompareRow.laid.tail.tail) w := h.tail.tail
 have h4 : VT.Tab w := Lib.tabIs_of_head (rest := Rows.fnVersionCompareRow.laid.tail.tail.tail) VT.gP (t := 129) (e := 94) (n := 20) (by kernel_rfl) Tryd.underlying129 Tryd.underlying94 (by kernel_rfl) (by kernel_rfl) h3
 exact ⟨h1, h4, VT.tab_lt h4⟩
set_option maxRecDepth 100000 in
theorem door_met (os : Os) (args : Array Value) : laidMetH Tryd.prog Rows.fnVersionCompareRow.laid ((World.laidAll Tryd.prog os Rows.fnVersionCompareRow.laid).forCall (fun _ _ => 0) ⟨#[], args, []⟩).memory := by
 rw [MakeChecks.laidMetH_plain _ _ _ (by kernel_rfl)]; exact laidMet_laidAll _ (by kernel_rfl) (by kernel_rfl)
end Go.Proofs.YtmfgkidppchobaaDoor.VOCompare


set_option linter.unusedSimpArgs false
set_option linter.unusedVariables false
namespace Go.Proofs.YtmfgkidppchobaaDoor.VerTXFnVersionCompare
open Go.RowKit Go.Proofs.YtmfgkidppchobaaDoorW.PrintWords Go.Proofs.YtmfgkidppchobaaDoorW.PrintLast Go.Proofs.YtmfgkidppchobaaDoor.XFnVersionCompare Go.Proofs.YtmfgkidppchobaaDoor.EvL Go.Proofs.YtmfgkidppchobaaDoor.Str Go.Proofs.YtmfgkidppchobaaDoor.VerP Go.Proofs.YtmfgkidppchobaaDoor.VerQ Go.Proofs.YtmfgkidppchobaaDoor.VerR Go.Proofs.YtmfgkidppchobaaDoor.Ver1 Go.Proofs.YtmfgkidppchobaaDoor.Ver3 Go.Proofs.YtmfgkidppchobaaDoor.Ver4 Go.Proofs.YtmfgkidppchobaaDoor.Ver5 Go.Proofs.YtmfgkidppchobaaDoor.Ver6
theorem cbv {α β : Type} {g : Option α} {f : Nat → α → Option β} {a : α} {r : β} (h : g = some a) (k : Ev (fun n => f n a) r) : Ev (fun n => g.bind (f n)) r := by subst h; exact k
theorem digit_eq (c : UInt8) : spec_verDigit.f (c.toNat : Int) = some (dg c) := by
 unfold spec_verDigit.f dg
 by_cases h : (c.toNat : Int) ≥ 48
 ·rw [if_pos h]
  congr 1
  rw [decide_eq_decide]; omega
 ·rw [if_neg h]
  congr 1
  exact (decide_eq_false (by omega)).symm
theorem white_eq (c : UInt8) : spec_verWhite.f (c.toNat : Int) = some (wh c) := by
 unfold spec_verWhite.f wh
 by_cases h1 : (c.toNat : Int) = 32
 ·rw [if_pos h1]; exact congrArg some (decide_eq_true (by omega)).symm
 rw [if_neg h1]
 by_cases h2 : (c.toNat : Int) = 9
 ·rw [if_pos h2]; exact congrArg some (decide_eq_true (by omega)).symm
 rw [if_neg h2]
 by_cases h3 : (c.toNat : Int) = 10
 ·rw [if_pos h3]; exact congrArg some (decide_eq_true (by omega)).symm
 rw [if_neg h3]
 by_cases h4 : (c.toNat : Int) = 12
 ·rw [if_pos h4]; exact congrArg some (decide_eq_true (by omega)).symm
 rw [if_neg h4]
 congr 1
 by_cases h5 : (c.toNat : Int) = 13
 ·rw [h5]; exact (decide_eq_true (by omega)).symm
 ·rw [beq_eq_false_iff_ne.2 h5]; exact (decide_eq_false (by omega)).symm
theorem bt0 {s : ByteArray} {a : UInt8} {r : List UInt8} (h : L s = a :: r) : bt s 0 = (a.toNat : Int) := by
 have hl : 0 < (L s).length := by rw [h]; simp
 have := bt_L s 0 hl
 simp only [h, List.getElem_cons_zero] at this
 exact this
theorem tail1 {s : ByteArray} {a : UInt8} {r : List UInt8} (h : L s = a :: r) : s.extract 1 s.size = mk r := mk_eq (by rw [L_from, h]; rfl)
theorem size_cons {s : ByteArray} {a : UInt8} {r : List UInt8} (h : L s = a :: r) : s.size = r.length + 1 := by rw [size_L, h]; rfl
def ahd (l : List UInt8) : List UInt8 := l.drop (at0 l)
theorem ahd_white {c : UInt8} {r : List UInt8} (h : wh c = true) : ahd (c :: r) = ahd r := by
 unfold ahd at0
 rw [cnt_cons, if_pos h, List.drop_succ_cons, show cnt wh r + 1 + (if (r.drop (cnt wh r)).head? = some 118 then 1 else 0) = (cnt wh r + (if (r.drop (cnt wh r)).head? = some 118 then 1 else 0)) + 1 from by omega, List.drop_succ_cons]
theorem ahd_other {c : UInt8} {r : List UInt8} (h : wh c = false) : ahd (c :: r) = if c = 118 then r else c :: r := by
 unfold ahd at0
 rw [cnt_cons, if_neg (by rw [h]; simp), List.drop_zero]
 by_cases hc : c = 118
 ·rw [if_pos hc, if_pos (by rw [hc]; rfl)]; rfl
 ·rw [if_neg hc, if_neg (by simpa using hc)]; rfl
theorem ahead_ev (n : Nat) : ∀ s : ByteArray, (L s).length ≤ n → Ev (fun k => spec_verAhead.f k s) (mk (ahd (L s))) := by
 induction n with
 | zero =>
  intro s hn
  have h0 : L s = [] := List.eq_nil_of_length_eq_zero (by omega)
  unfold spec_verAhead.f
  refine Ev.step (fun k => spec_verAhead.l0.eq_2 ..) (ifp (by rw [toList_L, h0]) (now ?_))
  rw [h0]; exact mk_eq h0
 | succ n ih =>
  intro s hn
  unfold spec_verAhead.f
  refine Ev.step (fun k => spec_verAhead.l0.eq_2 ..) ?_
  cases h : L s with
  | nil =>
   refine ifp (by rw [toList_L, h]) (now ?_)
   exact mk_eq h
  | cons a r =>
   have hz := size_cons h
   refine ifn (by rw [toList_L, h]; simp) (ifp (by omega) ?_)
   rw [bt0 h, tail1 h]
   refine cbv (white_eq a) ?_
   by_cases hw : wh a = true
   ·refine ifp hw (ifp (by omega) ?_)
    rw [ahd_white hw]
    have := ih (mk r) (by rw [L_mk']; rw [h] at hn; simp at hn; omega)
    rw [L_mk'] at this
    exact this
   ·have hw : wh a = false := by simpa using hw
    refine ifn (by rw [hw]; simp) ?_
    rw [ahd_other hw]
    by_cases hv : a = 118
    ·rw [if_pos hv]
     exact ifp (by rw [hv]; rfl) (ifp (by omega) (now rfl))
    ·rw [if_neg hv]
     refine ifn (fun e => hv ((byte_eq (b := 118)).1 e)) (now ?_)
     rw [← h]; exact (mk_L s).symm
def fldL (l : List UInt8) : List ByteArray × ByteArray := if cnt dg l = 0 then ([], mk l) else ((spl 46 (l.take (run dg l))).map mk, mk (l.drop (run dg l)))
theorem fields_l1 (s : ByteArray) (hs : s.size < 4611686018427387904) (out : List ByteArray) (n : Nat) : ∀ (i : Nat) (r : List ByteArray × ByteArray), (L s).length - i = n → i ≤ (L s).length → Ev (fun k => spec_verFields.j2 k s out ((i + cnt dg ((L s).drop i) : Nat) : Int)) r →
  Ev (fun k => spec_verFields.l1 k s out i) r := by
 have hz := size_L s
 induction n with
 | zero =>
  intro i r hn hi h
  refine Ev.step (fun k => spec_verFields.l1.eq_2 ..) (ifn (by omega) ?_)
  rw [List.drop_eq_nil_of_le (by omega)] at h
  exact h
 | succ n ih =>
  intro i r hn hi h
  have hlt : i < (L s).length := by omega
  have hb := bt_L s i hlt
  have w1 : wrap64 ((i : Int) + 1) = ((i + 1 : Nat) : Int) := w64 (by omega) (by omega)
  refine Ev.step (fun k => spec_verFields.l1.eq_2 ..) (ifp (by omega) (ifp (by omega) ?_))
  rw [hb, w1]
  rw [List.drop_eq_getElem_cons hlt, cnt_cons] at h
  refine cbv (digit_eq _) ?_
  by_cases hw : dg (L s)[i] = true
  ·refine ifp hw ?_
   rw [if_pos hw, show i + (cnt dg ((L s).drop (i + 1)) + 1) = i + 1 + cnt dg ((L s).drop (i + 1)) from by omega] at h
   exact ih (i + 1) r (by omega) (by omega) h
  ·refine ifn hw ?_
   rw [if_neg hw] at h
   exact h
theorem cnt_mem (p : UInt8 → Bool) (l : List UInt8) : ∀ c ∈ l.take (cnt p l), p c = true := by
 induction l with
 | nil => intro c hc; simp at hc
 | cons a r ih =>
  intro c hc
  rw [cnt_cons] at hc
  split at hc
  ·rename_i ha
   rw [List.take_succ_cons] at hc
   rcases List.mem_cons.1 hc with rfl | hc
   ·exact ha
   ·exact ih c hc
  ·simp at hc
theorem fields_l0 (n : Nat) : ∀ (s : ByteArray) (out : List ByteArray), (L s).length ≤ n → s.size < 4611686018427387904 → out.length + (L s).length < 8796093022208 →
  Ev (fun k => spec_verFields.l0 k s out) (out ++ (fldL (L s)).1, (fldL (L s)).2) := by
 induction n with
 | zero =>
  intro s out hn hs ho
  have h0 : L s = [] := List.eq_nil_of_length_eq_zero (by omega)
  refine Ev.step (fun k => spec_verFields.l0.eq_2 ..) ?_
  refine fields_l1 s hs out _ 0 _ rfl (by omega) ?_
  refine Ev.step (fun k => spec_verFields.j2.eq_2 ..) (ifp (by rw [h0]; rfl) (now ?_))
  rw [h0]
  show _ = (out ++ [], mk [])
  rw [List.append_nil, mk_eq h0]
 | succ n ih =>
  intro s out hn hs ho
  have hz := size_L s
  refine Ev.step (fun k => spec_verFields.l0.eq_2 ..) ?_
  refine fields_l1 s hs out _ 0 _ rfl (by omega) ?_
  rw [List.drop_zero, Nat.zero_add]
  refine Ev.step (fun k => spec_verFields.j2.eq_2 ..) ?_
  have hle := cnt_le dg (L s)
  by_cases h0 : cnt dg (L s) = 0
  ·refine ifp (by omega) (now ?_)
   unfold fldL
   rw [if_pos h0, List.append_nil, mk_L]
  refine ifn (by omega) (ifp (by omega) (ifp (by omega) (ifp (by omega) ?_)))
  refine cbv rfl ?_
  have hr := run_cnt dg (L s)
  have hd := cnt_drop dg (L s)
  have hm := cnt_mem dg (L s)
  obtain ⟨j, hj⟩ : ∃ j, cnt dg (L s) = j := ⟨_, rfl⟩
  rw [hj] at hr hd hm hle h0
  simp only [hj]
  have e1 : s.extract 0 ((j : Int)).toNat = mk ((L s).take j) := mk_eq (by rw [Int.toNat_natCast, L_upto])
  have e2 : s.extract ((j : Int)).toNat s.size = mk ((L s).drop j) := mk_eq (by rw [Int.toNat_natCast, L_from])
  rw [e1, e2]
  have h46 : (46 : UInt8) ∉ (L s).take j := fun h => by have := hm _ h; rw [dg_46] at this; cases this
  have stay : run dg ((L s).drop j) = 0 → (out ++ [mk ((L s).take j)], mk ((L s).drop j)) = (out ++ (fldL (L s)).1, (fldL (L s)).2) := by
   intro h1
   unfold fldL
   rw [hj, if_neg h0, hr, h1, Nat.add_zero, spl_none h46]; rfl
  cases hq : (L s).drop j with
  | nil =>
   refine ifp (by rw [size_L, L_mk']; simp) (now ?_)
   rw [← hq]
   exact stay (by rw [hq]; rfl)
  | cons a r =>
   rw [hq, cnt_cons] at hd
   have ha : ¬ dg a = true := by intro h; rw [if_pos h] at hd; omega
   have hlm : L (mk (a :: r)) = a :: r := L_mk' _
   have hsz := size_cons hlm
   rw [bt0 hlm]
   cases r with
   | nil =>
    refine ifp (by rw [hsz]; simp) (now ?_)
    rw [← hq]
    exact stay (by rw [hq, run_cons, if_neg ha, if_neg (fun h => h.2 rfl)])
   | cons b t =>
    rw [List.length_cons] at hsz
    refine ifn (by omega) (ifp (by omega) ?_)
    by_cases h1 : a = 46
    ·refine ifp (by rw [h1]; rfl) (ifp (by omega) ?_)
     have hb : bt (mk (a :: b :: t)) 1 = (b.toNat : Int) := by
      have := bt_L (mk (a :: b :: t)) 1 (by rw [L_mk']; simp)
      simp only [L_mk'] at this
      exact this
     rw [hb, tail1 hlm]
     refine cbv (digit_eq b) ?_
     by_cases h2 : dg b = true
     ·have hc : cnt dg (b :: t) ≠ 0 := by rw [cnt_cons, if_pos h2]; omega
      refine ifp h2 (ifp (by omega) ?_)
      have hl2 : (L s).length = j + (t.length + 2) := by
       have := congrArg List.length hq
       rw [List.length_drop, List.length_cons, List.length_cons] at this
       omega
      have nx := ih (mk (b :: t)) (out ++ [mk ((L s).take j)]) (by rw [L_mk']; simp; omega) (by rw [size_L, L_mk']; simp; omega) (by rw [L_mk']; simp; omega)
      rw [L_mk'] at nx
      have e3 : run dg (L s) = j + (run dg (b :: t) + 1) := by rw [hr, hq, run_cons, if_neg ha, if_pos ⟨h1, hc⟩]
      have e4 : (fldL (L s)) = (mk ((L s).take j) :: (fldL (b :: t)).1, (fldL (b :: t)).2) := by
       unfold fldL
       rw [hj, if_neg h0, if_neg hc, e3]
       have f1 : (L s).take (j + (run dg (b :: t) + 1)) = (L s).take j ++ 46 :: (b :: t).take (run dg (b :: t)) := by
        rw [List.take_add, hq, List.take_succ_cons, h1]
       have f2 : (L s).drop (j + (run dg (b :: t) + 1)) = (b :: t).drop (run dg (b :: t)) := by
        rw [← List.drop_drop, hq, List.drop_succ_cons]
       rw [f1, f2, spl_app, spl_none h46]; rfl
      rw [e4]
      rw [show out ++ mk ((L s).take j) :: (fldL (b :: t)).1 = (out ++ [mk ((L s).take j)]) ++ (fldL (b :: t)).1 from by simp]
      exact nx
     ·refine ifn h2 (now ?_)
      rw [← hq]
      exact stay (by rw [hq, run_cons, if_neg ha, if_neg (fun h => h.2 (by rw [cnt_cons, if_neg h2]))])
    ·refine ifn (fun e => h1 ((byte_eq (b := 46)).1 e)) (now ?_)
     rw [← hq]
     exact stay (by rw [hq, run_cons, if_neg ha, if_neg (fun h => h1 h.1)])
theorem fields_ev (s : ByteArray) (hs : s.size < 4398046511104) : Ev (fun k => spec_verFields.f k s) (fldL (L s)) := by
 have hz := size_L s
 have := fields_l0 _ s [] (Nat.le_refl _) (by omega) (by simp; omega)
 exact this
theorem place_l0 (s : ByteArray) (c : UInt8) (hs : s.size < 4611686018427387904) (n : Nat) : ∀ i : Nat, (L s).length - i = n → i ≤ (L s).length →
  Ev (fun k => spec_verPlace.l0 k s (c.toNat : Int) i) (if place ((L s).drop i) c = -1 then -1 else i + place ((L s).drop i) c) := by
 have hz := size_L s
 induction n with
 | zero =>
  intro i hn hi
  refine Ev.step (fun k => spec_verPlace.l0.eq_2 ..) (ifn (by omega) (now ?_))
  rw [List.drop_eq_nil_of_le (by omega), place_neg (by simp), if_pos rfl]
 | succ n ih =>
  intro i hn hi
  have hlt : i < (L s).length := by omega
  refine Ev.step (fun k => spec_verPlace.l0.eq_2 ..) (ifp (by omega) (ifp (by omega) ?_))
  rw [bt_L s i hlt, w64 (x := (i : Int) + 1) (by omega) (by omega), List.drop_eq_getElem_cons hlt, place_cons]
  by_cases h : (L s)[i] = c
  ·refine ifp (byte_eq.2 h) (now ?_)
   rw [if_pos h, if_neg (by omega)]; omega
  ·refine ifn (fun e => h (byte_eq.1 e)) ?_
   have := ih (i + 1) (by omega) (by omega)
   rw [if_neg h]
   rw [place_shift i _ (place_ge _ _)]
   exact this
theorem place_ev (s : ByteArray) (c : UInt8) (hs : s.size < 4611686018427387904) : Ev (fun k => spec_verPlace.f k s (c.toNat : Int)) (place (L s) c) := by
 unfold spec_verPlace.f
 have := place_l0 s c hs _ 0 rfl (by omega)
 simp only [List.drop_zero] at this
 have e : (if place (L s) c = -1 then (-1 : Int) else ((0 : Nat) : Int) + place (L s) c) = place (L s) c := by split <;> simp_all
 rw [e] at this
 exact this
def lng : Nat → List UInt8 → Bool
 | _, [] => false
 | n, c :: r => if dg c = true then (if 20 ≤ n + 1 then true else lng (n + 1) r) else lng 0 r
theorem long_l0 (s : ByteArray) (hs : s.size < 4611686018427387904) (n : Nat) : ∀ (i m : Nat), (L s).length - i = n → i ≤ (L s).length → m ≤ i →
  Ev (fun k => spec_VerLong.l0 k s m i) (lng m ((L s).drop i)) := by
 have hz := size_L s
 induction n with
 | zero =>
  intro i m hn hi hm
  refine Ev.step (fun k => spec_VerLong.l0.eq_2 ..) (ifn (by omega) (now ?_))
  rw [List.drop_eq_nil_of_le (by omega)]; rfl
 | succ n ih =>
  intro i m hn hi hm
  have hlt : i < (L s).length := by omega
  have w1 : wrap64 ((i : Int) + 1) = ((i + 1 : Nat) : Int) := w64 (by omega) (by omega)
  have w2 : wrap64 ((m : Int) + 1) = ((m + 1 : Nat) : Int) := w64 (by omega) (by omega)
  refine Ev.step (fun k => spec_VerLong.l0.eq_2 ..) (ifp (by omega) (ifp (by omega) ?_))
  rw [bt_L s i hlt, w1, w2, List.drop_eq_getElem_cons hlt]
  refine cbv (digit_eq _) ?_
  show Ev _ (if dg (L s)[i] = true then (if 20 ≤ m + 1 then true else lng (m + 1) ((L s).drop (i + 1))) else lng 0 ((L s).drop (i + 1)))
  by_cases hd : dg (L s)[i] = true
  ·refine ifp hd ?_
   rw [if_pos hd]
   by_cases h2 : 20 ≤ m + 1
   ·rw [if_pos h2]; exact ifp (by omega) (now rfl)
   ·rw [if_neg h2]; exact ifn (by omega) (ih (i + 1) (m + 1) (by omega) (by omega) (by omega))
  ·refine ifn hd (ifn (by omega) ?_)
   rw [if_neg hd]
   exact ih (i + 1) 0 (by omega) (by omega) (by omega)
theorem long_ev (s : ByteArray) (hs : s.size < 4611686018427387904) : Ev (fun k => spec_VerLong.f k s) (lng 0 (L s)) := long_l0 s hs _ 0 0 rfl (by omega) (by omega)
theorem lng_mono {n m : Nat} (h : n ≤ m) {l : List UInt8} (hl : lng m l = false) : lng n l = false := by
 induction l generalizing n m with
 | nil => rfl
 | cons c r ih =>
  unfold lng at hl ⊢
  split at hl
  ·rename_i hc
   split at hl
   ·cases hl
   ·rw [if_pos hc, if_neg (by omega)]; exact ih (by omega) hl
  ·rename_i hc; rw [if_neg hc]; exact hl
theorem lng_run {n : Nat} {b r : List UInt8} (hb : ∀ c ∈ b, dg c = true) (h : lng n (b ++ r) = false) (hn : n < 20) : n + b.length < 20 := by
 induction b generalizing n with
 | nil => simpa using hn
 | cons c b ih =>
  rw [List.cons_append] at h
  unfold lng at h
  rw [if_pos (hb c (by simp))] at h
  split at h
  ·cases h
  ·have := ih (fun x hx => hb x (by simp [hx])) h (by omega)
   rw [List.length_cons]; omega
theorem lng_sub {a b r : List UInt8} (hb : ∀ c ∈ b, dg c = true) {n : Nat} (h : lng n (a ++ (b ++ r)) = false) : b.length < 20 := by
 induction a generalizing n with
 | nil =>
  have := lng_run (n := 0) hb (lng_mono (Nat.zero_le n) h) (by omega)
  omega
 | cons c a ih =>
  rw [List.cons_append] at h
  unfold lng at h
  split at h
  ·split at h
   ·cases h
   ·exact ih h
  ·exact ih h
end Go.Proofs.YtmfgkidppchobaaDoor.VerTXFnVersionCompare


set_option linter.unusedSimpArgs false
set_option linter.unusedVariables false
namespace Go.Proofs.YtmfgkidppchobaaDoor.VerUXFnVersionCompare
open Go.RowKit Go.Proofs.YtmfgkidppchobaaDoorW.PrintWords Go.Proofs.YtmfgkidppchobaaDoorW.PrintLast Go.Proofs.YtmfgkidppchobaaDoor.XFnVersionCompare Go.Proofs.YtmfgkidppchobaaDoor.EvL Go.Proofs.YtmfgkidppchobaaDoor.Str Go.Proofs.YtmfgkidppchobaaDoor.VerP Go.Proofs.YtmfgkidppchobaaDoor.VerQ Go.Proofs.YtmfgkidppchobaaDoor.VerR Go.Proofs.YtmfgkidppchobaaDoor.Ver1 Go.Proofs.YtmfgkidppchobaaDoor.Ver3 Go.Proofs.YtmfgkidppchobaaDoor.Ver4 Go.Proofs.YtmfgkidppchobaaDoor.Ver5 Go.Proofs.YtmfgkidppchobaaDoor.Ver6 Go.Proofs.YtmfgkidppchobaaDoor.VerTXFnVersionCompare
theorem u64w (x : Int) : IntKind.u64.wrap x = x % 18446744073709551616 := IntKind.wrap_u64 x
def uint (M : Nat) : Nat → List UInt8 → Option Nat
 | n, [] => some n
 | n, c :: r => if dg c = true then (if n > (M - (c.toNat - 48)) / 10 then none else uint M (10 * n + (c.toNat - 48)) r) else none
abbrev MX : Nat := 18446744073709551615
theorem uint_cons (M n : Nat) (c : UInt8) (r : List UInt8) : uint M n (c :: r) = if dg c = true then (if n > (M - (c.toNat - 48)) / 10 then none else uint M (10 * n + (c.toNat - 48)) r) else none := rfl
theorem uint_pum : ∀ (l : List UInt8) (n : Nat), n ≤ 18446744073709551615 → uint MX n l = (match Lib.parseUintM 18446744073709551615 n l with | .ok u => some u | _ => none)
 | [], n, _ => rfl
 | c :: r, n, hn => by
  rw [uint_cons]
  simp only [Lib.parseUintM]
  unfold dg
  by_cases hd : 48 ≤ c.toNat ∧ c.toNat ≤ 57
  ·rw [if_pos (decide_eq_true hd), if_pos hd]
   by_cases h1 : n > (18446744073709551615 - (c.toNat - 48)) / 10
   ·rw [if_pos h1]
    by_cases h2 : 18446744073709551616 ≤ n * 10
    ·rw [if_pos (by omega)]
    ·rw [if_neg (by omega), if_pos (by omega)]
   ·rw [if_neg h1, if_neg (by omega), if_neg (by omega), show n * 10 + (c.toNat - 48) = 10 * n + (c.toNat - 48) from by omega]
    exact uint_pum r _ (by omega)
  ·rw [if_neg (by rw [decide_eq_true_eq]; exact hd), if_neg hd]
theorem numU_uint (s : ByteArray) : numU s = if L s = [] then none else uint MX 0 (L s) := by
 unfold numU Lib.parseUintB
 rw [show s.data.toList = L s from rfl]
 by_cases h : L s = []
 ·rw [if_pos h, if_pos h]
 ·rw [if_neg h, if_neg h, uint_pum _ _ (by omega)]; rfl
def uPair : Option Nat → Int × Bool
 | some u => ((u : Int), true)
 | none => (0, false)
theorem uint_l0 (s : ByteArray) (hs : s.size < 4611686018427387904) (n : Nat) : ∀ (i m : Nat), (L s).length - i = n → i ≤ (L s).length → m ≤ 18446744073709551615 → (L s = [] → m = 0) →
  Ev (fun k => spec_VerUint.l0 k s m i) (if L s = [] then (0, false) else uPair (uint MX m ((L s).drop i))) := by
 have hz := size_L s
 induction n with
 | zero =>
  intro i m hn hi hm h0
  refine Ev.step (fun k => spec_VerUint.l0.eq_2 ..) (ifn (by omega) (now ?_))
  rw [List.drop_eq_nil_of_le (by omega), toList_L]
  by_cases h : L s = []
  ·rw [if_pos h, h0 h, h]; rfl
  ·rw [if_neg h, bne_iff_ne.2 h]; rfl
 | succ n ih =>
  intro i m hn hi hm h0
  have hlt : i < (L s).length := by omega
  have hne : L s ≠ [] := fun e => by rw [e] at hlt; simp at hlt
  have w1 : wrap64 ((i : Int) + 1) = ((i + 1 : Nat) : Int) := w64 (by omega) (by omega)
  refine Ev.step (fun k => spec_VerUint.l0.eq_2 ..) (ifp (by omega) (ifp (by omega) ?_))
  rw [bt_L s i hlt, w1, List.drop_eq_getElem_cons hlt, if_neg hne]
  obtain ⟨c, hc⟩ : ∃ c, (L s)[i] = c := ⟨_, rfl⟩
  rw [hc]
  refine cbv (digit_eq c) ?_
  rw [uint_cons]
  by_cases hd : dg c = true
  ·have hd2 : 48 ≤ c.toNat ∧ c.toNat ≤ 57 := by unfold dg at hd; exact of_decide_eq_true hd
   refine ifp hd ?_
   rw [if_pos hd]
   have e1 : (((c.toNat : Int) - 48) % 256) = ((c.toNat - 48 : Nat) : Int) := by omega
   rw [e1]
   by_cases h2 : m > (18446744073709551615 - (c.toNat - 48)) / 10
   ·rw [if_pos h2]
    exact ifp (by omega) (now rfl)
   ·rw [if_neg h2]
    refine ifn (by omega) ?_
    have e2 : IntKind.u64.wrap (IntKind.u64.wrap (10 * (m : Int)) + ((c.toNat - 48 : Nat) : Int)) = ((10 * m + (c.toNat - 48) : Nat) : Int) := by
     have u1 : IntKind.u64.wrap (10 * (m : Int)) = 10 * (m : Int) := by rw [u64w]; omega
     rw [u1, u64w]; omega
    rw [e2]
    have := ih (i + 1) (10 * m + (c.toNat - 48)) (by omega) (by omega) (by omega) (fun e => absurd e hne)
    rw [if_neg hne] at this
    exact this
  ·rw [if_neg hd]
   exact ifn hd (now rfl)
theorem uint_ev (s : ByteArray) (hs : s.size < 4611686018427387904) : Ev (fun k => spec_VerUint.f k s) (uPair (numU s)) := by
 have := uint_l0 s hs _ 0 0 rfl (by omega) (by omega) (fun _ => rfl)
 rw [numU_uint]
 unfold spec_VerUint.f
 by_cases h : L s = []
 ·rw [if_pos h] at this ⊢; exact this
 ·rw [if_neg h] at this ⊢; exact this
def plain (l : List UInt8) : Bool := match l with
 | [] => false
 | [_] => true
 | c :: _ => c != 48
theorem plain_eq (s : ByteArray) : spec_VerPlainly.f s = some (plain (L s)) := by
 have hz := size_L s
 unfold spec_VerPlainly.f
 cases h : L s with
 | nil =>
  rw [h] at hz
  rw [if_neg (by rw [hz]; simp), if_pos (by rw [toList_L, h])]; rfl
 | cons c r =>
  rw [h, List.length_cons] at hz
  cases r with
  | nil => rw [if_pos (by rw [hz]; rfl)]; rfl
  | cons d r =>
   rw [List.length_cons] at hz
   rw [if_neg (by omega), if_neg (by rw [toList_L, h]; simp), if_pos (by omega), bt0 h]
   show some ((c.toNat : Int) != 48) = some (c != 48)
   congr 1
   by_cases hc : c = 48
   ·rw [hc]; rfl
   ·rw [bne_iff_ne.2 hc]; exact bne_iff_ne.2 (fun e => hc ((byte_eq (b := 48)).1 e))
theorem plain_bad {s : ByteArray} (h : L s ≠ []) : bad0 s = !plain (L s) := by
 unfold bad0
 rw [show s.data.toList = L s from rfl, toList_L]
 cases hq : L s with
 | nil => exact absurd hq h
 | cons c r =>
  have e1 : Lib.hasPrefix (c :: r) [48] = ((48 : UInt8) == c) := by
   show ((48 : UInt8) == c && true) = _
   rw [Bool.and_true]
  rw [e1]
  cases r with
  | nil =>
   show ((48 : UInt8) == c && !([c] == [48])) = !true
   by_cases hc : c = 48
   ·rw [hc]; rfl
   ·rw [beq_eq_false_iff_ne.2 (fun e => hc e.symm)]; rfl
  | cons d r =>
   show ((48 : UInt8) == c && !((c :: d :: r) == [48])) = !(c != 48)
   have : ((c :: d :: r) == [(48 : UInt8)]) = false := beq_eq_false_iff_ne.2 (by simp)
   rw [this]
   by_cases hc : c = 48
   ·rw [hc]; rfl
   ·rw [beq_eq_false_iff_ne.2 (fun e => hc e.symm), bne_iff_ne.2 hc]; rfl
theorem rdOf_nat (l : List ByteArray) (k : Nat) (h : k < l.length) : rdOf ByteArray.empty l (k : Int) = l[k] := by
 unfold rdOf
 rw [Int.toNat_natCast, List.getD_eq_getElem?_getD, List.getElem?_eq_getElem h]; rfl
def nums : List ByteArray → Option (List Int)
 | [] => some []
 | c :: cs => (numU c).bind fun u => (nums cs).map fun ns => (u : Int) :: ns
theorem nums_cons (c : ByteArray) (cs : List ByteArray) : nums (c :: cs) = (numU c).bind fun u => (nums cs).map fun ns => (u : Int) :: ns := rfl
abbrev PW := List Int × Bool × ByteArray × ByteArray × Bool × Bool
def noneW (asked : Bool) : PW := ([], false, ⟨#[]⟩, ⟨#[]⟩, false, asked)
theorem gen_l0 (l : List ByteArray) (hl : l.length ≤ 4294967296) (hs : ∀ c ∈ l, c.size < 4611686018427387904) (n : Nat) : ∀ (i : Nat) (acc : List Int), l.length - i = n → i ≤ l.length → acc.length = i →
  Ev (fun k => spec_VerGeneric.l0 k l i acc false ⟨#[]⟩ ⟨#[]⟩) (match nums (l.drop i) with | some ns => (acc ++ ns, false, ⟨#[]⟩, ⟨#[]⟩, true, true) | none => noneW true) := by
 induction n with
 | zero =>
  intro i acc hn hi ha
  refine Ev.step (fun k => spec_VerGeneric.l0.eq_2 ..) (ifn (by omega) (now ?_))
  rw [List.drop_eq_nil_of_le (by omega)]
  show _ = (acc ++ [], false, _, _, true, true)
  rw [List.append_nil]
 | succ n ih =>
  intro i acc hn hi ha
  have hlt : i < l.length := by omega
  have w1 : wrap64 ((i : Int) + 1) = ((i + 1 : Nat) : Int) := w64 (by omega) (by omega)
  refine Ev.step (fun k => spec_VerGeneric.l0.eq_2 ..) (ifp (by omega) (ifp (by omega) ?_))
  rw [rdOf_nat l i hlt, w1, List.drop_eq_getElem_cons hlt, nums_cons]
  refine (uint_ev l[i] (hs _ (List.getElem_mem hlt))).bind ?_
  cases hu : numU l[i] with
  | none => exact ifn (by simp [uPair]) (now rfl)
  | some u =>
   refine ifp rfl (ifp (by omega) ?_)
   have := ih (i + 1) (acc ++ [(u : Int)]) (by omega) (by omega) (by simp [ha])
   cases hq : nums (l.drop (i + 1)) with
   | none => rw [hq] at this; exact this
   | some ns =>
    rw [hq] at this
    have e : acc ++ (u : Int) :: ns = (acc ++ [(u : Int)]) ++ ns := by simp
    show Ev _ (acc ++ (u : Int) :: ns, false, (⟨#[]⟩ : ByteArray), (⟨#[]⟩ : ByteArray), true, true)
    rw [e]
    exact this
def genW (s : ByteArray) : PW :=
 if 10 ∈ L (fldL (ahd (L s))).2 then noneW false
 else match parseL false s with
  | some (ns, _, _) => (ns, false, ⟨#[]⟩, ⟨#[]⟩, true, true)
  | none => noneW true
theorem verL_fld (s : ByteArray) : verL s = if (fldL (ahd (L s))).1 = [] then [] else if 10 ∈ L (fldL (ahd (L s))).2 then [] else [s, mk ((ahd (L s)).take (run dg (ahd (L s)))), (fldL (ahd (L s))).2] := by
 unfold verL ahd
 obtain ⟨i, hi⟩ : ∃ i, at0 (L s) = i := ⟨_, rfl⟩
 rw [hi]
 unfold fldL
 by_cases h0 : cnt dg ((L s).drop i) = 0
 ·rw [if_pos h0, if_pos h0, if_pos rfl]
 ·rw [if_neg h0, if_neg h0]
  have hne : ¬ ((spl 46 (((L s).drop i).take (run dg ((L s).drop i)))).map mk) = [] := fun h => spl_ne _ _ (List.map_eq_nil_iff.1 h)
  simp only [L_mk', List.drop_drop]
  rw [if_neg hne]
  by_cases h1 : 10 ∈ (L s).drop (i + run dg ((L s).drop i))
  ·rw [if_pos h1, if_pos h1]
  ·rw [if_neg h1, if_neg h1]
   congr 2
   ·exact mk_eq (by rw [L_extract]; rw [show i + run dg ((L s).drop i) - i = run dg ((L s).drop i) from by omega])
   ·congr 1
    exact mk_eq (by rw [L_from])
theorem pieces_fld (s : ByteArray) (h : (fldL (ahd (L s))).1 ≠ []) : pieces (mk ((ahd (L s)).take (run dg (ahd (L s))))) = (fldL (ahd (L s))).1 := by
 unfold fldL at h ⊢
 by_cases h0 : cnt dg (ahd (L s)) = 0
 ·rw [if_pos h0] at h; exact absurd rfl h
 ·rw [if_neg h0]; unfold pieces; rw [L_mk']
theorem comps_nums (cs : List ByteArray) : compsP false false cs = nums cs := by
 induction cs with
 | nil => rfl
 | cons c cs ih =>
  show (compP false false c).bind _ = _
  rw [nums_cons, ih]
  unfold compP
  rw [if_neg (by simp)]
  cases numU c with
  | none => rfl
  | some u => rfl
theorem comps_first (c : ByteArray) (cs : List ByteArray) : compsP false true (c :: cs) = if bad0 c = true then none else nums (c :: cs) := by
 show (compP false true c).bind _ = _
 rw [comps_nums, nums_cons]
 unfold compP
 by_cases h : bad0 c = true
 ·rw [if_pos h, if_pos (by rw [h]; rfl)]; rfl
 ·rw [if_neg h, if_neg (by simpa using h)]
  cases numU c with
  | none => rfl
  | some u => rfl
theorem fld_first {l : List UInt8} {c : ByteArray} {cs : List ByteArray} (h : (fldL l).1 = c :: cs) : L c ≠ [] := by
 unfold fldL at h
 split at h
 ·cases h
 ·rename_i h0
  intro e
  cases l with
  | nil => exact h0 rfl
  | cons a r =>
   have ha : dg a = true := by
    rw [cnt_cons] at h0
    split at h0
    ·assumption
    ·exact absurd rfl h0
   have e1 : run dg (a :: r) = run dg r + 1 := by rw [run_cons, if_pos ha]
   rw [e1, List.take_succ_cons, spl_cons, if_neg (by intro h46; rw [h46, dg_46] at ha; cases ha)] at h
   cases hq : spl 46 (r.take (run dg r)) with
   | nil => exact absurd hq (spl_ne _ _)
   | cons y t =>
    rw [hq] at h
    injection h with h1 _
    rw [← h1, L_mk'] at e
    cases e
theorem fld_sizes (l : List UInt8) (hl : l.length ≤ 2147483648) : (fldL l).1.length ≤ 4294967296 ∧ (∀ c ∈ (fldL l).1, c.size ≤ 2147483648) ∧ (fldL l).2.size ≤ 2147483648 := by
 unfold fldL
 split
 ·exact ⟨by simp, by simp, by rw [size_L, L_mk']; exact hl⟩
 ·refine ⟨?_, ?_, ?_⟩
  ·rw [List.length_map]
   have := spl_len 46 (l.take (run dg l))
   rw [List.length_take] at this
   omega
  ·intro c hc
   obtain ⟨x, hx, rfl⟩ := List.mem_map.1 hc
   have := (spl_mem hx).1
   rw [List.length_take] at this
   rw [size_L, L_mk']; omega
  ·rw [size_L, L_mk', List.length_drop]; omega
theorem ahd_len (l : List UInt8) : (ahd l).length ≤ l.length := by unfold ahd; rw [List.length_drop]; omega
theorem place10 (s : ByteArray) (h : 10 ∈ L s) : ¬ place (L s) 10 = -1 ∧ 0 ≤ place (L s) 10 := by
 unfold place
 rw [if_pos h]
 omega
theorem generic_ev (s : ByteArray) (hs : s.size ≤ 2147483647) : Ev (fun k => spec_VerGeneric.f k s) (genW s) := by
 have hz := size_L s
 have ha := ahd_len (L s)
 obtain ⟨f1, f2, f3⟩ := fld_sizes (ahd (L s)) (by omega)
 unfold spec_VerGeneric.f
 refine (ahead_ev _ s (Nat.le_refl _)).bind ((fields_ev (mk (ahd (L s))) (by rw [size_L, L_mk']; omega)).bind ?_)
 rw [L_mk']
 unfold genW
 have hv := verL_fld s
 have hp := pieces_fld s
 obtain ⟨F, hF⟩ : ∃ F, fldL (ahd (L s)) = F := ⟨_, rfl⟩
 rw [hF] at f1 f2 f3 hv hp ⊢
 refine (place_ev F.2 10 (by omega)).bind ?_
 by_cases hn : 10 ∈ L F.2
 ·rw [if_pos hn]
  exact ifp (place10 _ hn).2 (now rfl)
 rw [if_neg hn]
 refine ifn (by rw [place_neg hn]; omega) ?_
 unfold parseL
 rw [hv, if_neg hn]
 have step : ∀ (b : Bool), b = true → Ev (fun k => spec_VerGeneric.j0 k F.1 b false ⟨#[]⟩ ⟨#[]⟩) (noneW true) := fun b hb => Ev.step (fun k => spec_VerGeneric.j0.eq_2 ..) (ifp hb (now rfl))
 cases hc : F.1 with
 | nil =>
  rw [if_pos rfl, if_pos rfl]
  refine ifp (by simp) ?_
  rw [← hc]
  exact step true rfl
 | cons c cs =>
  rw [if_neg (by simp), if_neg (by simp), rd1, rd2, hp (by rw [hc]; simp), hc]
  have hcne : L c ≠ [] := fld_first (l := ahd (L s)) (by rw [hF]; exact hc)
  unfold restL
  rw [if_pos rfl]
  by_cases h2 : (c :: cs).length < 2
  ·rw [if_pos h2]
   refine ifp (by omega) ?_
   rw [← hc]
   exact step true rfl
  ·rw [if_neg h2, comps_first]
   refine ifn (by omega) (ifp (by omega) ?_)
   rw [show rdOf ByteArray.empty (c :: cs) 0 = c from rfl]
   refine cbv (plain_eq c) ?_
   rw [plain_bad hcne]
   by_cases h3 : plain (L c) = true
   ·rw [h3, if_neg (by simp)]
    refine Ev.step (fun k => spec_VerGeneric.j0.eq_2 ..) (ifn (by simp) ?_)
    have := gen_l0 F.1 f1 (fun x hx => by have := f2 x hx; omega) _ 0 [] rfl (by omega) rfl
    rw [List.drop_zero, hc] at this
    cases hq : nums (c :: cs) with
    | none => rw [hq] at this; exact this
    | some ns => rw [hq] at this; exact this
   ·have h3 : plain (L c) = false := by simpa using h3
    rw [h3, if_pos (show (!false) = true from rfl)]
    rw [← hc]
    exact step _ rfl
end Go.Proofs.YtmfgkidppchobaaDoor.VerUXFnVersionCompare


set_option linter.unusedSimpArgs false
set_option linter.unusedVariables false
namespace Go.Proofs.YtmfgkidppchobaaDoor.VerVXFnVersionCompare
open Go.RowKit Go.Proofs.YtmfgkidppchobaaDoorW.PrintWords Go.Proofs.YtmfgkidppchobaaDoorW.PrintLast Go.Proofs.YtmfgkidppchobaaDoor.XFnVersionCompare Go.Proofs.YtmfgkidppchobaaDoor.EvL Go.Proofs.YtmfgkidppchobaaDoor.Str Go.Proofs.YtmfgkidppchobaaDoor.VerP Go.Proofs.YtmfgkidppchobaaDoor.VerQ Go.Proofs.YtmfgkidppchobaaDoor.VerR Go.Proofs.YtmfgkidppchobaaDoor.Ver1 Go.Proofs.YtmfgkidppchobaaDoor.Ver3 Go.Proofs.YtmfgkidppchobaaDoor.Ver4 Go.Proofs.YtmfgkidppchobaaDoor.Ver5 Go.Proofs.YtmfgkidppchobaaDoor.Ver6 Go.Proofs.YtmfgkidppchobaaDoor.VerTXFnVersionCompare Go.Proofs.YtmfgkidppchobaaDoor.VerUXFnVersionCompare
def gd (p : UInt8 → Bool) (x : List UInt8) : Prop := x ≠ [] ∧ ∀ c ∈ x, p c = true
theorem spl_h (p : UInt8 → Bool) (hp : p 46 = false) (l : List UInt8) : ∃ h t, spl 46 l = h :: t ∧ (((∀ c ∈ h, p c = true) ∧ ∀ x ∈ t, gd p x) ↔ run p l = l.length) ∧ (h ≠ [] ∧ (∀ c ∈ h, p c = true) → cnt p l ≠ 0) ∧ (cnt p l ≠ 0 → h ≠ []) := by
 induction l with
 | nil => exact ⟨[], [], rfl, by simp [run], fun h => absurd rfl h.1, fun h => absurd rfl h⟩
 | cons a r ih =>
  obtain ⟨h, t, e, ih1, ih2, ih3⟩ := ih
  by_cases ha : a = 46
  ·refine ⟨[], h :: t, by rw [spl_cons, if_pos ha, e], ?_, fun hh => absurd rfl hh.1, fun hc => ?_⟩
   ·rw [run_cons, if_neg (by rw [ha, hp]; simp), List.length_cons]
    constructor
    ·rintro ⟨_, h2⟩
     have g1 := h2 h (by simp)
     have g2 := ih1.1 ⟨g1.2, fun x hx => h2 x (by simp [hx])⟩
     rw [if_pos ⟨ha, ih2 g1⟩, g2]
    ·intro h2
     split at h2
     ·rename_i h3
      have g2 := ih1.2 (by omega)
      refine ⟨by simp, fun x hx => ?_⟩
      rcases List.mem_cons.1 hx with rfl | hx
      ·exact ⟨ih3 h3.2, g2.1⟩
      ·exact g2.2 x hx
     ·omega
   ·rw [cnt_cons, if_neg (by rw [ha, hp]; simp)] at hc; exact absurd rfl hc
  ·refine ⟨a :: h, t, by rw [spl_cons, if_neg ha, e], ?_, ?_, fun _ => by simp⟩
   ·rw [run_cons, List.length_cons]
    constructor
    ·rintro ⟨h1, h2⟩
     rw [if_pos (h1 a (by simp)), ih1.1 ⟨fun c hc => h1 c (by simp [hc]), h2⟩]
    ·intro h2
     split at h2
     ·rename_i h3
      have g2 := ih1.2 (by omega)
      refine ⟨fun c hc => ?_, g2.2⟩
      rcases List.mem_cons.1 hc with rfl | hc
      ·exact h3
      ·exact g2.1 c hc
     ·rw [if_neg (fun hh => ha hh.1)] at h2; omega
   ·rintro ⟨_, h2⟩
    rw [cnt_cons, if_pos (h2 a (by simp))]; omega
theorem spl_good (p : UInt8 → Bool) (hp : p 46 = false) (l : List UInt8) : (∀ x ∈ spl 46 l, gd p x) ↔ (cnt p l ≠ 0 ∧ run p l = l.length) := by
 obtain ⟨h, t, e, h1, h2, h3⟩ := spl_h p hp l
 rw [e]
 constructor
 ·intro g
  have g1 := g h (by simp)
  exact ⟨h2 g1, h1.1 ⟨g1.2, fun x hx => g x (by simp [hx])⟩⟩
 ·rintro ⟨g1, g2⟩ x hx
  have g3 := h1.2 g2
  rcases List.mem_cons.1 hx with rfl | hx
  ·exact ⟨h3 g1, g3.1⟩
  ·exact g3.2 x hx
theorem ids_wd (l : List UInt8) : (∀ x ∈ spl 46 l, gd wd x) ↔ (l ≠ [] ∧ Wd l) := by
 rw [spl_good wd wd_46]
 constructor
 ·rintro ⟨h1, h2⟩
  refine ⟨fun e => by rw [e] at h1; exact h1 rfl, fun _ => ?_⟩
  unfold wlen; rw [if_neg h1, h2]
 ·rintro ⟨h1, h2⟩; exact wd_of h2 h1
def numeric (l : List UInt8) : Bool := !l.isEmpty && l.all dg
theorem numeric_l0 (s : ByteArray) (hs : s.size < 4611686018427387904) (n : Nat) : ∀ i : Nat, (L s).length - i = n → i ≤ (L s).length →
  Ev (fun k => spec_VerNumeric.l0 k s i) (!(L s).isEmpty && ((L s).drop i).all dg) := by
 have hz := size_L s
 induction n with
 | zero =>
  intro i hn hi
  refine Ev.step (fun k => spec_VerNumeric.l0.eq_2 ..) (ifn (by omega) (now ?_))
  rw [List.drop_eq_nil_of_le (by omega), toList_L]
  cases L s <;> rfl
 | succ n ih =>
  intro i hn hi
  have hlt : i < (L s).length := by omega
  have w1 : wrap64 ((i : Int) + 1) = ((i + 1 : Nat) : Int) := w64 (by omega) (by omega)
  refine Ev.step (fun k => spec_VerNumeric.l0.eq_2 ..) (ifp (by omega) (ifp (by omega) ?_))
  rw [bt_L s i hlt, w1, List.drop_eq_getElem_cons hlt, List.all_cons]
  refine cbv (digit_eq _) ?_
  by_cases hd : dg (L s)[i] = true
  ·rw [hd, Bool.true_and]; exact ifp rfl (ih (i + 1) (by omega) (by omega))
  ·rw [show dg (L s)[i] = false from by simpa using hd, Bool.false_and, Bool.and_false]; exact ifn (by simp) (now rfl)
theorem numeric_ev (s : ByteArray) (hs : s.size < 4611686018427387904) : Ev (fun k => spec_VerNumeric.f k s) (numeric (L s)) := by
 have := numeric_l0 s hs _ 0 rfl (by omega)
 rw [List.drop_zero] at this
 exact this
theorem split_f (n : Nat) : ∀ s : ByteArray, (L s).length ≤ n → s.size < 4398046511104 → Ev (fun k => spec_VerSplit.f k s) (pieces s) := by
 induction n with
 | zero =>
  intro s hn hs
  refine Ev.step (fun k => spec_VerSplit.f.eq_2 ..) ((place_ev s 46 (by omega)).bind ?_)
  have h0 : L s = [] := List.eq_nil_of_length_eq_zero (by omega)
  rw [h0, place_neg (by simp)]
  refine ifp (by omega) (now ?_)
  unfold pieces
  rw [h0, spl_none (by simp)]
  show [s] = [mk []]
  rw [mk_eq h0]
 | succ n ih =>
  intro s hn hs
  have hz := size_L s
  refine Ev.step (fun k => spec_VerSplit.f.eq_2 ..) ((place_ev s 46 (by omega)).bind ?_)
  unfold pieces
  rcases place_cases (L s) 46 with ⟨hn1, hp⟩ | ⟨a, b, e, hn1, hp⟩
  ·rw [hp]
   refine ifp (by omega) (now ?_)
   rw [spl_none hn1]
   show [s] = [mk (L s)]
   rw [mk_L]
  ·rw [hp]
   have hl : (L s).length = a.length + (b.length + 1) := by rw [e]; simp
   have w1 : wrap64 ((a.length : Int) + 1) = ((a.length + 1 : Nat) : Int) := w64 (by omega) (by omega)
   rw [w1]
   refine ifn (by omega) (ifp (by omega) (ifp (by omega) (cbv rfl (ifp (by omega) (ifp (by omega) ?_)))))
   rw [Int.toNat_natCast, Int.toNat_natCast]
   have e1 : s.extract 0 a.length = mk a := mk_eq (by rw [L_upto, e]; simp)
   have e2 : s.extract (a.length + 1) s.size = mk b := mk_eq (by
    rw [L_from, e, show a ++ 46 :: b = (a ++ [46]) ++ b from by simp, List.drop_left' (by simp)])
   rw [e1, e2]
   have nx := ih (mk b) (by rw [L_mk']; omega) (by rw [size_L, L_mk']; omega)
   refine nx.bind ?_
   have hpl : (pieces (mk b)).length ≤ b.length + 1 := by unfold pieces; rw [List.length_map, L_mk']; exact spl_len 46 b
   refine ifp (by simp; omega) (now ?_)
   unfold pieces
   rw [e, spl_at hn1, L_mk', List.map_cons]; rfl
theorem vsplit_ev (s : ByteArray) (hs : s.size < 4398046511104) : Ev (fun k => spec_VerSplit.f k s) (pieces s) := split_f _ s (Nat.le_refl _) hs
def okp (b : Bool) (x : List UInt8) : Bool := !x.isEmpty && (x.all wd && (!b || (!(numeric x) || plain x)))
theorem wd3 (c : UInt8) : wd c = true ↔ dg c = true ∨ (c.toNat = 45 ∨ (97 ≤ c.toNat ∧ c.toNat ≤ 122) ∨ (65 ≤ c.toNat ∧ c.toNat ≤ 90)) := by
 unfold wd dg; rw [decide_eq_true_eq, decide_eq_true_eq]; omega
theorem ids_l1 (b : Bool) (xs : List ByteArray) (hl : xs.length ≤ 4294967296) (i : Nat) (hi : i < xs.length) (hs : xs[i].size < 4611686018427387904) (r : Bool) (hr : L xs[i] ≠ [] → okp b (L xs[i]) = true → Ev (fun k => spec_VerIdentifiers.l0 k b xs ((i + 1 : Nat) : Int)) r) (hf : okp b (L xs[i]) = false → r = false) (n : Nat) : ∀ j : Nat, (L xs[i]).length - j = n → j ≤ (L xs[i]).length → ((L xs[i]).take j).all wd = true →
  Ev (fun k => spec_VerIdentifiers.l1 k b xs i j) r := by
 have hz := size_L xs[i]
 have w2 : wrap64 ((i : Int) + 1) = ((i + 1 : Nat) : Int) := w64 (by omega) (by omega)
 induction n with
 | zero =>
  intro j hn hj ht
  rw [List.take_of_length_le (by omega)] at ht
  refine Ev.step (fun k => spec_VerIdentifiers.l1.eq_2 ..) (ifp (by omega) (ifp (by omega) ?_))
  rw [rdOf_nat xs i hi, w2]
  refine ifn (by omega) ?_
  by_cases h0 : L xs[i] = []
  ·refine ifp (by rw [toList_L, h0]) (now ?_)
   exact (hf (by unfold okp; rw [h0]; rfl)).symm
  ·refine ifn (by rw [toList_L]; exact h0) ?_
   have hne : (L xs[i]).isEmpty = false := by cases hq : L xs[i] with
    | nil => exact absurd hq h0
    | cons _ _ => rfl
   have hok : okp b (L xs[i]) = (!b || (!(numeric (L xs[i])) || plain (L xs[i]))) := by unfold okp; rw [hne, ht]; rfl
   rw [hok] at hr hf
   cases b with
   | true =>
    refine ifp rfl ((numeric_ev xs[i] hs).bind ?_)
    by_cases h1 : numeric (L xs[i]) = true
    ·refine ifp h1 (cbv (plain_eq _) ?_)
     by_cases h2 : plain (L xs[i]) = true
     ·exact ifp h2 (hr h0 (by rw [h2]; simp))
     ·refine ifn h2 (now ?_)
      exact (hf (by rw [h1, show plain (L xs[i]) = false from by simpa using h2]; rfl)).symm
    ·refine ifn h1 ?_
     exact hr h0 (by rw [show numeric (L xs[i]) = false from by simpa using h1]; simp)
   | false =>
    refine ifn (by simp) ?_
    exact hr h0 rfl
 | succ n ih =>
  intro j hn hj ht
  have hlt : j < (L xs[i]).length := by omega
  have w1 : wrap64 ((j : Int) + 1) = ((j + 1 : Nat) : Int) := w64 (by omega) (by omega)
  refine Ev.step (fun k => spec_VerIdentifiers.l1.eq_2 ..) (ifp (by omega) (ifp (by omega) ?_))
  rw [rdOf_nat xs i hi, w2, w1]
  refine ifp (by omega) (ifp (by omega) ?_)
  rw [bt_L _ j hlt]
  refine cbv (digit_eq _) ?_
  obtain ⟨c, hc⟩ : ∃ c, (L xs[i])[j] = c := ⟨_, rfl⟩
  rw [hc]
  have go : wd c = true → Ev (fun k => spec_VerIdentifiers.l1 k b xs i ((j + 1 : Nat) : Int)) r := by
   intro hw
   refine ih (j + 1) (by omega) (by omega) ?_
   rw [List.take_add_one, List.getElem?_eq_getElem hlt, hc, List.all_append, ht]
   show (true && [c].all wd) = true
   rw [List.all_cons, hw]; rfl
  have bad : wd c = false → r = false := by
   intro hw
   refine hf ?_
   have hm : c ∈ L xs[i] := by rw [← hc]; exact List.getElem_mem hlt
   have : (L xs[i]).all wd = false := by
    rw [Bool.eq_false_iff]
    intro h
    rw [List.all_eq_true.1 h c hm] at hw; cases hw
   unfold okp
   rw [this, Bool.false_and, Bool.and_false]
  have hw3 := wd3 c
  have no : ¬ (dg c = true ∨ (c.toNat = 45 ∨ (97 ≤ c.toNat ∧ c.toNat ≤ 122) ∨ (65 ≤ c.toNat ∧ c.toNat ≤ 90))) → r = false := fun h => bad (by rw [Bool.eq_false_iff]; intro hw; exact h (hw3.1 hw))
  by_cases h1 : dg c = true
  ·exact ifp h1 (go (hw3.2 (.inl h1)))
  refine ifn h1 ?_
  by_cases h2 : c.toNat = 45
  ·exact ifp (by rw [h2]; rfl) (go (hw3.2 (.inr (.inl h2))))
  refine ifn (by omega) ?_
  by_cases h3 : c.toNat < 97
  ·refine ifp (by omega) ?_
   by_cases h4 : c.toNat < 65
   ·exact ifp (by omega) (now (no (by rintro (h | h | h | h); exact h1 h; all_goals omega)).symm)
   ·refine ifn (by omega) ?_
    by_cases h5 : c.toNat > 90
    ·exact ifp (by omega) (now (no (by rintro (h | h | h | h); exact h1 h; all_goals omega)).symm)
    ·exact ifn (by omega) (go (hw3.2 (.inr (.inr (.inr (by omega))))))
  ·refine ifn (by omega) ?_
   by_cases h4 : c.toNat > 122
   ·refine ifp (by omega) ?_
    refine ifn (by omega) (ifp (by omega) (now (no (by rintro (h | h | h | h); exact h1 h; all_goals omega)).symm))
   ·exact ifn (by omega) (go (hw3.2 (.inr (.inr (.inl (by omega))))))
theorem ids_l0 (b : Bool) (xs : List ByteArray) (hl : xs.length ≤ 4294967296) (hs : ∀ c ∈ xs, c.size < 4611686018427387904) (n : Nat) : ∀ i : Nat, xs.length - i = n → i ≤ xs.length →
  Ev (fun k => spec_VerIdentifiers.l0 k b xs i) ((xs.drop i).all fun c => okp b (L c)) := by
 induction n with
 | zero =>
  intro i hn hi
  refine Ev.step (fun k => spec_VerIdentifiers.l0.eq_2 ..) (ifn (by omega) (now ?_))
  rw [List.drop_eq_nil_of_le (by omega)]; rfl
 | succ n ih =>
  intro i hn hi
  have hlt : i < xs.length := by omega
  refine Ev.step (fun k => spec_VerIdentifiers.l0.eq_2 ..) (ifp (by omega) ?_)
  rw [List.drop_eq_getElem_cons hlt, List.all_cons]
  refine ids_l1 b xs hl i hlt (hs _ (List.getElem_mem hlt)) _ ?_ ?_ _ 0 rfl (by omega) (by rw [List.take_zero]; rfl)
  ·intro _ h
   rw [h, Bool.true_and]
   exact ih (i + 1) (by omega) (by omega)
  ·intro h; rw [h, Bool.false_and]
def ids (b : Bool) (l : List UInt8) : Bool := (spl 46 l).all (okp b)
theorem ids_ev (s : ByteArray) (b : Bool) (hs : s.size ≤ 2147483648) : Ev (fun k => spec_VerIdentifiers.f k s b) (ids b (L s)) := by
 unfold spec_VerIdentifiers.f
 refine (vsplit_ev s (by omega)).bind ?_
 have hok := pieces_ok hs
 have := ids_l0 b (pieces s) hok.2 (fun c hc => by have := hok.1 c hc; omega) _ 0 rfl (Nat.zero_le _)
 rw [List.drop_zero] at this
 unfold ids
 rw [show ((spl 46 (L s)).all (okp b)) = ((pieces s).all fun c => okp b (L c)) from by
  unfold pieces
  rw [List.all_map]
  congr 1]
 exact this
theorem okp_gd {b : Bool} {x : List UInt8} (h : okp b x = true) : gd wd x := by
 unfold okp at h
 rw [Bool.and_eq_true, Bool.and_eq_true] at h
 refine ⟨fun e => by rw [e] at h; exact absurd h.1 (by simp), fun c hc => List.all_eq_true.1 h.2.1 c hc⟩
theorem ids_true {b : Bool} {l : List UInt8} (h : ids b l = true) : l ≠ [] ∧ Wd l := (ids_wd l).1 (fun x hx => okp_gd (List.all_eq_true.1 h x hx))
theorem ids_false (l : List UInt8) (h : l ≠ []) (hw : Wd l) : ids false l = true := by
 refine List.all_eq_true.2 (fun x hx => ?_)
 have := (ids_wd l).2 ⟨h, hw⟩ x hx
 unfold okp
 rw [show x.isEmpty = false from by cases hq : x with
   | nil => exact absurd hq this.1
   | cons _ _ => rfl, List.all_eq_true.2 this.2]; rfl
theorem uint_digits : ∀ (l : List UInt8) (n u : Nat), uint MX n l = some u → ∀ c ∈ l, dg c = true
 | [], _, _, _, c, hc => by cases hc
 | a :: r, n, u, h, c, hc => by
  rw [uint_cons] at h
  split at h
  ·rename_i ha
   split at h
   ·cases h
   ·rcases List.mem_cons.1 hc with rfl | hc
    ·exact ha
    ·exact uint_digits r _ u h c hc
  ·cases h
theorem uint_small : ∀ (l : List UInt8) (n : Nat), (∀ c ∈ l, dg c = true) → (n + 1) * 10 ^ l.length ≤ 18446744073709551615 → ∃ u, uint MX n l = some u
 | [], n, _, _ => ⟨n, rfl⟩
 | a :: r, n, h, hb => by
  have ha : 48 ≤ a.toNat ∧ a.toNat ≤ 57 := by have := h a (by simp); unfold dg at this; exact of_decide_eq_true this
  rw [List.length_cons, Nat.pow_succ] at hb
  have hp : 1 ≤ 10 ^ r.length := Nat.one_le_pow _ _ (by decide)
  have h1 : (10 * n + (a.toNat - 48) + 1) * 10 ^ r.length ≤ (n + 1) * (10 ^ r.length * 10) := by
   rw [Nat.mul_comm (10 ^ r.length) 10, ← Nat.mul_assoc]
   exact Nat.mul_le_mul_right _ (by omega)
  have h2 : 10 * n + (a.toNat - 48) + 1 ≤ (10 * n + (a.toNat - 48) + 1) * 10 ^ r.length := Nat.le_mul_of_pos_right _ hp
  rw [uint_cons, if_pos (h a (by simp)), if_neg (by unfold MX; omega)]
  exact uint_small r _ (fun c hc => h c (by simp [hc])) (by omega)
theorem numU_numeric {s : ByteArray} (hs : numeric (L s) = true → (L s).length < 20) : (numU s).isSome = numeric (L s) := by
 rw [numU_uint]
 unfold numeric at hs ⊢
 by_cases h : L s = []
 ·rw [if_pos h, h]; rfl
 ·have hne : (L s).isEmpty = false := by cases hq : L s with
   | nil => exact absurd hq h
   | cons _ _ => rfl
  rw [if_neg h, hne]
  rw [hne] at hs
  by_cases hd : (L s).all dg = true
  ·have := hs (by rw [hd]; rfl)
   have hp : 10 ^ (L s).length ≤ 10 ^ 19 := Nat.pow_le_pow_right (by decide) (by omega)
   obtain ⟨u, hu⟩ := uint_small (L s) 0 (List.all_eq_true.1 hd) (by omega)
   rw [hu, hd]; rfl
  ·cases hu : uint MX 0 (L s) with
   | none => rw [show (L s).all dg = false from by simpa using hd]; rfl
   | some u => exact absurd (List.all_eq_true.2 (uint_digits _ _ _ hu)) hd
theorem ids_bad (l : List UInt8) (h : l ≠ []) (hw : Wd l) (hn : ∀ x ∈ spl 46 l, numeric x = true → x.length < 20) : ids true l = !((pieces (mk l)).any badId) := by
 unfold ids pieces
 rw [L_mk', List.any_map]
 have g := (ids_wd l).2 ⟨h, hw⟩
 generalize hq : spl 46 l = xs at g hn ⊢
 clear hq
 induction xs with
 | nil => rfl
 | cons x xs ih =>
  have gx := g x (by simp)
  rw [List.all_cons, List.any_cons, ih (fun y hy => g y (by simp [hy])) (fun y hy => hn y (by simp [hy])), Bool.not_or]
  congr 1
  show okp true x = !badId (mk x)
  unfold okp badId
  rw [show x.isEmpty = false from by cases hq : x with
   | nil => exact absurd hq gx.1
   | cons _ _ => rfl, List.all_eq_true.2 gx.2, numU_numeric (s := mk x) (by rw [L_mk']; exact hn x (by simp)), L_mk', plain_bad (by rw [L_mk']; exact gx.1), L_mk']
  cases numeric x <;> cases plain x <;> rfl
end Go.Proofs.YtmfgkidppchobaaDoor.VerVXFnVersionCompare


set_option linter.unusedSimpArgs false
set_option linter.unusedVariables false
namespace Go.Proofs.YtmfgkidppchobaaDoor.VerWXFnVersionCompare
open Go.RowKit Go.Proofs.YtmfgkidppchobaaDoorW.PrintWords Go.Proofs.YtmfgkidppchobaaDoorW.PrintLast Go.Proofs.YtmfgkidppchobaaDoor.XFnVersionCompare Go.Proofs.YtmfgkidppchobaaDoor.EvL Go.Proofs.YtmfgkidppchobaaDoor.Str Go.Proofs.YtmfgkidppchobaaDoor.VerP Go.Proofs.YtmfgkidppchobaaDoor.VerQ Go.Proofs.YtmfgkidppchobaaDoor.VerR Go.Proofs.YtmfgkidppchobaaDoor.Ver1 Go.Proofs.YtmfgkidppchobaaDoor.Ver3 Go.Proofs.YtmfgkidppchobaaDoor.Ver4 Go.Proofs.YtmfgkidppchobaaDoor.Ver5 Go.Proofs.YtmfgkidppchobaaDoor.Ver6 Go.Proofs.YtmfgkidppchobaaDoor.VerTXFnVersionCompare Go.Proofs.YtmfgkidppchobaaDoor.VerUXFnVersionCompare Go.Proofs.YtmfgkidppchobaaDoor.VerVXFnVersionCompare
def ws (l : List UInt8) : Prop := ∀ c ∈ l, wh c = true
def trimR : List UInt8 → List UInt8
 | [] => []
 | c :: r => if (wh c && (trimR r).isEmpty) = true then [] else c :: trimR r
theorem trimR_cons (c : UInt8) (r : List UInt8) : trimR (c :: r) = if (wh c && (trimR r).isEmpty) = true then [] else c :: trimR r := rfl
theorem trimR_ws {l : List UInt8} (h : ws l) : trimR l = [] := by
 induction l with
 | nil => rfl
 | cons c r ih => rw [trimR_cons, ih (fun x hx => h x (by simp [hx])), h c (by simp)]; rfl
theorem trimR_snoc_ws (l : List UInt8) (c : UInt8) (h : wh c = true) : trimR (l ++ [c]) = trimR l := by
 induction l with
 | nil => rw [List.nil_append, trimR_cons, h]; rfl
 | cons a r ih => rw [List.cons_append, trimR_cons, trimR_cons, ih]
theorem trimR_snoc (l : List UInt8) (c : UInt8) (h : wh c = false) : trimR (l ++ [c]) = l ++ [c] := by
 induction l with
 | nil => rw [List.nil_append, trimR_cons, h]; rfl
 | cons a r ih =>
  rw [List.cons_append, trimR_cons, ih]
  have : (r ++ [c]).isEmpty = false := by cases r <;> rfl
  rw [this, Bool.and_false]; rfl
theorem trimR_app (l v : List UInt8) (h : ws v) : trimR (l ++ v) = trimR l := by
 induction l with
 | nil => rw [List.nil_append, trimR_ws h]; rfl
 | cons a r ih => rw [List.cons_append, trimR_cons, trimR_cons, ih]
theorem trimR_parts (l : List UInt8) : ∃ v, ws v ∧ l = trimR l ++ v := by
 induction l with
 | nil => exact ⟨[], (fun c hc => nomatch hc), rfl⟩
 | cons c r ih =>
  obtain ⟨v, h1, h2⟩ := ih
  rw [trimR_cons]
  by_cases h : (wh c && (trimR r).isEmpty) = true
  ·rw [if_pos h]
   rw [Bool.and_eq_true] at h
   have h3 : trimR r = [] := by cases hq : trimR r with
    | nil => rfl
    | cons _ _ => rw [hq] at h; exact absurd h.2 (by simp)
   refine ⟨c :: v, fun x hx => ?_, ?_⟩
   ·rcases List.mem_cons.1 hx with rfl | hx
    ·exact h.1
    ·exact h1 x hx
   ·rw [h3] at h2
    rw [List.nil_append, h2]; rfl
  ·rw [if_neg h]
   exact ⟨v, h1, by rw [List.cons_append, ← h2]⟩
theorem trimR_le (l : List UInt8) : (trimR l).length ≤ l.length := by
 obtain ⟨v, _, h⟩ := trimR_parts l
 have := congrArg List.length h
 rw [List.length_append] at this
 omega
theorem wd_not_wh {c : UInt8} (h : wd c = true) : wh c = false := by
 unfold wd at h
 have h := of_decide_eq_true h
 unfold wh
 exact decide_eq_false (by omega)
theorem trimR_keep {l : List UInt8} (h : ∀ c, l.getLast? = some c → wh c = false) : trimR l = l := by
 rcases List.eq_nil_or_concat l with rfl | ⟨m, c, rfl⟩
 ·rfl
 ·rw [List.concat_eq_append]
  exact trimR_snoc m c (h c (by rw [List.concat_eq_append]; simp))
theorem cnt_ws {l : List UInt8} (h : ws l) : cnt wh l = l.length := by
 induction l with
 | nil => rfl
 | cons c r ih => rw [cnt_cons, if_pos (h c (by simp)), ih (fun x hx => h x (by simp [hx])), List.length_cons]
theorem ws_cnt {l : List UInt8} (h : l.length ≤ cnt wh l) : ws l := by
 induction l with
 | nil => intro c hc; cases hc
 | cons a r ih =>
  rw [cnt_cons, List.length_cons] at h
  split at h
  ·rename_i ha
   intro c hc
   rcases List.mem_cons.1 hc with rfl | hc
   ·exact ha
   ·exact ih (by omega) c hc
  ·omega
theorem stop_ws {v : List UInt8} (h : ws v) : stop wd v := by
 cases v with
 | nil => trivial
 | cons c v =>
  have := h c (by simp)
  refine ⟨?_, ?_⟩
  ·rw [Bool.eq_false_iff]; intro hw; rw [wd_not_wh hw] at this; cases this
  ·rintro rfl; exact absurd this (by decide)
theorem extL_ws {pre bld : ByteArray} {v : List UInt8} (hp : Wd (L pre)) (hb : Wd (L bld)) (hv : ws v) : extL (mk (restB pre bld ++ v)) = [mk (restB pre bld ++ v), pre, bld] := by
 have h43 : wd 43 = false := by decide
 have st : stop wd ((if L bld = [] then [] else [43] ++ L bld) ++ v) := by
  split
  ·exact stop_ws hv
  ·exact ⟨h43, by decide⟩
 have hr : L (mk (restB pre bld ++ v)) = (if L pre = [] then [] else [45] ++ L pre) ++ ((if L bld = [] then [] else [43] ++ L bld) ++ v) := by rw [L_mk']; unfold restB; rw [toList_L, toList_L, List.append_assoc]; rfl
 obtain ⟨r, hq⟩ : ∃ r, mk (restB pre bld ++ v) = r := ⟨_, rfl⟩
 rw [hq] at hr ⊢
 have vs : ∀ c, c ≠ 32 → c ≠ 9 → c ≠ 10 → c ≠ 12 → c ≠ 13 → sgn c v = 0 := by
  intro c h1 h2 h3 h4 h5
  cases v with
  | nil => rfl
  | cons a t =>
   have ha := hv a (by simp)
   unfold wh at ha
   have ha := of_decide_eq_true ha
   rw [sgn_cons, if_neg]
   rintro rfl
   rcases ha with h | h | h | h | h
   ·exact h1 (UInt8.toNat_inj.1 h)
   ·exact h2 (UInt8.toNat_inj.1 h)
   ·exact h3 (UInt8.toNat_inj.1 h)
   ·exact h4 (UInt8.toNat_inj.1 h)
   ·exact h5 (UInt8.toNat_inj.1 h)
 have f1 : sAt 45 0 (L r) = (if L pre = [] then [] else [45] ++ L pre : List UInt8).length ∧ sTx 45 0 r = pre := by
  by_cases h0 : L pre = []
  ·rw [if_pos h0, List.nil_append] at hr
   rw [if_pos h0]
   have s0 : sgn 45 ((L r).drop 0) = 0 := by
    rw [List.drop_zero, hr]
    by_cases h1 : L bld = []
    ·rw [if_pos h1, List.nil_append]; exact vs 45 (by decide) (by decide) (by decide) (by decide) (by decide)
    ·rw [if_neg h1]; rfl
   unfold sAt sTx
   rw [if_pos s0, if_pos s0]
   exact ⟨rfl, (L_eq_nil h0).symm⟩
  ·rw [if_neg h0] at hr
   rw [if_neg h0]
   have s0 : sgn 45 ((L r).drop 0) = (L pre).length := by
    rw [List.drop_zero, hr]
    show (if (45 : UInt8) = 45 then wlen (L pre ++ _) else 0) = _
    rw [if_pos rfl, wlen_app hp h0 st]
   have sp : (L pre).length ≠ 0 := fun e => h0 (List.eq_nil_of_length_eq_zero e)
   unfold sAt sTx
   rw [s0, if_neg sp, if_neg sp]
   refine ⟨by simp; omega, ?_⟩
   refine L_inj ?_
   rw [L_extract, hr]
   show ((L pre ++ _).take (0 + 1 + (L pre).length - (0 + 1))) = _
   rw [show 0 + 1 + (L pre).length - (0 + 1) = (L pre).length from by omega, List.take_left]
 obtain ⟨f1, f2⟩ := f1
 have hd : (L r).drop (sAt 45 0 (L r)) = (if L bld = [] then [] else [43] ++ L bld) ++ v := by rw [f1, hr, List.drop_left]
 have hlen : (L r).length = sAt 45 0 (L r) + ((if L bld = [] then [] else [43] ++ L bld : List UInt8).length + v.length) := by
  have e := congrArg List.length hr
  rw [List.length_append, List.length_append] at e
  rw [f1, e]
 obtain ⟨i, hi⟩ : ∃ i, sAt 45 0 (L r) = i := ⟨_, rfl⟩
 rw [hi] at hd hlen
 have f3 : sAt 43 i (L r) + v.length = (L r).length ∧ sTx 43 i r = bld ∧ (L r).drop (sAt 43 i (L r)) = v := by
  by_cases h0 : L bld = []
  ·rw [if_pos h0, List.nil_append] at hd
   rw [if_pos h0] at hlen
   have s0 : sgn 43 ((L r).drop i) = 0 := by rw [hd]; exact vs 43 (by decide) (by decide) (by decide) (by decide) (by decide)
   unfold sAt sTx
   rw [if_pos s0, if_pos s0]
   exact ⟨by rw [hlen]; simp, (L_eq_nil h0).symm, hd⟩
  ·rw [if_neg h0] at hd hlen
   have s0 : sgn 43 ((L r).drop i) = (L bld).length := by
    rw [hd]
    show (if (43 : UInt8) = 43 then wlen (L bld ++ v) else 0) = _
    rw [if_pos rfl, wlen_app hb h0 (stop_ws hv)]
   have sp : (L bld).length ≠ 0 := fun e => h0 (List.eq_nil_of_length_eq_zero e)
   unfold sAt sTx
   rw [s0, if_neg sp, if_neg sp]
   refine ⟨by rw [hlen]; simp; omega, ?_, ?_⟩
   ·refine L_inj ?_
    rw [L_extract, ← List.drop_drop, hd]
    show ((L bld ++ v).take (i + 1 + (L bld).length - (i + 1))) = _
    rw [show i + 1 + (L bld).length - (i + 1) = (L bld).length from by omega, List.take_left]
   ·rw [show i + 1 + (L bld).length = i + (1 + (L bld).length) from by omega, ← List.drop_drop, hd]
    show ((43 :: L bld) ++ v).drop (1 + (L bld).length) = v
    rw [List.drop_left' (by simp; omega)]
 obtain ⟨f3, f4, f5⟩ := f3
 unfold extL
 rw [hi, f5, f2, f4, cnt_ws hv, if_neg (by omega)]
theorem ext_form {s : ByteArray} (h : extL s ≠ []) : ∃ pre bld v, Wd (L pre) ∧ Wd (L bld) ∧ ws v ∧ L s = restB pre bld ++ v := by
 unfold extL at h
 split at h
 ·exact absurd rfl h
 rename_i hc
 refine ⟨sTx 45 0 s, sTx 43 (sAt 45 0 (L s)) s, (L s).drop (sAt 43 (sAt 45 0 (L s)) (L s)), sTx_wd _ _ _, sTx_wd _ _ _, ws_cnt (by rw [List.length_drop]; omega), ?_⟩
 have piece : ∀ (c : UInt8) (i : Nat), i ≤ (L s).length → (L s).drop i = (if (sTx c i s).toList = [] then [] else [c] ++ (sTx c i s).data.toList) ++ (L s).drop (sAt c i (L s)) ∧ sAt c i (L s) ≤ (L s).length := by
  intro c i hi
  unfold sTx sAt
  by_cases h0 : sgn c ((L s).drop i) = 0
  ·rw [if_pos h0, if_pos h0, if_pos (by rw [toList_L]; rfl)]
   exact ⟨rfl, hi⟩
  ·rw [if_neg h0, if_neg h0]
   cases hq : (L s).drop i with
   | nil => rw [hq] at h0; exact absurd rfl h0
   | cons a r =>
    rw [hq, sgn_cons] at h0
    by_cases ha : a = c
    ·rw [sgn_cons, if_pos ha]
     rw [if_pos ha] at h0
     have hr : (L s).drop (i + 1) = r := by rw [← List.drop_drop, hq]; rfl
     have hx : L (s.extract (i + 1) (i + 1 + wlen r)) = r.take (wlen r) := by rw [L_extract, hr, show i + 1 + wlen r - (i + 1) = wlen r from by omega]
     have hl := wlen_le r
     have hll : (L s).length = i + (r.length + 1) := by
      have := congrArg List.length hq
      rw [List.length_drop, List.length_cons] at this
      omega
     have hne : r.take (wlen r) ≠ [] := by
      intro e
      have := congrArg List.length e
      rw [List.length_take, List.length_nil] at this
      omega
     rw [toList_L, hx, if_neg hne, show (s.extract (i + 1) (i + 1 + wlen r)).data.toList = r.take (wlen r) from hx]
     refine ⟨?_, by omega⟩
     rw [← List.drop_drop, hr, ha]
     show c :: r = (c :: r.take (wlen r)) ++ r.drop (wlen r)
     rw [List.cons_append, List.take_append_drop]
    ·rw [if_neg ha] at h0; exact absurd rfl h0
 obtain ⟨p1, p2⟩ := piece 45 0 (Nat.zero_le _)
 obtain ⟨p3, _⟩ := piece 43 (sAt 45 0 (L s)) p2
 rw [List.drop_zero] at p1
 unfold restB
 rw [List.append_assoc, ← p3]
 exact p1
end Go.Proofs.YtmfgkidppchobaaDoor.VerWXFnVersionCompare


set_option linter.unusedSimpArgs false
set_option linter.unusedVariables false
namespace Go.Proofs.YtmfgkidppchobaaDoor.VerXXFnVersionCompare
open Go.RowKit Go.Proofs.YtmfgkidppchobaaDoorW.PrintWords Go.Proofs.YtmfgkidppchobaaDoorW.PrintLast Go.Proofs.YtmfgkidppchobaaDoor.XFnVersionCompare Go.Proofs.YtmfgkidppchobaaDoor.EvL Go.Proofs.YtmfgkidppchobaaDoor.Str Go.Proofs.YtmfgkidppchobaaDoor.VerP Go.Proofs.YtmfgkidppchobaaDoor.VerQ Go.Proofs.YtmfgkidppchobaaDoor.VerR Go.Proofs.YtmfgkidppchobaaDoor.Ver1 Go.Proofs.YtmfgkidppchobaaDoor.Ver3 Go.Proofs.YtmfgkidppchobaaDoor.Ver4 Go.Proofs.YtmfgkidppchobaaDoor.Ver5 Go.Proofs.YtmfgkidppchobaaDoor.Ver6 Go.Proofs.YtmfgkidppchobaaDoor.VerTXFnVersionCompare Go.Proofs.YtmfgkidppchobaaDoor.VerUXFnVersionCompare Go.Proofs.YtmfgkidppchobaaDoor.VerVXFnVersionCompare Go.Proofs.YtmfgkidppchobaaDoor.VerWXFnVersionCompare
abbrev P5 := List Int × Bool × ByteArray × ByteArray × Bool
def none5 : P5 := ([], false, ⟨#[]⟩, ⟨#[]⟩, false)
structure SemOk (t : List UInt8) (pre bld : ByteArray) : Prop where
 wpre : Wd (L pre)
 wbld : Wd (L bld)
 form : t = restB pre bld
 ids : L pre ≠ [] → ids true (L pre) = true
theorem restB_L (pre bld : ByteArray) : restB pre bld = (if L pre = [] then [] else 45 :: L pre) ++ (if L bld = [] then [] else 43 :: L bld) := by unfold restB; rw [toList_L, toList_L]; rfl
theorem wd_no43 {l : List UInt8} (h : Wd l) : (43 : UInt8) ∉ l := fun hm => by
 rcases wd_mem h _ hm with h | h
 ·exact absurd h (by decide)
 ·exact absurd h (by decide)
theorem head_no43 (pre : ByteArray) (h : Wd (L pre)) : (43 : UInt8) ∉ (if L pre = [] then [] else 45 :: L pre : List UInt8) := by
 split
 ·simp
 ·intro hm
  rcases List.mem_cons.1 hm with h1 | h1
  ·exact absurd h1 (by decide)
  ·exact wd_no43 h h1
theorem pre_part {t : List UInt8} {bld : ByteArray} (hb : Wd (L bld)) {q : List UInt8} (hq : q = if L bld = [] then [] else 43 :: L bld) (hn : (43 : UInt8) ∉ t) (acc : List Int) (g : Nat → ByteArray → Option Bool) (hg : ∀ s : ByteArray, s.size ≤ 2147483648 → Ev (fun k => g k s) (ids true (L s))) (ht : t.length ≤ 2147483648) (p : ByteArray) (hp : L p = t) (e1 : ByteArray) (he : L e1 = t.drop 1) :
  ∃ r : P5, Ev (fun k => if p.toList = ([] : List UInt8) then some (acc, true, (⟨#[]⟩ : ByteArray), bld, true) else (if 1 ≤ (p.size : Int) then (if 0 < (p.size : Int) then (if (bt p 0) = 45 then ((g k e1).bind fun t152 => (some (acc, true, e1, bld, t152))) else (some (acc, true, e1, bld, false))) else (none)) else (none))) r ∧
   (r.2.2.2.2 = true → r.1 = acc ∧ r.2.1 = true ∧ SemOk (t ++ q) r.2.2.1 r.2.2.2.1) ∧ (r.2.2.2.2 = false → ¬ ∃ pre bld', SemOk (t ++ q) pre bld') := by
 have split : ∀ pre bld', SemOk (t ++ q) pre bld' → t = (if L pre = [] then [] else 45 :: L pre) := by
  intro pre bld' h
  have hf := h.form
  rw [restB_L, hq] at hf
  by_cases h1 : L bld = []
  ·rw [if_pos h1, List.append_nil] at hf
   by_cases h2 : L bld' = []
   ·rw [if_pos h2, List.append_nil] at hf; exact hf
   ·rw [if_neg h2] at hf
    exact absurd (by rw [hf]; simp) hn
  ·rw [if_neg h1] at hf
   by_cases h2 : L bld' = []
   ·rw [if_pos h2, List.append_nil] at hf
    exact absurd (by rw [← hf]; simp) (head_no43 pre h.wpre)
   ·rw [if_neg h2] at hf
    exact (split_unique hf hn (head_no43 pre h.wpre)).1
 have hz : p.size = t.length := by rw [size_L, hp]
 cases hc : t with
 | nil =>
  refine ⟨(acc, true, ⟨#[]⟩, bld, true), ifp (by rw [toList_L, hp, hc]) (now rfl), fun _ => ⟨rfl, rfl, ?_⟩, (fun h => nomatch h)⟩
  exact ⟨fun h => absurd rfl h, hb, by rw [restB_L, hq]; rfl, fun h => absurd rfl h⟩
 | cons a r =>
  have hpl : L p = a :: r := by rw [hp, hc]
  rw [hc, List.length_cons] at hz
  have her : L e1 = r := by rw [he, hc]; rfl
  by_cases ha : a = 45
  ·refine ⟨(acc, true, e1, bld, ids true r), ifn (by rw [toList_L, hpl]; simp) (ifp (by omega) (ifp (by omega) (ifp (by rw [bt0 hpl, ha]; rfl) ?_))), ?_, ?_⟩
   ·have := hg e1 (by rw [size_L, her]; rw [hc, List.length_cons] at ht; omega)
    rw [her] at this
    exact this.bind (now rfl)
   ·intro h
    have h : ids true r = true := h
    have hw := ids_true h
    refine ⟨rfl, rfl, ?_⟩
    refine ⟨by show Wd (L e1); rw [her]; exact hw.2, hb, ?_, fun _ => by show ids true (L e1) = true; rw [her]; exact h⟩
    show a :: r ++ q = restB e1 bld
    rw [restB_L, her, if_neg hw.1, hq, ha]
   ·intro h
    have h : ids true r = false := h
    rintro ⟨pre, bld', hs⟩
    have h1 := split pre bld' (by rw [hc]; exact hs)
    rw [hc] at h1
    by_cases h2 : L pre = []
    ·rw [if_pos h2] at h1; cases h1
    ·rw [if_neg h2] at h1
     injection h1 with _ h3
     rw [h3, hs.ids h2] at h; cases h
  ·refine ⟨(acc, true, e1, bld, false), ifn (by rw [toList_L, hpl]; simp) (ifp (by omega) (ifp (by omega) (ifn (by rw [bt0 hpl]; exact fun e => ha ((byte_eq (b := 45)).1 e)) (now rfl)))), (fun h => nomatch h), ?_⟩
   intro _
   rintro ⟨pre, bld', hs⟩
   have h1 := split pre bld' (by rw [hc]; exact hs)
   rw [hc] at h1
   by_cases h2 : L pre = []
   ·rw [if_pos h2] at h1; cases h1
   ·rw [if_neg h2] at h1
    injection h1 with h3 _
    exact ha h3
theorem idx_some {l : List UInt8} (h : (43 : UInt8) ∈ l) : ∃ a b, l = a ++ 43 :: b ∧ (43 : UInt8) ∉ a ∧ place l 43 = (a.length : Int) := by
 rcases place_cases l 43 with ⟨hn, _⟩ | h2
 ·exact absurd h hn
 ·exact h2
theorem sem_tail (x4 : List ByteArray) (x5 : ByteArray) (acc : List Int) (hs : x5.size ≤ 2147483648) :
  ∃ r : P5, Ev (fun k => spec_VerSemantic.l1 k x4 x5 3 acc true ⟨#[]⟩ ⟨#[]⟩) r ∧ (r.2.2.2.2 = true → r.1 = acc ∧ r.2.1 = true ∧ SemOk (L x5) r.2.2.1 r.2.2.2.1) ∧ (r.2.2.2.2 = false → ¬ ∃ pre bld, SemOk (L x5) pre bld) := by
 have hz := size_L x5
 by_cases h43 : (43 : UInt8) ∈ L x5
 ·obtain ⟨a, b, e, hn, hp⟩ := idx_some h43
  have hl : (L x5).length = a.length + (b.length + 1) := by rw [e]; simp
  have w1 : wrap64 ((a.length : Int) + 1) = ((a.length + 1 : Nat) : Int) := w64 (by omega) (by omega)
  have eb : x5.extract (a.length + 1) x5.size = mk b := mk_eq (by rw [L_from, e, show a ++ 43 :: b = (a ++ [43]) ++ b from by simp, List.drop_left' (by simp)])
  have ea : x5.extract 0 a.length = mk a := mk_eq (by rw [L_upto, e]; simp)
  have key : ∀ r : P5, (ids false b = false → r = none5) → (ids false b = true → Ev (fun k => if (mk a).toList = ([] : List UInt8) then some (acc, true, (⟨#[]⟩ : ByteArray), mk b, true) else (if 1 ≤ ((mk a).size : Int) then (if 0 < ((mk a).size : Int) then (if (bt (mk a) 0) = 45 then ((spec_VerIdentifiers.f k ((mk a).extract 1 a.length) true).bind fun t152 => (some (acc, true, (mk a).extract 1 a.length, mk b, t152))) else (some (acc, true, (mk a).extract 1 a.length, mk b, false))) else (none)) else (none))) r) →
    Ev (fun k => spec_VerSemantic.l1 k x4 x5 3 acc true ⟨#[]⟩ ⟨#[]⟩) r := by
   intro r hf ht
   refine Ev.step (fun k => spec_VerSemantic.l1.eq_2 ..) (ifn (by omega) ((place_ev x5 43 (by omega)).bind ?_))
   rw [hp, w1]
   refine ifp (by omega) (ifp (by omega) (ifp (by omega) (ifp (by omega) (ifp (by omega) ?_))))
   rw [Int.toNat_natCast, Int.toNat_natCast, eb, ea]
   have := ids_ev (mk b) false (by rw [size_L, L_mk']; omega)
   rw [L_mk'] at this
   refine this.bind ?_
   by_cases hi : ids false b = true
   ·exact ifp hi (ht hi)
   ·exact ifn hi (now (hf (by simpa using hi)).symm)
  by_cases hi : ids false b = true
  ·have hw := ids_true hi
   obtain ⟨r, h1, h2, h3⟩ := pre_part (t := a) (bld := mk b) (by rw [L_mk']; exact hw.2) (q := 43 :: b) (by rw [L_mk', if_neg hw.1]) hn acc (fun k s => spec_VerIdentifiers.f k s true) (fun s hs => ids_ev s true hs) (by omega) (mk a) (L_mk' a) ((mk a).extract 1 a.length) (by rw [L_extract, L_mk', List.take_of_length_le (by rw [List.length_drop]; omega)])
   rw [← e] at h2 h3
   exact ⟨r, key r (fun h => by rw [hi] at h; cases h) (fun _ => h1), h2, h3⟩
  ·refine ⟨none5, key none5 (fun _ => rfl) (fun h => absurd h hi), (fun h => nomatch h), ?_⟩
   intro _
   rintro ⟨pre, bld, h⟩
   have hf := h.form
   rw [restB_L, e] at hf
   by_cases h2 : L bld = []
   ·rw [if_pos h2, List.append_nil] at hf
    exact absurd (by rw [← hf]; simp) (head_no43 pre h.wpre)
   ·rw [if_neg h2] at hf
    have := (split_unique hf hn (head_no43 pre h.wpre)).2
    exact hi (by rw [this]; exact ids_false _ h2 h.wbld)
 ·obtain ⟨r, h1, h2, h3⟩ := pre_part (t := L x5) (bld := ⟨#[]⟩) (fun h => absurd rfl h) (q := []) rfl h43 acc (fun k s => spec_VerIdentifiers.f k s true) (fun s hs => ids_ev s true hs) (by omega) x5 rfl (x5.extract 1 x5.size) (L_from x5 1)
  rw [List.append_nil] at h2 h3
  refine ⟨r, Ev.step (fun k => spec_VerSemantic.l1.eq_2 ..) (ifn (by omega) ((place_ev x5 43 (by omega)).bind ?_)), h2, h3⟩
  rw [place_neg h43]
  exact ifn (by omega) h1
def semNums : List ByteArray → Option (List Int)
 | [] => some []
 | c :: cs => (numU c).bind fun u => if plain (L c) = true then (semNums cs).map fun ns => (u : Int) :: ns else none
theorem semNums_cons (c : ByteArray) (cs : List ByteArray) : semNums (c :: cs) = (numU c).bind fun u => if plain (L c) = true then (semNums cs).map fun ns => (u : Int) :: ns else none := rfl
theorem semNums_comps : ∀ (first : Bool) (cs : List ByteArray), (∀ c ∈ cs, L c ≠ []) → compsP true first cs = semNums cs
 | _, [], _ => rfl
 | first, c :: cs, h => by
  show (compP true first c).bind _ = _
  rw [semNums_cons, semNums_comps false cs (fun x hx => h x (by simp [hx]))]
  unfold compP
  rw [Bool.or_true, Bool.true_and, plain_bad (h c (by simp))]
  cases hp : plain (L c) with
  | true =>
   rw [if_neg (by simp)]
   cases numU c with
   | none => rfl
   | some u => rfl
  | false =>
   cases numU c with
   | none => rfl
   | some u => rfl
theorem sem_l1 (x4 : List ByteArray) (x5 : ByteArray) (h3 : x4.length = 3) (hs : ∀ c ∈ x4, c.size < 4611686018427387904) (n : Nat) : ∀ (i : Nat) (acc : List Int) (r : P5), 3 - i = n → i ≤ 3 → acc.length = i →
  (match semNums (x4.drop i) with | some ns => Ev (fun k => spec_VerSemantic.l1 k x4 x5 3 (acc ++ ns) true ⟨#[]⟩ ⟨#[]⟩) r | none => r = none5) → Ev (fun k => spec_VerSemantic.l1 k x4 x5 i acc true ⟨#[]⟩ ⟨#[]⟩) r := by
 induction n with
 | zero =>
  intro i acc r hn hi ha h
  obtain rfl : i = 3 := by omega
  rw [List.drop_eq_nil_of_le (by omega)] at h
  have h : Ev (fun k => spec_VerSemantic.l1 k x4 x5 3 (acc ++ []) true ⟨#[]⟩ ⟨#[]⟩) r := h
  rw [List.append_nil] at h
  exact h
 | succ n ih =>
  intro i acc r hn hi ha h
  have hlt : i < x4.length := by omega
  have w1 : wrap64 ((i : Int) + 1) = ((i + 1 : Nat) : Int) := w64 (by omega) (by omega)
  refine Ev.step (fun k => spec_VerSemantic.l1.eq_2 ..) (ifp (by omega) (ifp (by omega) (ifp (by omega) ?_)))
  rw [rdOf_nat x4 i hlt, w1]
  rw [List.drop_eq_getElem_cons hlt, semNums_cons] at h
  refine (uint_ev x4[i] (hs _ (List.getElem_mem hlt))).bind ?_
  cases hu : numU x4[i] with
  | none =>
   rw [hu] at h
   have h : r = none5 := h
   exact ifn (by simp [uPair]) (now h.symm)
  | some u =>
   rw [hu] at h
   refine ifp rfl (cbv (plain_eq _) ?_)
   by_cases hp : plain (L x4[i]) = true
   ·refine ifp hp (ifp (by omega) ?_)
    refine ih (i + 1) (acc ++ [(u : Int)]) r (by omega) (by omega) (by simp [ha]) ?_
    have h : (match (if plain (L x4[i]) = true then (semNums (x4.drop (i + 1))).map fun ns => (u : Int) :: ns else none) with | some ns => Ev (fun k => spec_VerSemantic.l1 k x4 x5 3 (acc ++ ns) true ⟨#[]⟩ ⟨#[]⟩) r | none => r = none5) := h
    rw [if_pos hp] at h
    cases hq : semNums (x4.drop (i + 1)) with
    | none => rw [hq] at h; exact h
    | some ns =>
     rw [hq] at h
     have h : Ev (fun k => spec_VerSemantic.l1 k x4 x5 3 (acc ++ (u : Int) :: ns) true ⟨#[]⟩ ⟨#[]⟩) r := h
     rw [show acc ++ (u : Int) :: ns = (acc ++ [(u : Int)]) ++ ns from by simp] at h
     exact h
   ·refine ifn hp (now ?_)
    have h : (match (if plain (L x4[i]) = true then (semNums (x4.drop (i + 1))).map fun ns => (u : Int) :: ns else none) with | some ns => Ev (fun k => spec_VerSemantic.l1 k x4 x5 3 (acc ++ ns) true ⟨#[]⟩ ⟨#[]⟩) r | none => r = none5) := h
    rw [if_neg hp] at h
    exact (show r = none5 from h).symm
theorem sem_l0 (x4 : List ByteArray) (r : P5) (n : Nat) : ∀ s : ByteArray, (L s).length ≤ n → s.size < 4611686018427387904 → Ev (fun k => spec_VerSemantic.j1 k x4 (mk (trimR (L s)))) r → Ev (fun k => spec_VerSemantic.l0 k x4 s) r := by
 induction n with
 | zero =>
  intro s hn hs h
  have h0 : L s = [] := List.eq_nil_of_length_eq_zero (by omega)
  refine Ev.step (fun k => spec_VerSemantic.l0.eq_2 ..) (ifp (by rw [toList_L, h0]) ?_)
  rw [h0] at h
  rw [mk_eq h0]
  exact h
 | succ n ih =>
  intro s hn hs h
  have hz := size_L s
  refine Ev.step (fun k => spec_VerSemantic.l0.eq_2 ..) ?_
  rcases List.eq_nil_or_concat (L s) with h0 | ⟨m, c, h0⟩
  ·refine ifp (by rw [toList_L, h0]) ?_
   rw [h0] at h
   rw [mk_eq h0]
   exact h
  ·rw [List.concat_eq_append] at h0
   have hl : (L s).length = m.length + 1 := by rw [h0]; simp
   have w1 : wrap64 ((s.size : Int) - 1) = ((m.length : Nat) : Int) := by rw [w64 (by omega) (by omega)]; omega
   rw [w1]
   refine ifn (by rw [toList_L, h0]; simp) (ifp (by omega) (ifp (by omega) ?_))
   have hb : bt s (m.length : Int) = (c.toNat : Int) := by
    rw [bt_L s m.length (by omega)]
    simp only [h0]
    rw [List.getElem_append_right (by omega)]
    simp
   rw [hb]
   refine cbv (white_eq c) ?_
   rw [h0] at h
   by_cases hw : wh c = true
   ·refine ifp hw (ifp (by omega) ?_)
    rw [Int.toNat_natCast, show s.extract 0 m.length = mk m from mk_eq (by rw [L_upto, h0]; simp)]
    rw [trimR_snoc_ws m c hw] at h
    refine ih (mk m) (by rw [L_mk']; omega) (by rw [size_L, L_mk']; omega) ?_
    rw [L_mk']; exact h
   ·refine ifn hw ?_
    rw [trimR_snoc m c (by simpa using hw), ← h0, mk_L] at h
    exact h
theorem spl_infix {c : UInt8} {l x : List UInt8} (h : x ∈ spl c l) : ∃ a b, l = a ++ (x ++ b) := by
 induction l generalizing x with
 | nil =>
  obtain rfl : x = [] := by simpa [spl] using h
  exact ⟨[], [], rfl⟩
 | cons a r ih =>
  rw [spl_cons] at h
  split at h
  ·rcases List.mem_cons.1 h with rfl | h
   ·exact ⟨[], a :: r, rfl⟩
   ·obtain ⟨p, q, e⟩ := ih h
    exact ⟨a :: p, q, by rw [e]; rfl⟩
  ·split at h
   ·rename_i e; exact absurd e (spl_ne _ _)
   ·rename_i h' t e
    rcases List.mem_cons.1 h with rfl | h
    ·
     have first : ∀ (l : List UInt8) (h' : List UInt8) (t : List (List UInt8)), spl c l = h' :: t → ∃ q, l = h' ++ q := by
      intro l
      induction l with
      | nil =>
       intro h' t e
       have e : [[]] = h' :: t := e
       injection e with e1 _
       exact ⟨[], by rw [← e1]; rfl⟩
      | cons b s ihs =>
       intro h' t e
       rw [spl_cons] at e
       split at e
       ·injection e with e1 _; exact ⟨b :: s, by rw [← e1]; rfl⟩
       ·split at e
        ·rename_i e2; exact absurd e2 (spl_ne _ _)
        ·rename_i h2 t2 e2
         injection e with e1 _
         obtain ⟨q, hq⟩ := ihs h2 t2 e2
         exact ⟨q, by rw [← e1, hq]; rfl⟩
     obtain ⟨q, hq⟩ := first r h' t e
     exact ⟨[], q, by rw [hq]; rfl⟩
    ·obtain ⟨p, q, e2⟩ := ih (x := x) (by rw [e]; simp [h])
     exact ⟨a :: p, q, by rw [e2]; rfl⟩
theorem short_pieces {pre bld : ByteArray} {v : List UInt8} (h : lng 0 (restB pre bld ++ v) = false) : ∀ x ∈ spl 46 (L pre), numeric x = true → x.length < 20 := by
 intro x hx hn
 have hd : ∀ c ∈ x, dg c = true := by unfold numeric at hn; rw [Bool.and_eq_true] at hn; exact List.all_eq_true.1 hn.2
 obtain ⟨a, b, e⟩ := spl_infix hx
 by_cases h0 : L pre = []
 ·rw [h0] at e
  have h1 := (List.append_eq_nil_iff.1 (List.append_eq_nil_iff.1 e.symm).2).1
  rw [h1]; simp
 ·rw [restB_L, if_neg h0, e] at h
  refine lng_sub (a := 45 :: a) (b := x) (r := b ++ ((if L bld = [] then [] else 43 :: L bld) ++ v)) hd (n := 0) ?_
  rw [← h]
  congr 1
  simp [List.append_assoc]
theorem restB_last {pre bld : ByteArray} (hp : Wd (L pre)) (hb : Wd (L bld)) : trimR (restB pre bld) = restB pre bld := by
 refine trimR_keep ?_
 intro c hc
 have last : ∀ l : List UInt8, Wd l → l ≠ [] → ∀ c, l.getLast? = some c → wh c = false := by
  intro l hw hn c hc
  have g := (ids_wd l).2 ⟨hn, hw⟩
  rcases wd_mem hw c (List.mem_of_getLast? hc) with h | h
  ·exact wd_not_wh h
  ·rw [h]; rfl
 rw [restB_L] at hc
 by_cases h1 : L bld = []
 ·rw [if_pos h1, List.append_nil] at hc
  by_cases h2 : L pre = []
  ·rw [if_pos h2] at hc; cases hc
  ·rw [if_neg h2, List.getLast?_cons] at hc
   cases hq : (L pre).getLast? with
   | none => exact absurd (List.getLast?_eq_none_iff.1 hq) h2
   | some d =>
    rw [hq] at hc
    have : d = c := by simpa using hc
    rw [← this]; exact last _ hp h2 d hq
 ·rw [if_neg h1, List.getLast?_append] at hc
  have hc2 : (43 :: L bld).getLast? = some c := by
   cases hq : (43 :: L bld).getLast? with
   | none => exact absurd (List.getLast?_eq_none_iff.1 hq) (by simp)
   | some d => rw [hq] at hc; exact hc
  rw [List.getLast?_cons] at hc2
  cases hq : (L bld).getLast? with
  | none => exact absurd (List.getLast?_eq_none_iff.1 hq) h1
  | some d =>
   rw [hq] at hc2
   have : d = c := by simpa using hc2
   rw [← this]; exact last _ hb h1 d hq
theorem rest_sem {x2 : ByteArray} {cs : List ByteArray} (h3 : cs.length = 3) (hl : lng 0 (L x2) = false) :
  (∀ pre bld, SemOk (trimR (L x2)) pre bld → restL true x2 cs = (compsP true true cs).map fun ns => (ns, pre, bld)) ∧ ((¬ ∃ pre bld, SemOk (trimR (L x2)) pre bld) → restL true x2 cs = none) := by
 obtain ⟨v, hv, hx⟩ := trimR_parts (L x2)
 have e0 : (pieces E0).any badId = false := by decide
 constructor
 ·intro pre bld h
  rw [h.form] at hx
  unfold restL
  rw [if_neg (by simp), if_neg (by omega)]
  by_cases h0 : x2.toList = []
  ·rw [if_pos h0]
   rw [toList_L] at h0
   rw [h0, restB_L] at hx
   obtain ⟨q1, _⟩ := List.append_eq_nil_iff.1 hx.symm
   obtain ⟨q2, q3⟩ := List.append_eq_nil_iff.1 q1
   have p1 : L pre = [] := by
    by_cases hh : L pre = []
    ·exact hh
    ·rw [if_neg hh] at q2; cases q2
   have b1 : L bld = [] := by
    by_cases hh : L bld = []
    ·exact hh
    ·rw [if_neg hh] at q3; cases q3
   rw [L_eq_nil p1, L_eq_nil b1]
  ·have hx2 : x2 = mk (restB pre bld ++ v) := mk_eq hx
   rw [if_neg h0, hx2, extL_ws h.wpre h.wbld hv, if_neg (by simp), rd1, rd2]
   have hany : (pieces pre).any badId = false := by
    by_cases hh : L pre = []
    ·rw [L_eq_nil hh]; exact e0
    ·have := ids_bad (L pre) hh h.wpre (short_pieces (bld := bld) (v := v) (by rw [← hx]; exact hl))
     rw [h.ids hh, mk_L] at this
     simpa using this.symm
   cases compsP true true cs with
   | none => rfl
   | some ns =>
    show tl _ _ _ _ = some (ns, pre, bld)
    unfold tl
    rw [if_neg (by rw [hany]; simp)]
 ·intro hno
  unfold restL
  rw [if_neg (by simp), if_neg (by omega)]
  by_cases h0 : x2.toList = []
  ·rw [toList_L] at h0
   refine absurd ⟨E0, E0, ?_⟩ hno
   rw [h0]
   exact ⟨fun h => absurd rfl h, fun h => absurd rfl h, by rw [restB_L]; rfl, fun h => absurd rfl h⟩
  ·rw [if_neg h0]
   by_cases he : extL x2 = []
   ·rw [if_pos he]
   ·rw [if_neg he]
    obtain ⟨pre, bld, u, wp, wb, wu, hf⟩ := ext_form he
    have hx2 : x2 = mk (restB pre bld ++ u) := mk_eq hf
    rw [hx2, extL_ws wp wb wu, rd1, rd2]
    have ht : trimR (L x2) = restB pre bld := by rw [hf, trimR_app _ _ wu, restB_last wp wb]
    by_cases hids : L pre ≠ [] → ids true (L pre) = true
    ·exact absurd ⟨pre, bld, wp, wb, ht, hids⟩ hno
    ·have hids2 : L pre ≠ [] ∧ ids true (L pre) = false := by
      by_cases hh : L pre = []
      ·exact absurd (fun h => absurd hh h) hids
      ·refine ⟨hh, ?_⟩
       cases hq : ids true (L pre) with
       | false => rfl
       | true => exact absurd (fun _ => hq) hids
     have := ids_bad (L pre) hids2.1 wp (short_pieces (bld := bld) (v := u) (by rw [← hf]; exact hl))
     rw [hids2.2, mk_L] at this
     have hany : (pieces pre).any badId = true := by simpa using this.symm
     cases compsP true true cs with
     | none => rfl
     | some ns =>
      show tl _ _ _ _ = none
      unfold tl
      rw [if_pos hany]
theorem fld_nonempty (l : List UInt8) : ∀ c ∈ (fldL l).1, L c ≠ [] := by
 intro c hc
 unfold fldL at hc
 split at hc
 ·cases hc
 ·rename_i h0
  obtain ⟨x, hx, rfl⟩ := List.mem_map.1 hc
  rw [L_mk']
  exact ((spl_good dg dg_46 _).2 ⟨cnt_take h0 (by have := cnt_run dg l; omega), run_take dg l⟩ x hx).1
theorem semantic_ev (s : ByteArray) (hs : s.size ≤ 2147483647) (hn : 10 ∉ L (fldL (ahd (L s))).2) (hl : lng 0 (L (fldL (ahd (L s))).2) = false) :
  ∃ r : P5, Ev (fun k => spec_VerSemantic.f k s) r ∧ (r.2.2.2.2 = true → r.2.1 = true ∧ parseL true s = some (r.1, r.2.2.1, r.2.2.2.1)) ∧ (r.2.2.2.2 = false → parseL true s = none) := by
 have hz := size_L s
 have ha := ahd_len (L s)
 obtain ⟨f1, f2, f3⟩ := fld_sizes (ahd (L s)) (by omega)
 have hne := fld_nonempty (ahd (L s))
 have hv := verL_fld s
 have hp := pieces_fld s
 obtain ⟨F, hF⟩ : ∃ F, fldL (ahd (L s)) = F := ⟨_, rfl⟩
 have start : ∀ r, Ev (fun k => spec_VerSemantic.j1 k F.1 (mk (trimR (L F.2)))) r → Ev (fun k => spec_VerSemantic.f k s) r := by
  intro r h
  unfold spec_VerSemantic.f
  refine (ahead_ev _ s (Nat.le_refl _)).bind ((fields_ev (mk (ahd (L s))) (by rw [size_L, L_mk']; omega)).bind ?_)
  rw [L_mk', hF]
  rw [hF] at f3
  exact sem_l0 F.1 r _ F.2 (Nat.le_refl _) (by omega) h
 rw [hF] at f1 f2 f3 hv hp hn hl hne
 rw [if_neg hn] at hv
 unfold parseL
 rw [hv]
 by_cases h3 : F.1.length = 3
 ·have hF1 : F.1 ≠ [] := fun e => by rw [e] at h3; cases h3
  rw [if_neg hF1, if_neg (by simp), rd1, rd2, hp hF1]
  obtain ⟨s1, s2⟩ := rest_sem (x2 := F.2) h3 hl
  rw [semNums_comps true F.1 hne] at s1
  have tsz : (mk (trimR (L F.2))).size ≤ 2147483648 := by
   have := trimR_le (L F.2)
   have := size_L F.2
   rw [size_L, L_mk']; omega
  have go : ∀ r, (match semNums F.1 with | some ns => Ev (fun k => spec_VerSemantic.l1 k F.1 (mk (trimR (L F.2))) 3 ns true ⟨#[]⟩ ⟨#[]⟩) r | none => r = none5) → Ev (fun k => spec_VerSemantic.f k s) r := by
   intro r h
   refine start r (Ev.step (fun k => spec_VerSemantic.j1.eq_2 ..) (ifp (by omega) ?_))
   refine sem_l1 F.1 _ h3 (fun c hc => by have := f2 c hc; omega) 3 0 [] r rfl (by omega) rfl ?_
   rw [List.drop_zero]
   cases hq : semNums F.1 with
   | none => rw [hq] at h; exact h
   | some ns => rw [hq] at h; exact h
  cases hq : semNums F.1 with
  | none =>
   rw [hq] at go s1
   refine ⟨none5, go none5 rfl, (fun h => nomatch h), fun _ => ?_⟩
   by_cases hex : ∃ pre bld, SemOk (trimR (L F.2)) pre bld
   ·obtain ⟨pre, bld, h⟩ := hex
    exact s1 pre bld h
   ·exact s2 hex
  | some ns =>
   rw [hq] at go s1
   obtain ⟨r, h1, h2, h4⟩ := sem_tail F.1 (mk (trimR (L F.2))) ns tsz
   rw [L_mk'] at h2 h4
   refine ⟨r, go r h1, fun h => ?_, fun h => s2 (h4 h)⟩
   obtain ⟨e1, e2, e3⟩ := h2 h
   exact ⟨e2, by rw [s1 _ _ e3, e1]; rfl⟩
 ·refine ⟨none5, start none5 (Ev.step (fun k => spec_VerSemantic.j1.eq_2 ..) (ifn (by omega) (now rfl))), (fun h => nomatch h), fun _ => ?_⟩
  by_cases hF1 : F.1 = []
  ·rw [if_pos hF1, if_pos rfl]
  ·rw [if_neg hF1, if_neg (by simp), rd1, rd2, hp hF1]
   unfold restL
   rw [if_neg (by simp), if_pos h3]
end Go.Proofs.YtmfgkidppchobaaDoor.VerXXFnVersionCompare


set_option linter.unusedSimpArgs false
set_option linter.unusedVariables false
namespace Go.Proofs.YtmfgkidppchobaaDoor.VerYXFnVersionCompare
open Go.RowKit Go.Proofs.YtmfgkidppchobaaDoorW.PrintWords Go.Proofs.YtmfgkidppchobaaDoorW.PrintLast Go.Proofs.YtmfgkidppchobaaDoor.XFnVersionCompare Go.Proofs.YtmfgkidppchobaaDoor.EvL Go.Proofs.YtmfgkidppchobaaDoor.Str Go.Proofs.YtmfgkidppchobaaDoor.VerP Go.Proofs.YtmfgkidppchobaaDoor.VerQ Go.Proofs.YtmfgkidppchobaaDoor.VerR Go.Proofs.YtmfgkidppchobaaDoor.Ver1 Go.Proofs.YtmfgkidppchobaaDoor.Ver3 Go.Proofs.YtmfgkidppchobaaDoor.Ver4 Go.Proofs.YtmfgkidppchobaaDoor.Ver5 Go.Proofs.YtmfgkidppchobaaDoor.Ver6 Go.Proofs.YtmfgkidppchobaaDoor.Ver7 Go.Proofs.YtmfgkidppchobaaDoor.Ver10 Go.Proofs.YtmfgkidppchobaaDoor.Ver11 Go.Proofs.YtmfgkidppchobaaDoor.VerTXFnVersionCompare Go.Proofs.YtmfgkidppchobaaDoor.VerUXFnVersionCompare Go.Proofs.YtmfgkidppchobaaDoor.VerVXFnVersionCompare Go.Proofs.YtmfgkidppchobaaDoor.VerWXFnVersionCompare Go.Proofs.YtmfgkidppchobaaDoor.VerXXFnVersionCompare
def Short (pre : ByteArray) : Prop := L pre ≠ [] → ids true (L pre) = true ∧ ∀ x ∈ spl 46 (L pre), numeric x = true → x.length < 20
theorem short_nil : Short ⟨#[]⟩ := fun h => absurd rfl h
def Says (kind : Int) (s : ByteArray) (r : PW) : Prop := r.2.2.2.2.2 = true → (r.2.2.2.2.1 = true → parsedL kind s = some (r.2.1, r.1, r.2.2.1, r.2.2.2.1) ∧ Short r.2.2.1) ∧ (r.2.2.2.2.1 = false → parsedL kind s = none)
theorem sem_short {s : ByteArray} {ns : List Int} {pre bld : ByteArray} (hs : s.size ≤ 2147483647) (hn : 10 ∉ L (fldL (ahd (L s))).2) (hl : lng 0 (L (fldL (ahd (L s))).2) = false) (h : parseL true s = some (ns, pre, bld)) : Short pre := by
 intro hne
 have g := parse_good hs h
 unfold parseL at h
 have hv := verL_fld s
 obtain ⟨F, hF⟩ : ∃ F, fldL (ahd (L s)) = F := ⟨_, rfl⟩
 rw [hF] at hv hn hl
 rw [if_neg hn] at hv
 rw [hv] at h
 by_cases hF1 : F.1 = []
 ·rw [if_pos hF1, if_pos rfl] at h; cases h
 ·rw [if_neg hF1, if_neg (by simp), rd1, rd2] at h
  unfold restL at h
  rw [if_neg (by simp)] at h
  split at h
  ·cases h
  split at h
  ·obtain ⟨m, _, h4⟩ := Option.map_eq_some_iff.mp h
   obtain ⟨_, e2, _⟩ : m = ns ∧ E0 = pre ∧ E0 = bld := by simpa using h4
   rw [← e2] at hne; exact absurd rfl hne
  split at h
  ·cases h
  ·rename_i he
   obtain ⟨p, b, u, wp, wb, wu, hf⟩ := ext_form he
   have hx2 : F.2 = mk (restB p b ++ u) := mk_eq hf
   rw [hx2, extL_ws wp wb wu, rd1, rd2] at h
   obtain ⟨m, _, h4⟩ := Option.bind_eq_some_iff.mp h
   unfold tl at h4
   split at h4
   ·cases h4
   ·rename_i hany
    obtain ⟨_, e2, _⟩ : m = ns ∧ p = pre ∧ b = bld := by simpa using h4
    subst e2
    have hsp := short_pieces (pre := p) (bld := b) (v := u) (by rw [← hf]; exact hl)
    have := ids_bad (L p) hne wp hsp
    rw [mk_L, show (pieces p).any badId = false from by simpa using hany] at this
    exact ⟨this, hsp⟩
theorem take2 {l : List Int} (h : 2 ≤ l.length) : l.take 2 = [rd l 0, rd l 1] := by
 match l, h with
 | a :: b :: r, _ => rfl
theorem fin_gen (kind : Int) (s : ByteArray) (hs : s.size ≤ 2147483647) (hk : kind = 1 ∨ kind = 3 ∨ (kind ≠ 1 ∧ kind ≠ 2 ∧ kind ≠ 3 ∧ parseL true s = none)) :
  ∃ r : PW, Ev (fun k => (spec_VerGeneric.f k s).bind fun bt196 => (if bt196.2.2.2.2.1 = true then (if kind = 3 then (if 2 ≤ (bt196.1.length : Int) then (some ((bt196.1.take (2 : Int).toNat), bt196.2.1, bt196.2.2.1, bt196.2.2.2.1, bt196.2.2.2.2.1, bt196.2.2.2.2.2)) else (none)) else (some (bt196.1, bt196.2.1, bt196.2.2.1, bt196.2.2.2.1, bt196.2.2.2.2.1, bt196.2.2.2.2.2))) else (some (bt196.1, bt196.2.1, bt196.2.2.1, bt196.2.2.2.1, bt196.2.2.2.2.1, bt196.2.2.2.2.2)))) r ∧ Says kind s r := by
 have hg := generic_ev s hs
 unfold genW at hg
 by_cases hn : 10 ∈ L (fldL (ahd (L s))).2
 ·rw [if_pos hn] at hg
  exact ⟨noneW false, hg.bind (ifn (by simp [noneW]) (now rfl)), (fun h => nomatch h)⟩
 rw [if_neg hn] at hg
 have val : ∀ o, (parseL false s).map (fun v => (false, v)) = o → kind ≠ 3 → parsedL kind s = o := by
  intro o ho h3
  unfold parsedL
  rcases hk with h | h | ⟨h1, h2, h4, h5⟩
  ·rw [if_pos h]; exact ho
  ·exact absurd h h3
  ·rw [if_neg h1, if_neg h2, if_neg h4, h5]; exact ho
 cases hq : parseL false s with
 | none =>
  rw [hq] at hg
  refine ⟨noneW true, hg.bind (ifn (by simp [noneW]) (now rfl)), fun _ => ⟨(fun h => nomatch h), fun _ => ?_⟩⟩
  by_cases h3 : kind = 3
  ·unfold parsedL
   rw [if_neg (by omega), if_neg (by omega), if_pos h3, hq]; rfl
  ·exact val _ (by rw [hq]; rfl) h3
 | some v =>
  obtain ⟨ns, pre, bld⟩ := v
  rw [hq] at hg
  obtain ⟨h2, _⟩ := parse_facts hs hq
  have g := parse_good hs hq
  obtain ⟨e1, e2⟩ := g.gen rfl
  by_cases h3 : kind = 3
  ·refine ⟨(ns.take 2, false, ⟨#[]⟩, ⟨#[]⟩, true, true), hg.bind (ifp rfl (ifp h3 (ifp (by show (2 : Int) ≤ (ns.length : Int); omega) (now rfl)))), fun _ => ⟨fun _ => ⟨?_, short_nil⟩, (fun h => nomatch h)⟩⟩
   unfold parsedL
   rw [if_neg (by omega), if_neg (by omega), if_pos h3, hq]
   show some (false, [rd ns 0, rd ns 1], E0, E0) = some (false, ns.take 2, _, _)
   rw [take2 h2]
   try rfl
  ·refine ⟨(ns, false, ⟨#[]⟩, ⟨#[]⟩, true, true), hg.bind (ifp rfl (ifn h3 (now rfl))), fun _ => ⟨fun _ => ⟨?_, short_nil⟩, (fun h => nomatch h)⟩⟩
   refine val _ ?_ h3
   rw [hq, e1, e2]; rfl
theorem parsed_spec (kind : Int) (s : ByteArray) (hs : s.size ≤ 2147483647) : ∃ r : PW, Ev (fun k => spec_VerParsed.f k kind s) r ∧ Says kind s r := by
 have hz := size_L s
 have ha := ahd_len (L s)
 obtain ⟨f1, f2, f3⟩ := fld_sizes (ahd (L s)) (by omega)
 have hgen := fin_gen kind s hs
 have hsem := semantic_ev s hs
 have hsh := fun ns pre bld => @sem_short s ns pre bld hs
 obtain ⟨F, hF⟩ : ∃ F, fldL (ahd (L s)) = F := ⟨_, rfl⟩
 have start : ∀ r, (10 ∈ L F.2 → Ev (fun k => spec_VerParsed.j0 k kind s true) r) → (10 ∉ L F.2 → (kind = 1 ∨ kind = 3) → Ev (fun k => spec_VerParsed.j0 k kind s false) r) → (10 ∉ L F.2 → kind ≠ 1 → kind ≠ 3 → Ev (fun k => spec_VerParsed.j0 k kind s (lng 0 (L F.2))) r) → Ev (fun k => spec_VerParsed.f k kind s) r := by
  intro r h1 h2 h3
  unfold spec_VerParsed.f
  refine (ahead_ev _ s (Nat.le_refl _)).bind ((fields_ev (mk (ahd (L s))) (by rw [size_L, L_mk']; omega)).bind ?_)
  rw [L_mk', hF]
  rw [hF] at f3
  refine (place_ev F.2 10 (by omega)).bind ?_
  by_cases hn : 10 ∈ L F.2
  ·exact ifp (place10 _ hn).2 (h1 hn)
  ·refine ifn (by rw [place_neg hn]; omega) ?_
   by_cases k1 : kind = 1
   ·exact ifp k1 (h2 hn (.inl k1))
   refine ifn k1 ?_
   by_cases k3 : kind = 3
   ·exact ifp k3 (h2 hn (.inr k3))
   refine ifn k3 ((long_ev F.2 (by omega)).bind (h3 hn k1 k3))
 rw [hF] at hsem hsh
 by_cases hn : 10 ∈ L F.2
 ·exact ⟨noneW false, start _ (fun _ => Ev.step (fun k => spec_VerParsed.j0.eq_2 ..) (ifp rfl (now rfl))) (fun h => absurd hn h) (fun h => absurd hn h), (fun h => nomatch h)⟩
 by_cases k13 : kind = 1 ∨ kind = 3
 ·obtain ⟨r, h1, h2⟩ := hgen (by rcases k13 with h | h; exact .inl h; exact .inr (.inl h))
  refine ⟨r, start r (fun h => absurd h hn) (fun _ _ => ?_) (fun _ h4 h5 => by rcases k13 with h | h; exact absurd h h4; exact absurd h h5), h2⟩
  refine Ev.step (fun k => spec_VerParsed.j0.eq_2 ..) (ifn (by simp) ?_)
  by_cases k1 : kind = 1
  ·refine ifp k1 (Ev.step (fun k => spec_VerParsed.j1.eq_2 ..) (ifn (by simp) h1))
  ·have k3 : kind = 3 := by rcases k13 with h | h; exact absurd h k1; exact h
   refine ifn k1 (Ev.step (fun k => spec_VerParsed.j1.eq_2 ..) (ifn (by rw [k3]; decide) h1))
 ·have k1 : kind ≠ 1 := fun h => k13 (.inl h)
  have k3 : kind ≠ 3 := fun h => k13 (.inr h)
  cases hl : lng 0 (L F.2) with
  | true =>
   refine ⟨noneW false, start _ (fun h => absurd h hn) (fun _ h => absurd h k13) (fun _ _ _ => ?_), (fun h => nomatch h)⟩
   rw [hl]
   exact Ev.step (fun k => spec_VerParsed.j0.eq_2 ..) (ifp rfl (now rfl))
  | false =>
   obtain ⟨r, h1, h2, h4⟩ := hsem hn hl
   have go : ∀ q, Ev (fun k => spec_VerParsed.j1 k kind s true) q → Ev (fun k => spec_VerParsed.f k kind s) q := by
    intro q hq
    refine start q (fun h => absurd h hn) (fun _ h => absurd h k13) (fun _ _ _ => ?_)
    rw [hl]
    refine Ev.step (fun k => spec_VerParsed.j0.eq_2 ..) (ifn (by simp) (ifn k1 ?_))
    rw [bne_iff_ne.2 k3]; exact hq
   have fin : ∀ x48 : Bool, x48 = true → Ev (fun k => spec_VerParsed.j2 k kind s r.2.2.2.2 x48 r.1 r.2.1 r.2.2.1 r.2.2.2.1) (r.1, r.2.1, r.2.2.1, r.2.2.2.1, r.2.2.2.2, true) := fun x48 hx => Ev.step (fun k => spec_VerParsed.j2.eq_2 ..) (ifp hx (now rfl))
   by_cases hok : r.2.2.2.2 = true
   ·obtain ⟨e1, e2⟩ := h2 hok
    refine ⟨(r.1, r.2.1, r.2.2.1, r.2.2.2.1, r.2.2.2.2, true), go _ (Ev.step (fun k => spec_VerParsed.j1.eq_2 ..) (ifp rfl (h1.bind (ifp hok (fin true rfl))))), fun _ => ⟨fun _ => ⟨?_, hsh _ _ _ hn hl e2⟩, (fun h => absurd (hok.symm.trans h) (by simp))⟩⟩
    show parsedL kind s = some (r.2.1, r.1, r.2.2.1, r.2.2.2.1)
    unfold parsedL
    rw [if_neg k1, e1]
    by_cases k2 : kind = 2
    ·rw [if_pos k2, e2]; rfl
    ·rw [if_neg k2, if_neg k3, e2]
   ·have hok : r.2.2.2.2 = false := by simpa using hok
    have e2 := h4 hok
    by_cases k2 : kind = 2
    ·refine ⟨(r.1, r.2.1, r.2.2.1, r.2.2.2.1, r.2.2.2.2, true), go _ (Ev.step (fun k => spec_VerParsed.j1.eq_2 ..) (ifp rfl (h1.bind (ifn (by rw [hok]; simp) ?_)))), fun _ => ⟨(fun h => absurd (hok.symm.trans h) (by simp)), fun _ => ?_⟩⟩
     ·rw [show (kind == 2) = true from beq_iff_eq.2 k2]; exact fin true rfl
     ·unfold parsedL
      rw [if_neg k1, if_pos k2, e2]; rfl
    ·obtain ⟨q, h5, h6⟩ := hgen (.inr (.inr ⟨k1, k2, k3, e2⟩))
     refine ⟨q, go _ (Ev.step (fun k => spec_VerParsed.j1.eq_2 ..) (ifp rfl (h1.bind (ifn (by rw [hok]; simp) ?_)))), h6⟩
     rw [show (kind == 2) = false from beq_eq_false_iff_ne.2 k2]
     exact Ev.step (fun k => spec_VerParsed.j2.eq_2 ..) (ifn (by simp) h5)
end Go.Proofs.YtmfgkidppchobaaDoor.VerYXFnVersionCompare


set_option linter.unusedSimpArgs false
set_option linter.unusedVariables false
namespace Go.Proofs.YtmfgkidppchobaaDoor.VerZXFnVersionCompare
open Go.RowKit Go.Proofs.YtmfgkidppchobaaDoorW.PrintWords Go.Proofs.YtmfgkidppchobaaDoorW.PrintLast Go.Proofs.YtmfgkidppchobaaDoor.XFnVersionCompare Go.Proofs.YtmfgkidppchobaaDoor.EvL Go.Proofs.YtmfgkidppchobaaDoor.Str Go.Proofs.YtmfgkidppchobaaDoor.VerP Go.Proofs.YtmfgkidppchobaaDoor.VerQ Go.Proofs.YtmfgkidppchobaaDoor.VerR Go.Proofs.YtmfgkidppchobaaDoor.Ver1 Go.Proofs.YtmfgkidppchobaaDoor.Ver3 Go.Proofs.YtmfgkidppchobaaDoor.Ver4 Go.Proofs.YtmfgkidppchobaaDoor.Ver5 Go.Proofs.YtmfgkidppchobaaDoor.Ver6 Go.Proofs.YtmfgkidppchobaaDoor.Ver7 Go.Proofs.YtmfgkidppchobaaDoor.Ver10 Go.Proofs.YtmfgkidppchobaaDoor.Ver11 Go.Proofs.YtmfgkidppchobaaDoor.VerTXFnVersionCompare Go.Proofs.YtmfgkidppchobaaDoor.VerUXFnVersionCompare Go.Proofs.YtmfgkidppchobaaDoor.VerVXFnVersionCompare Go.Proofs.YtmfgkidppchobaaDoor.VerWXFnVersionCompare Go.Proofs.YtmfgkidppchobaaDoor.VerXXFnVersionCompare Go.Proofs.YtmfgkidppchobaaDoor.VerYXFnVersionCompare
theorem val_add (l : List UInt8) (x : Nat) : Num.val x l = x * 10 ^ l.length + Num.val 0 l := by
 induction l generalizing x with
 | nil => show x = x * 1 + 0; omega
 | cons c r ih =>
  show Num.val (x * 10 + (c.toNat - 48)) r = x * 10 ^ (r.length + 1) + Num.val (0 * 10 + (c.toNat - 48)) r
  rw [ih, ih (0 * 10 + (c.toNat - 48)), Nat.pow_succ, Nat.add_mul, Nat.add_mul, Nat.mul_assoc x 10, Nat.mul_comm 10]
  omega
theorem val_lt (l : List UInt8) (h : ∀ c ∈ l, dg c = true) : Num.val 0 l < 10 ^ l.length := by
 induction l with
 | nil => exact Nat.one_pos
 | cons c r ih =>
  have hc : 48 ≤ c.toNat ∧ c.toNat ≤ 57 := by have := h c (by simp); unfold dg at this; exact of_decide_eq_true this
  have := ih (fun x hx => h x (by simp [hx]))
  show Num.val (0 * 10 + (c.toNat - 48)) r < 10 ^ (r.length + 1)
  rw [val_add, Nat.pow_succ]
  have h2 : (0 * 10 + (c.toNat - 48)) * 10 ^ r.length ≤ 9 * 10 ^ r.length := Nat.mul_le_mul_right _ (by omega)
  omega
theorem uint_val : ∀ (l : List UInt8) (n u : Nat), uint MX n l = some u → u = Num.val n l
 | [], n, u, h => (Option.some.inj h).symm
 | c :: r, n, u, h => by
  rw [uint_cons] at h
  generalize (MX - (c.toNat - 48)) / 10 = M at h
  by_cases h1 : dg c = true
  ·rw [if_pos h1] at h
   by_cases h2 : n > M
   ·rw [if_pos h2] at h; cases h
   ·rw [if_neg h2] at h
    have := uint_val r _ u h
    have e : Num.val n (c :: r) = Num.val (n * 10 + (c.toNat - 48)) r := rfl
    rw [this, e]
    exact congrArg (fun z => Num.val z r) (by omega)
  ·rw [if_neg h1] at h; cases h
theorem bl_cons (a : UInt8) (x : List UInt8) (b : UInt8) (y : List UInt8) : Op.bytesLess (a :: x) (b :: y) = (decide (a < b) || (a == b && Op.bytesLess x y)) := rfl
theorem lex_val : ∀ (a b : List UInt8) (x : Nat), a.length = b.length → (∀ c ∈ a, dg c = true) → (∀ c ∈ b, dg c = true) → (Op.bytesLess a b = true ↔ Num.val x a < Num.val x b) ∧ (a = b ↔ Num.val x a = Num.val x b)
 | [], [], x, _, _, _ => ⟨⟨(fun h => nomatch h), fun h => absurd h (Nat.lt_irrefl _)⟩, ⟨fun _ => rfl, fun _ => rfl⟩⟩
 | [], _ :: _, _, h, _, _ => nomatch h
 | _ :: _, [], _, h, _, _ => nomatch h
 | c :: a, d :: b, x, h, ha, hb => by
  have hl : a.length = b.length := by simpa using h
  have hc : 48 ≤ c.toNat ∧ c.toNat ≤ 57 := by have := ha c (by simp); unfold dg at this; exact of_decide_eq_true this
  have hd : 48 ≤ d.toNat ∧ d.toNat ≤ 57 := by have := hb d (by simp); unfold dg at this; exact of_decide_eq_true this
  have ra := val_lt a (fun x hx => ha x (by simp [hx]))
  have rb := val_lt b (fun x hx => hb x (by simp [hx]))
  have step : ∀ p q : Nat, p < q → Num.val p a < Num.val q b := by
   intro p q hpq
   rw [val_add a p, val_add b q, ← hl]
   rw [← hl] at rb
   have : (p + 1) * 10 ^ a.length ≤ q * 10 ^ a.length := Nat.mul_le_mul_right _ hpq
   rw [Nat.add_mul] at this
   omega
  have step2 : ∀ p q : Nat, q < p → Num.val q b < Num.val p a := by
   intro p q hpq
   rw [val_add a p, val_add b q, ← hl]
   rw [← hl] at rb
   have : (q + 1) * 10 ^ a.length ≤ p * 10 ^ a.length := Nat.mul_le_mul_right _ hpq
   rw [Nat.add_mul] at this
   omega
  have e1 : (c < d) = (c.toNat < d.toNat) := rfl
  rw [bl_cons]
  show ((decide (c < d) || (c == d && Op.bytesLess a b)) = true ↔ Num.val (x * 10 + (c.toNat - 48)) a < Num.val (x * 10 + (d.toNat - 48)) b) ∧ (c :: a = d :: b ↔ Num.val (x * 10 + (c.toNat - 48)) a = Num.val (x * 10 + (d.toNat - 48)) b)
  by_cases h1 : c = d
  ·subst h1
   have ih := lex_val a b (x * 10 + (c.toNat - 48)) hl (fun x hx => ha x (by simp [hx])) (fun x hx => hb x (by simp [hx]))
   have : decide (c < c) = false := decide_eq_false (by rw [e1]; omega)
   rw [this, Bool.false_or, beq_self_eq_true, Bool.true_and]
   exact ⟨ih.1, by rw [← ih.2]; simp⟩
  ·have hne : c.toNat ≠ d.toNat := fun e => h1 (UInt8.toNat_inj.1 e)
   have hb2 : (c == d) = false := beq_eq_false_iff_ne.2 h1
   rw [hb2, Bool.false_and, Bool.or_false, decide_eq_true_eq, e1]
   by_cases h2 : c.toNat < d.toNat
   ·have := step (x * 10 + (c.toNat - 48)) (x * 10 + (d.toNat - 48)) (by omega)
    exact ⟨⟨fun _ => this, fun _ => h2⟩, ⟨fun e => by injection e with e _; exact absurd e h1, fun e => by omega⟩⟩
   ·have := step2 (x * 10 + (c.toNat - 48)) (x * 10 + (d.toNat - 48)) (by omega)
    exact ⟨⟨fun h => absurd h h2, fun h => by omega⟩, ⟨fun e => by injection e with e _; exact absurd e h1, fun e => by omega⟩⟩
theorem plain_ge {l : List UInt8} (h : ∀ c ∈ l, dg c = true) (hp : plain l = true) (h2 : 2 ≤ l.length) : 10 ^ (l.length - 1) ≤ Num.val 0 l := by
 match l, h2 with
 | c :: d :: r, _ =>
  have hc : 48 ≤ c.toNat ∧ c.toNat ≤ 57 := by have := h c (by simp); unfold dg at this; exact of_decide_eq_true this
  have hc2 : c ≠ 48 := bne_iff_ne.1 hp
  have hc3 : c.toNat ≠ 48 := fun e => hc2 (UInt8.toNat_inj.1 e)
  show 10 ^ (d :: r).length ≤ Num.val (0 * 10 + (c.toNat - 48)) (d :: r)
  rw [val_add]
  have : 1 * 10 ^ (d :: r).length ≤ (0 * 10 + (c.toNat - 48)) * 10 ^ (d :: r).length := Nat.mul_le_mul_right _ (by omega)
  omega
theorem len_val {a b : List UInt8} (ha : ∀ c ∈ a, dg c = true) (hb : ∀ c ∈ b, dg c = true) (hp : plain b = true) (hne : a ≠ []) (h : a.length < b.length) : Num.val 0 a < Num.val 0 b := by
 have h1 : 1 ≤ a.length := by cases a with
  | nil => exact absurd rfl hne
  | cons _ _ => simp
 have h2 := val_lt a ha
 have h3 := plain_ge hb hp (by omega)
 have h4 : 10 ^ a.length ≤ 10 ^ (b.length - 1) := Nat.pow_le_pow_right (by decide) (by omega)
 omega
def identL (a b : List UInt8) : Int :=
 if numeric a = true ∧ numeric b = false then -1
 else if numeric a = false ∧ numeric b = true then 1
 else if numeric a = true ∧ a.length ≠ b.length then (if a.length < b.length then -1 else 1)
 else if Op.bytesLess a b = true then -1 else if Op.bytesLess b a = true then 1 else 0
def mixedL (a b : List UInt8) : Bool := numeric a && !numeric b && (match b with | [] => false | c :: _ => dg c || c == 45)
def Pc (x : List UInt8) : Prop := okp true x = true ∧ (numeric x = true → x.length < 20)
theorem numU_some {s : ByteArray} (h : numeric (L s) = true) (hl : (L s).length < 20) : numU s = some (Num.val 0 (L s)) := by
 have h1 := numU_numeric (s := s) (fun _ => hl)
 rw [h] at h1
 cases hu : numU s with
 | none => rw [hu] at h1; cases h1
 | some u =>
  rw [numU_uint] at hu
  by_cases h0 : L s = []
  ·rw [if_pos h0] at hu; cases hu
  ·rw [if_neg h0] at hu
   rw [uint_val _ _ _ hu]
theorem numU_none {s : ByteArray} (h : numeric (L s) = false) (hl : numeric (L s) = true → (L s).length < 20) : numU s = none := by
 have h1 := numU_numeric (s := s) hl
 rw [h] at h1
 cases hu : numU s with
 | none => rfl
 | some u => rw [hu] at h1; cases h1
theorem numeric_digits {x : List UInt8} (h : numeric x = true) : x ≠ [] ∧ ∀ c ∈ x, dg c = true := by
 unfold numeric at h
 rw [Bool.and_eq_true] at h
 exact ⟨fun e => by rw [e] at h; exact absurd h.1 (by simp), List.all_eq_true.1 h.2⟩
theorem pc_plain {x : List UInt8} (h : Pc x) (hn : numeric x = true) : plain x = true := by
 have h1 := h.1
 unfold okp at h1
 rw [hn] at h1
 simp at h1
 exact h1.2.2
theorem digit_letter {a b : List UInt8} (ha : numeric a = true) (hb : numeric b = false) (hg : gd wd b) (hm : mixedL a b = false) : Op.bytesLess a b = true ∧ Op.bytesLess b a = false ∧ (b == a) = false := by
 obtain ⟨hne, hd⟩ := numeric_digits ha
 cases a with
 | nil => exact absurd rfl hne
 | cons c r =>
  cases b with
  | nil => exact absurd rfl hg.1
  | cons d t =>
   have hc : 48 ≤ c.toNat ∧ c.toNat ≤ 57 := by have := hd c (by simp); unfold dg at this; exact of_decide_eq_true this
   have hw := hg.2 d (by simp)
   unfold mixedL at hm
   rw [ha, hb] at hm
   have hm : (dg d || d == 45) = false := by simpa using hm
   rw [Bool.or_eq_false_iff] at hm
   have hd1 : ¬ (48 ≤ d.toNat ∧ d.toNat ≤ 57) := by have := hm.1; unfold dg at this; exact of_decide_eq_false this
   have hd2 : d.toNat ≠ 45 := fun e => absurd (UInt8.toNat_inj.1 (show d.toNat = (45 : UInt8).toNat from e)) (beq_eq_false_iff_ne.1 hm.2)
   unfold wd at hw
   have hw := of_decide_eq_true hw
   have hlt : c.toNat < d.toNat := by omega
   have e1 : (c < d) = (c.toNat < d.toNat) := rfl
   have e2 : (d < c) = (d.toNat < c.toNat) := rfl
   have hne2 : d ≠ c := fun e => by rw [e] at hlt; omega
   refine ⟨?_, ?_, ?_⟩
   ·rw [bl_cons, decide_eq_true (by rw [e1]; exact hlt), Bool.true_or]
   ·rw [bl_cons, decide_eq_false (by rw [e2]; omega), beq_eq_false_iff_ne.2 hne2]; rfl
   ·rw [beq_eq_false_iff_ne]; intro e; injection e with e _; exact hne2 e
theorem gtE : ∀ a b : List UInt8, Op.bytesLess b a = !(Op.bytesLess a b || a == b) := gt_eq
def precL : List ByteArray → List ByteArray → Int
 | a :: x, b :: y => if identL (L a) (L b) = 0 then precL x y else identL (L a) (L b)
 | [], [] => 0
 | [], _ :: _ => -1
 | _ :: _, [] => 1
def askL : List ByteArray → List ByteArray → Bool
 | a :: x, b :: y => !mixedL (L a) (L b) && (!mixedL (L b) (L a) && askL x y)
 | _, _ => true
theorem ident_pre (a b : ByteArray) (x y : List ByteArray) (ha : Pc (L a)) (hb : Pc (L b)) (h1 : mixedL (L a) (L b) = false) (h2 : mixedL (L b) (L a) = false) :
  preF (a :: x) (b :: y) = if identL (L a) (L b) = 0 then preF x y else identL (L a) (L b) := by
 have txt : (if Op.bytesLess b.toList a.toList = true then 1 else if (!(Op.bytesLess b.toList a.toList || b.toList == a.toList)) = true then -1 else preF x y) = if (if Op.bytesLess (L a) (L b) = true then (-1 : Int) else if Op.bytesLess (L b) (L a) = true then 1 else 0) = 0 then preF x y else (if Op.bytesLess (L a) (L b) = true then (-1 : Int) else if Op.bytesLess (L b) (L a) = true then 1 else 0) := by
  rw [toList_L, toList_L]
  have g1 := gtE (L b) (L a)
  cases e1 : Op.bytesLess (L b) (L a) <;> cases e2 : (L b == L a) <;> rw [e1, e2] at g1 <;> rw [g1] <;> simp
 rw [preF_cons]
 cases na : numeric (L a) with
 | true =>
  cases nb : numeric (L b) with
  | true =>
   rw [numU_some na (ha.2 na), numU_some nb (hb.2 nb)]
   obtain ⟨an, ad⟩ := numeric_digits na
   obtain ⟨bn, bd⟩ := numeric_digits nb
   show (if Num.val 0 (L b) < Num.val 0 (L a) then 1 else if Num.val 0 (L a) < Num.val 0 (L b) then -1 else preF x y) = _
   rcases Nat.lt_trichotomy (L a).length (L b).length with hl | hl | hl
   ·have hv := len_val ad bd (pc_plain hb nb) an hl
    have hi : identL (L a) (L b) = -1 := by
     unfold identL
     rw [na, nb, if_neg (by simp), if_neg (by simp), if_pos ⟨rfl, by omega⟩, if_pos hl]
    rw [hi, if_neg (by omega : ¬ Num.val 0 (L b) < Num.val 0 (L a)), if_pos hv, if_neg (by decide)]
   ·obtain ⟨v1, v2⟩ := lex_val (L a) (L b) 0 hl ad bd
    obtain ⟨v3, _⟩ := lex_val (L b) (L a) 0 hl.symm bd ad
    have hi : identL (L a) (L b) = if Op.bytesLess (L a) (L b) = true then -1 else if Op.bytesLess (L b) (L a) = true then 1 else 0 := by
     unfold identL
     rw [na, nb, if_neg (by simp), if_neg (by simp), if_neg (by rw [hl]; simp)]
    rw [hi]
    by_cases c1 : Num.val 0 (L b) < Num.val 0 (L a)
    ·have b1 : ¬ Op.bytesLess (L a) (L b) = true := fun h => by have := v1.1 h; omega
     rw [if_pos c1, if_neg b1, if_pos (v3.2 c1), if_neg (by decide)]
    ·by_cases c2 : Num.val 0 (L a) < Num.val 0 (L b)
     ·rw [if_neg c1, if_pos c2, if_pos (v1.2 c2), if_neg (by decide)]
     ·have b1 : ¬ Op.bytesLess (L a) (L b) = true := fun h => c2 (v1.1 h)
      have b2 : ¬ Op.bytesLess (L b) (L a) = true := fun h => c1 (v3.1 h)
      rw [if_neg c1, if_neg c2, if_neg b1, if_neg b2, if_pos rfl]
   ·have hv := len_val bd ad (pc_plain ha na) bn hl
    have hi : identL (L a) (L b) = 1 := by
     unfold identL
     rw [na, nb, if_neg (by simp), if_neg (by simp), if_pos ⟨rfl, by omega⟩, if_neg (by omega)]
    rw [hi, if_pos hv, if_neg (by decide)]
  | false =>
   rw [numU_some na (ha.2 na), numU_none nb hb.2]
   obtain ⟨t1, t2, t3⟩ := digit_letter na nb (okp_gd hb.1) h1
   have hi : identL (L a) (L b) = -1 := by unfold identL; rw [na, nb, if_pos ⟨rfl, rfl⟩]
   show (if Op.bytesLess b.toList a.toList = true then 1 else if (!(Op.bytesLess b.toList a.toList || b.toList == a.toList)) = true then -1 else preF x y) = _
   rw [hi, toList_L, toList_L, t2, t3, if_neg (by simp), if_pos (by rfl), if_neg (by decide)]
 | false =>
  rw [numU_none na ha.2]
  show (if Op.bytesLess b.toList a.toList = true then 1 else if (!(Op.bytesLess b.toList a.toList || b.toList == a.toList)) = true then -1 else preF x y) = _
  cases nb : numeric (L b) with
  | true =>
   obtain ⟨t1, t2, t3⟩ := digit_letter nb na (okp_gd ha.1) h2
   have hi : identL (L a) (L b) = 1 := by unfold identL; rw [na, nb, if_neg (by simp), if_pos ⟨rfl, rfl⟩]
   rw [hi, toList_L, toList_L, t1, if_pos rfl, if_neg (by decide)]
  | false =>
   have hi : identL (L a) (L b) = if Op.bytesLess (L a) (L b) = true then -1 else if Op.bytesLess (L b) (L a) = true then 1 else 0 := by
    unfold identL
    rw [na, nb, if_neg (by simp), if_neg (by simp), if_neg (by simp)]
   rw [txt, hi]
theorem prec_pre : ∀ (x y : List ByteArray), (∀ c ∈ x, Pc (L c)) → (∀ c ∈ y, Pc (L c)) → askL x y = true → preF x y = precL x y
 | [], [], _, _, _ => rfl
 | [], _ :: _, _, _, _ => rfl
 | _ :: _, [], _, _, _ => rfl
 | a :: x, b :: y, hx, hy, h => by
  have h : (!mixedL (L a) (L b) && (!mixedL (L b) (L a) && askL x y)) = true := h
  rw [Bool.and_eq_true, Bool.and_eq_true] at h
  rw [ident_pre a b x y (hx a (by simp)) (hy b (by simp)) (by simpa using h.1) (by simpa using h.2.1), prec_pre x y (fun c hc => hx c (by simp [hc])) (fun c hc => hy c (by simp [hc])) h.2.2]
  rfl
theorem ident_self (a : List UInt8) : identL a a = 0 := by
 have h : Op.bytesLess a a = false := by have := gtE a a; rw [beq_self_eq_true, Bool.or_true] at this; exact this
 unfold identL
 cases numeric a <;> simp [h]
theorem prec_self : ∀ x : List ByteArray, precL x x = 0
 | [] => rfl
 | a :: x => by show (if identL (L a) (L a) = 0 then precL x x else _) = 0; rw [ident_self, if_pos rfl]; exact prec_self x
def zl : List Int → Int
 | [] => 0
 | a :: l => if a < 0 then -1 else if a > 0 then 1 else zl l
def zr : List Int → Int
 | [] => 0
 | b :: m => if 0 < b then -1 else if 0 > b then 1 else zr m
def zc : List Int → List Int → Int
 | [], m => zr m
 | a :: l, [] => zl (a :: l)
 | a :: l, b :: m => if a < b then -1 else if a > b then 1 else zc l m
theorem zl_eq (l : List Int) (h : U64 l) : zl l = if zeros l = false then 1 else 0 := by
 induction l with
 | nil => rfl
 | cons a l ih =>
  have ha := h a (by simp)
  have := ih (fun x hx => h x (by simp [hx]))
  show (if a < 0 then -1 else if a > 0 then 1 else zl l) = if ((a == 0) && zeros l) = false then 1 else 0
  by_cases h0 : a = 0
  ·subst h0; rw [if_neg (by omega), if_neg (by omega), this]; rfl
  ·rw [if_neg (by omega), if_pos (by omega), beq_eq_false_iff_ne.2 h0]; rfl
theorem zr_eq (m : List Int) (h : U64 m) : zr m = if zeros m = false then -1 else 0 := by
 induction m with
 | nil => rfl
 | cons a l ih =>
  have ha := h a (by simp)
  have := ih (fun x hx => h x (by simp [hx]))
  show (if 0 < a then -1 else if 0 > a then 1 else zr l) = if ((a == 0) && zeros l) = false then -1 else 0
  by_cases h0 : a = 0
  ·subst h0; rw [if_neg (by omega), if_neg (by omega), this]; rfl
  ·rw [if_pos (by omega), beq_eq_false_iff_ne.2 h0]; rfl
theorem zc_head : ∀ (l m : List Int), U64 l → U64 m → zc l m = (match headCmp l m with
  | some r => r
  | none => if m.length < l.length ∧ zeros (l.drop m.length) = false then 1 else if l.length < m.length ∧ zeros (m.drop l.length) = false then -1 else 0)
 | [], [], _, _ => rfl
 | a :: l, [], hl, _ => by
  show zl (a :: l) = if 0 < (a :: l).length ∧ zeros (a :: l) = false then 1 else if (a :: l).length < 0 ∧ zeros (([] : List Int).drop (a :: l).length) = false then -1 else 0
  rw [zl_eq _ hl]
  by_cases h : zeros (a :: l) = false
  ·rw [if_pos h, if_pos ⟨by simp, h⟩]
  ·rw [if_neg h, if_neg (fun hh => h hh.2), if_neg (fun hh => absurd hh.1 (by simp))]
 | [], b :: m, _, hm => by
  show zr (b :: m) = if (b :: m).length < 0 ∧ zeros (([] : List Int).drop (b :: m).length) = false then 1 else if 0 < (b :: m).length ∧ zeros (b :: m) = false then -1 else 0
  rw [zr_eq _ hm]
  by_cases h : zeros (b :: m) = false
  ·rw [if_pos h, if_neg (fun hh => absurd hh.1 (by simp)), if_pos ⟨by simp, h⟩]
  ·rw [if_neg h, if_neg (fun hh => absurd hh.1 (by simp)), if_neg (fun hh => h hh.2)]
 | a :: l, b :: m, hl, hm => by
  have ih := zc_head l m (fun x hx => hl x (by simp [hx])) (fun x hx => hm x (by simp [hx]))
  show (if a < b then -1 else if a > b then 1 else zc l m) = (match (if b < a then some 1 else if a < b then some (-1) else headCmp l m) with
   | some r => r
   | none => if m.length + 1 < l.length + 1 ∧ zeros (l.drop m.length) = false then 1 else if l.length + 1 < m.length + 1 ∧ zeros (m.drop l.length) = false then -1 else 0)
  by_cases h1 : a < b
  ·rw [if_pos h1, if_neg (by omega), if_pos h1]
  ·rw [if_neg h1]
   by_cases h2 : b < a
   ·rw [if_pos h2, if_pos h2]
   ·rw [if_neg (by omega), if_neg h2, if_neg h1, ih]
    cases headCmp l m with
    | some r => rfl
    | none => simp only [Nat.add_lt_add_iff_right]
end Go.Proofs.YtmfgkidppchobaaDoor.VerZXFnVersionCompare


set_option linter.unusedSimpArgs false
set_option linter.unusedVariables false
namespace Go.Proofs.YtmfgkidppchobaaDoor.VerOXFnVersionCompare
open Go.RowKit Go.Proofs.YtmfgkidppchobaaDoorW.PrintWords Go.Proofs.YtmfgkidppchobaaDoorW.PrintLast Go.Proofs.YtmfgkidppchobaaDoor.XFnVersionCompare Go.Proofs.YtmfgkidppchobaaDoor.EvL Go.Proofs.YtmfgkidppchobaaDoor.Str Go.Proofs.YtmfgkidppchobaaDoor.VerP Go.Proofs.YtmfgkidppchobaaDoor.VerQ Go.Proofs.YtmfgkidppchobaaDoor.VerR Go.Proofs.YtmfgkidppchobaaDoor.Ver1 Go.Proofs.YtmfgkidppchobaaDoor.Ver3 Go.Proofs.YtmfgkidppchobaaDoor.Ver4 Go.Proofs.YtmfgkidppchobaaDoor.Ver5 Go.Proofs.YtmfgkidppchobaaDoor.Ver6 Go.Proofs.YtmfgkidppchobaaDoor.Ver7 Go.Proofs.YtmfgkidppchobaaDoor.Ver10 Go.Proofs.YtmfgkidppchobaaDoor.Ver11 Go.Proofs.YtmfgkidppchobaaDoor.VerTXFnVersionCompare Go.Proofs.YtmfgkidppchobaaDoor.VerUXFnVersionCompare Go.Proofs.YtmfgkidppchobaaDoor.VerVXFnVersionCompare Go.Proofs.YtmfgkidppchobaaDoor.VerWXFnVersionCompare Go.Proofs.YtmfgkidppchobaaDoor.VerXXFnVersionCompare Go.Proofs.YtmfgkidppchobaaDoor.VerYXFnVersionCompare Go.Proofs.YtmfgkidppchobaaDoor.VerZXFnVersionCompare
theorem mixed_ev (a b : ByteArray) (ha : a.size < 4611686018427387904) (hb : b.size < 4611686018427387904) : Ev (fun k => spec_verMixed.f k a b) (mixedL (L a) (L b)) := by
 unfold spec_verMixed.f
 refine (numeric_ev a ha).bind ?_
 unfold mixedL
 cases na : numeric (L a) with
 | false => exact ifn (by simp) (now rfl)
 | true =>
  refine ifp rfl ((numeric_ev b hb).bind ?_)
  cases nb : numeric (L b) with
  | true => exact ifp rfl (now rfl)
  | false =>
   refine ifn (by simp) ?_
   cases hq : L b with
   | nil => exact ifp (by rw [toList_L, hq]) (now rfl)
   | cons c r =>
    have hz := size_cons hq
    refine ifn (by rw [toList_L, hq]; simp) (ifp (by omega) ?_)
    rw [bt0 hq]
    refine cbv (digit_eq c) ?_
    show Ev _ (true && !false && (dg c || c == 45))
    by_cases hd : dg c = true
    ·refine ifp hd (now ?_); rw [hd]; rfl
    ·refine ifn hd (now ?_)
     rw [show dg c = false from by simpa using hd, Bool.false_or]
     show ((c.toNat : Int) == 45) = (true && (c == 45))
     rw [Bool.true_and]
     by_cases h : c = 45
     ·rw [h]; rfl
     ·rw [beq_eq_false_iff_ne.2 h]; exact beq_eq_false_iff_ne.2 (fun e => h ((byte_eq (b := 45)).1 e))
theorem ident_ev (a b : ByteArray) (ha : a.size < 4611686018427387904) (hb : b.size < 4611686018427387904) : Ev (fun k => spec_verIdentifier.f k a b) (identL (L a) (L b)) := by
 have hza := size_L a
 have hzb := size_L b
 unfold spec_verIdentifier.f
 refine (numeric_ev a ha).bind ((numeric_ev b hb).bind ?_)
 have j2 : ∀ x23 : Bool, x23 = true → (L a).length ≠ (L b).length → Ev (fun k => spec_verIdentifier.j2 k a b x23) (if (L a).length < (L b).length then -1 else 1) := by
  intro x hx _
  refine Ev.step (fun k => spec_verIdentifier.j2.eq_2 ..) (ifp hx ?_)
  by_cases h : (L a).length < (L b).length
  ·rw [if_pos h]; exact ifp (by omega) (now rfl)
  ·rw [if_neg h]; exact ifn (by omega) (now rfl)
 have j2t : ∀ x23 : Bool, x23 = false → Ev (fun k => spec_verIdentifier.j2 k a b x23) (if Op.bytesLess (L a) (L b) = true then -1 else if Op.bytesLess (L b) (L a) = true then 1 else 0) := by
  intro x hx
  refine Ev.step (fun k => spec_verIdentifier.j2.eq_2 ..) (ifn (by rw [hx]; simp) ?_)
  rw [toList_L, toList_L]
  by_cases h : Op.bytesLess (L a) (L b) = true
  ·simp only [if_pos h]; exact now rfl
  ·simp only [if_neg h]
   by_cases h2 : Op.bytesLess (L b) (L a) = true
   ·simp only [if_pos h2]; exact now rfl
   ·simp only [if_neg h2]; exact now rfl
 unfold identL
 cases na : numeric (L a) with
 | true =>
  cases nb : numeric (L b) with
  | true =>
   rw [if_neg (by simp), if_neg (by simp)]
   refine ifp rfl (Ev.step (fun k => spec_verIdentifier.j0.eq_2 ..) (ifn (by simp) (ifp rfl (Ev.step (fun k => spec_verIdentifier.j1.eq_2 ..) (ifn (by simp) (ifp rfl ?_))))))
   by_cases hl : (L a).length = (L b).length
   ·rw [if_neg (by rw [hl]; simp)]
    exact j2t _ (by rw [hza, hzb, hl]; simp)
   ·rw [if_pos ⟨rfl, hl⟩]
    exact j2 _ (bne_iff_ne.2 (by omega)) hl
  | false =>
   rw [if_pos ⟨rfl, rfl⟩]
   exact ifp rfl (Ev.step (fun k => spec_verIdentifier.j0.eq_2 ..) (ifp rfl (now rfl)))
 | false =>
  cases nb : numeric (L b) with
  | true =>
   rw [if_neg (by simp), if_pos ⟨rfl, rfl⟩]
   exact ifn (by simp) (Ev.step (fun k => spec_verIdentifier.j0.eq_2 ..) (ifn (by simp) (ifn (by simp) (Ev.step (fun k => spec_verIdentifier.j1.eq_2 ..) (ifp rfl (now rfl))))))
  | false =>
   rw [if_neg (by simp), if_neg (by simp), if_neg (by simp)]
   exact ifn (by simp) (Ev.step (fun k => spec_verIdentifier.j0.eq_2 ..) (ifn (by simp) (ifn (by simp) (Ev.step (fun k => spec_verIdentifier.j1.eq_2 ..) (ifn (by simp) (ifn (by simp) (j2t _ rfl)))))))
theorem ask_l0 (x y : List ByteArray) (hx : okC x) (hy : okC y) (n : Nat) : ∀ i : Nat, x.length - i = n → i ≤ x.length → Ev (fun k => spec_VerAsked.l0 k x y i) (askL (x.drop i) (y.drop i)) := by
 have lx := hx.2
 have ly := hy.2
 induction n with
 | zero =>
  intro i hn hi
  refine Ev.step (fun k => spec_VerAsked.l0.eq_2 ..) (ifn (by omega) (Ev.step (fun k => spec_VerAsked.j2.eq_2 ..) (ifn (by simp) (now ?_))))
  rw [List.drop_eq_nil_of_le (by omega)]; rfl
 | succ n ih =>
  intro i hn hi
  have hlt : i < x.length := by omega
  have w1 : wrap64 ((i : Int) + 1) = ((i + 1 : Nat) : Int) := w64 (by omega) (by omega)
  refine Ev.step (fun k => spec_VerAsked.l0.eq_2 ..) (ifp (by omega) ?_)
  by_cases hy2 : i < y.length
  ·refine Ev.step (fun k => spec_VerAsked.j2.eq_2 ..) (ifp (decide_eq_true (by omega)) (ifp (by omega) (ifp (by omega) (ifp (by omega) ?_))))
   rw [rdOf_nat x i hlt, rdOf_nat y i hy2, w1, List.drop_eq_getElem_cons hlt, List.drop_eq_getElem_cons hy2]
   have sx := hx.1 _ (List.getElem_mem hlt)
   have sy := hy.1 _ (List.getElem_mem hy2)
   show Ev _ (!mixedL (L x[i]) (L y[i]) && (!mixedL (L y[i]) (L x[i]) && askL (x.drop (i + 1)) (y.drop (i + 1))))
   refine (mixed_ev x[i] y[i] (by omega) (by omega)).bind ?_
   cases h1 : mixedL (L x[i]) (L y[i]) with
   | true => exact ifp rfl (now rfl)
   | false =>
    refine ifn (by simp) ((mixed_ev y[i] x[i] (by omega) (by omega)).bind ?_)
    cases h2 : mixedL (L y[i]) (L x[i]) with
    | true => exact ifp rfl (now rfl)
    | false => exact ifn (by simp) (ih (i + 1) (by omega) (by omega))
  ·refine Ev.step (fun k => spec_VerAsked.j2.eq_2 ..) (ifn (by rw [decide_eq_true_eq]; omega) (now ?_))
   rw [List.drop_eq_nil_of_le (show y.length ≤ i by omega)]
   cases x.drop i <;> rfl
def askV (sv sv' : Bool) (pre pre' : ByteArray) : Bool := if sv = true ∧ sv' = true ∧ L pre ≠ [] ∧ L pre' ≠ [] then askL (pieces pre) (pieces pre') else true
theorem asked_ev (l m : List Int) (sv sv' : Bool) (pre pre' bld bld' : ByteArray) (hp : pre.size ≤ 2147483648) (hp' : pre'.size ≤ 2147483648) : Ev (fun k => spec_VerAsked.f k l sv pre bld m sv' pre' bld') (askV sv sv' pre pre') := by
 unfold spec_VerAsked.f askV
 have yes : ∀ b : Bool, b = true → Ev (fun k => spec_VerAsked.j0 k b l sv pre bld m sv' pre' bld') true := fun b hb => Ev.step (fun k => spec_VerAsked.j0.eq_2 ..) (ifp hb (now rfl))
 by_cases h1 : sv = true
 ·refine ifp h1 ?_
  by_cases h2 : sv' = true
  ·refine ifp h2 ?_
   by_cases h3 : L pre = []
   ·rw [if_neg (fun h => h.2.2.1 h3)]
    exact ifp (by rw [toList_L]; exact h3) (yes true rfl)
   ·refine ifn (by rw [toList_L]; exact h3) ?_
    by_cases h4 : L pre' = []
    ·rw [if_neg (fun h => h.2.2.2 h4)]
     exact yes _ (by rw [toList_L, h4]; rfl)
    ·rw [if_pos ⟨h1, h2, h3, h4⟩]
     refine Ev.step (fun k => spec_VerAsked.j0.eq_2 ..) (ifn (by rw [toList_L]; simpa using h4) ((vsplit_ev pre (by omega)).bind ((vsplit_ev pre' (by omega)).bind ?_)))
     exact ask_l0 _ _ (pieces_ok hp) (pieces_ok hp') _ 0 rfl (Nat.zero_le _)
  ·rw [if_neg (fun h => h2 h.2.1)]
   exact ifn h2 (yes true rfl)
 ·rw [if_neg (fun h => h1 h.1)]
  exact ifn h1 (yes true rfl)
theorem prec_l0 (x y : List ByteArray) (hx : okC x) (hy : okC y) (n : Nat) : ∀ i : Nat, x.length - i = n → i ≤ x.length → i ≤ y.length → Ev (fun k => spec_VerPrecedence.l0 k x y i) (precL (x.drop i) (y.drop i)) := by
 have lx := hx.2
 have ly := hy.2
 have done : ∀ (i : Nat) (b : Bool), b = false → i ≤ x.length → i ≤ y.length → (x.length ≤ i ∨ y.length ≤ i) → Ev (fun k => spec_VerPrecedence.j2 k x y i b) (precL (x.drop i) (y.drop i)) := by
  intro i b hb h1 h2 h3
  refine Ev.step (fun k => spec_VerPrecedence.j2.eq_2 ..) (ifn (by rw [hb]; simp) ?_)
  by_cases c1 : x.length < y.length
  ·refine ifp (by omega) (now ?_)
   rw [List.drop_eq_nil_of_le (show x.length ≤ i by omega), List.drop_eq_getElem_cons (show i < y.length by omega)]; rfl
  ·refine ifn (by omega) ?_
   by_cases c2 : y.length < x.length
   ·refine ifp (by omega) (now ?_)
    rw [List.drop_eq_nil_of_le (show y.length ≤ i by omega), List.drop_eq_getElem_cons (show i < x.length by omega)]; rfl
   ·refine ifn (by omega) (now ?_)
    rw [List.drop_eq_nil_of_le (show x.length ≤ i by omega), List.drop_eq_nil_of_le (show y.length ≤ i by omega)]; rfl
 induction n with
 | zero =>
  intro i hn hi hj
  exact Ev.step (fun k => spec_VerPrecedence.l0.eq_2 ..) (ifn (by omega) (done i false rfl hi hj (.inl (by omega))))
 | succ n ih =>
  intro i hn hi hj
  have hlt : i < x.length := by omega
  have w1 : wrap64 ((i : Int) + 1) = ((i + 1 : Nat) : Int) := w64 (by omega) (by omega)
  refine Ev.step (fun k => spec_VerPrecedence.l0.eq_2 ..) (ifp (by omega) ?_)
  by_cases hy2 : i < y.length
  ·refine Ev.step (fun k => spec_VerPrecedence.j2.eq_2 ..) (ifp (decide_eq_true (by omega)) (ifp (by omega) (ifp (by omega) (ifp (by omega) ?_))))
   rw [rdOf_nat x i hlt, rdOf_nat y i hy2, w1, List.drop_eq_getElem_cons hlt, List.drop_eq_getElem_cons hy2]
   have sx := hx.1 _ (List.getElem_mem hlt)
   have sy := hy.1 _ (List.getElem_mem hy2)
   refine (ident_ev x[i] y[i] (by omega) (by omega)).bind ?_
   show Ev _ (if identL (L x[i]) (L y[i]) = 0 then precL (x.drop (i + 1)) (y.drop (i + 1)) else identL (L x[i]) (L y[i]))
   by_cases h : identL (L x[i]) (L y[i]) = 0
   ·rw [if_pos h]; exact ifp h (ih (i + 1) (by omega) (by omega) (by omega))
   ·rw [if_neg h]; exact ifn h (now rfl)
  ·exact done i _ (decide_eq_false (by omega)) hi hj (.inr (by omega))
def precV (pre pre' : ByteArray) : Int := if L pre = [] ∨ L pre' = [] then (if L pre = L pre' then 0 else if L pre = [] then 1 else -1) else precL (pieces pre) (pieces pre')
theorem precedence_ev (pre pre' : ByteArray) (hp : pre.size ≤ 2147483648) (hp' : pre'.size ≤ 2147483648) : Ev (fun k => spec_VerPrecedence.f k pre pre') (precV pre pre') := by
 unfold spec_VerPrecedence.f precV
 have few : ∀ b : Bool, b = true → (L pre = [] ∨ L pre' = []) → Ev (fun k => spec_VerPrecedence.j0 k pre pre' b) (if L pre = L pre' then 0 else if L pre = [] then 1 else -1) := by
  intro b hb _
  refine Ev.step (fun k => spec_VerPrecedence.j0.eq_2 ..) (ifp hb ?_)
  rw [toList_L, toList_L]
  by_cases h : L pre = L pre'
  ·simp only [if_pos h]; exact now rfl
  ·simp only [if_neg h]
   by_cases h2 : L pre = []
   ·simp only [if_pos h2]; exact now rfl
   ·simp only [if_neg h2]; exact now rfl
 by_cases h3 : L pre = []
 ·rw [if_pos (.inl h3)]
  exact ifp (by rw [toList_L]; exact h3) (few true rfl (.inl h3))
 ·refine ifn (by rw [toList_L]; exact h3) ?_
  by_cases h4 : L pre' = []
  ·rw [if_pos (.inr h4)]
   exact few _ (by rw [toList_L, h4]; rfl) (.inr h4)
  ·rw [if_neg (fun h => by rcases h with h | h; exact h3 h; exact h4 h)]
   refine Ev.step (fun k => spec_VerPrecedence.j0.eq_2 ..) (ifn (by rw [toList_L]; simpa using h4) ((vsplit_ev pre (by omega)).bind ((vsplit_ev pre' (by omega)).bind ?_)))
   exact prec_l0 _ _ (pieces_ok hp) (pieces_ok hp') _ 0 rfl (Nat.zero_le _) (Nat.zero_le _)
def versV (l m : List Int) (sv sv' : Bool) (pre pre' : ByteArray) : Int := if zc l m ≠ 0 then zc l m else if sv = true then (if sv' = true then precV pre pre' else 0) else 0
theorem part_eq (l : List Int) (sv : Bool) (pre bld : ByteArray) (i : Nat) : spec_Version_part.f l sv pre bld (i : Int) = some ((l.drop i).headD 0) := by
 unfold spec_Version_part.f
 by_cases h : i < l.length
 ·obtain ⟨a, ha⟩ : ∃ a, rd l (i : Int) = a := ⟨_, rfl⟩
  have hal := rd_at ha h
  rw [if_pos (by omega), if_pos (by omega), ha, List.drop_eq_getElem_cons h, (List.getElem?_eq_some_iff.1 hal).2]; rfl
 ·rw [if_neg (by omega), List.drop_eq_nil_of_le (by omega)]; rfl
theorem zc_step (l m : List Int) (h : l ≠ [] ∨ m ≠ []) : zc l m = if l.headD 0 < m.headD 0 then -1 else if l.headD 0 > m.headD 0 then 1 else zc l.tail m.tail := by
 cases l with
 | nil =>
  cases m with
  | nil => rcases h with h | h <;> exact absurd rfl h
  | cons b m => rfl
 | cons a l =>
  cases m with
  | nil =>
   show (if a < 0 then -1 else if a > 0 then 1 else zl l) = if a < 0 then -1 else if a > 0 then 1 else zc l []
   cases l <;> rfl
  | cons b m => rfl
theorem vers_l0 (l m : List Int) (sv sv' : Bool) (pre pre' bld bld' : ByteArray) (hl : l.length ≤ 4294967296) (hm : m.length ≤ 4294967296) (hp : pre.size ≤ 2147483648) (hp' : pre'.size ≤ 2147483648) (n : Nat) : ∀ i : Nat, (l.length + m.length) - i ≤ n → i ≤ l.length + m.length →
  Ev (fun k => spec_Versions.l0 k i l sv pre bld m sv' pre' bld') (versV (l.drop i) (m.drop i) sv sv' pre pre') := by
 have fin : ∀ (i : Nat) (b : Bool), b = false → l.length ≤ i → m.length ≤ i → Ev (fun k => spec_Versions.j1 k i b l sv pre bld m sv' pre' bld') (versV (l.drop i) (m.drop i) sv sv' pre pre') := by
  intro i b hb h1 h2
  refine Ev.step (fun k => spec_Versions.j1.eq_2 ..) (ifn (by rw [hb]; simp) ?_)
  rw [List.drop_eq_nil_of_le h1, List.drop_eq_nil_of_le h2]
  unfold versV
  rw [if_neg (by show ¬ (0 : Int) ≠ 0; simp)]
  by_cases c1 : sv = true
  ·rw [if_pos c1]
   refine ifp c1 ?_
   by_cases c2 : sv' = true
   ·rw [if_pos c2]
    exact ifp c2 ((precedence_ev pre pre' hp hp').bind (now rfl))
   ·rw [if_neg c2]; exact ifn c2 (now rfl)
  ·rw [if_neg c1]; exact ifn c1 (now rfl)
 induction n with
 | zero =>
  intro i hn hi
  refine Ev.step (fun k => spec_Versions.l0.eq_2 ..) (ifn (by omega) (fin i _ (decide_eq_false (by omega)) (by omega) (by omega)))
 | succ n ih =>
  intro i hn hi
  have w1 : wrap64 ((i : Int) + 1) = ((i + 1 : Nat) : Int) := w64 (by omega) (by omega)
  have body : ∀ b : Bool, b = true → (i < l.length ∨ i < m.length) → Ev (fun k => spec_Versions.j1 k i b l sv pre bld m sv' pre' bld') (versV (l.drop i) (m.drop i) sv sv' pre pre') := by
   intro b hb hlt
   refine Ev.step (fun k => spec_Versions.j1.eq_2 ..) (ifp hb ?_)
   refine cbv (part_eq l sv pre bld i) (cbv (part_eq m sv' pre' bld' i) ?_)
   have hst := zc_step (l.drop i) (m.drop i) (by
    rcases hlt with h | h
    ·left; intro e; have := congrArg List.length e; rw [List.length_drop] at this; simp at this; omega
    ·right; intro e; have := congrArg List.length e; rw [List.length_drop] at this; simp at this; omega)
   unfold versV
   rw [hst]
   by_cases c1 : (l.drop i).headD 0 < (m.drop i).headD 0
   ·rw [if_pos c1, if_pos (by decide)]
    exact ifp c1 (now rfl)
   ·rw [if_neg c1]
    refine ifn c1 (cbv (part_eq l sv pre bld i) (cbv (part_eq m sv' pre' bld' i) ?_))
    by_cases c2 : (l.drop i).headD 0 > (m.drop i).headD 0
    ·rw [if_pos c2, if_pos (by decide)]
     exact ifp c2 (now rfl)
    ·rw [if_neg c2, List.tail_drop, List.tail_drop, w1]
     exact ifn c2 (ih (i + 1) (by omega) (by omega))
  refine Ev.step (fun k => spec_Versions.l0.eq_2 ..) ?_
  by_cases c1 : i < l.length
  ·exact ifp (by omega) (body true rfl (.inl c1))
  ·refine ifn (by omega) ?_
   by_cases c2 : i < m.length
   ·exact body _ (decide_eq_true (by omega)) (.inr c2)
   ·exact fin i _ (decide_eq_false (by omega)) (by omega) (by omega)
theorem versions_ev (l m : List Int) (sv sv' : Bool) (pre pre' bld bld' : ByteArray) (hl : l.length ≤ 4294967296) (hm : m.length ≤ 4294967296) (hp : pre.size ≤ 2147483648) (hp' : pre'.size ≤ 2147483648) : Ev (fun k => spec_Versions.f k l sv pre bld m sv' pre' bld') (versV l m sv sv' pre pre') :=
 vers_l0 l m sv sv' pre pre' bld bld' hl hm hp hp' _ 0 (Nat.le_refl _) (Nat.zero_le _)
theorem short_pc {pre : ByteArray} (h : Short pre) (hne : L pre ≠ []) : ∀ c ∈ pieces pre, Pc (L c) := by
 intro c hc
 obtain ⟨x, hx, rfl⟩ := List.mem_map.1 hc
 obtain ⟨h1, h2⟩ := h hne
 rw [L_mk']
 exact ⟨List.all_eq_true.1 h1 x hx, h2 x hx⟩
theorem head_ne0 : ∀ (l m : List Int) (r : Int), headCmp l m = some r → r ≠ 0
 | [], _, _, h => by cases h
 | _ :: _, [], _, h => by cases h
 | a :: l, b :: m, r, h => by
  have h : (if b < a then some 1 else if a < b then some (-1) else headCmp l m) = some r := h
  split at h
  ·rw [← Option.some.inj h]; decide
  ·split at h
   ·rw [← Option.some.inj h]; decide
   ·exact head_ne0 l m r h
theorem vers_cmp (l m : List Int) (sv sv' : Bool) (pre pre' : ByteArray) (hl : U64 l) (hm : U64 m) (hs : Short pre) (hs' : Short pre') (ha : askV sv sv' pre pre' = true) : versV l m sv sv' pre pre' = cmpL l m sv sv' pre pre' := by
 have tail : (if sv = true then (if sv' = true then precV pre pre' else 0) else 0) = cmpR sv sv' pre pre' := by
  unfold cmpR
  by_cases c1 : sv = true
  ·by_cases c2 : sv' = true
   ·rw [if_pos c1, if_pos c2, if_neg (by rw [c1, c2]; simp)]
    unfold precV
    rw [toList_L, toList_L]
    by_cases h3 : L pre = []
    ·by_cases h4 : L pre' = []
     ·rw [if_pos (.inl h3), if_pos (by rw [h3, h4]), if_neg (fun h => h.2 h4), if_neg (fun h => h.1 h3), if_pos (by rw [h3, h4])]
     ·rw [if_pos (.inl h3), if_neg (by rw [h3]; exact fun e => h4 e.symm), if_pos h3, if_pos ⟨h3, h4⟩]
    ·by_cases h4 : L pre' = []
     ·rw [if_pos (.inr h4), if_neg (by rw [h4]; exact h3), if_neg h3, if_neg (fun h => h3 h.1), if_pos ⟨h3, h4⟩]
     ·rw [if_neg (fun h => by rcases h with h | h; exact h3 h; exact h4 h), if_neg (fun h => h3 h.1), if_neg (fun h => h4 h.2)]
      by_cases h5 : L pre = L pre'
      ·rw [if_pos h5, L_inj h5]; exact prec_self _
      ·rw [if_neg h5]
       unfold askV at ha
       rw [if_pos ⟨c1, c2, h3, h4⟩] at ha
       exact (prec_pre _ _ (short_pc hs h3) (short_pc hs' h4) ha).symm
   ·rw [if_pos c1, if_neg c2, if_pos (.inr (by simpa using c2))]
  ·rw [if_neg c1, if_pos (.inl (by simpa using c1))]
 unfold versV cmpL
 rw [tail, zc_head l m hl hm]
 cases hq : headCmp l m with
 | some r => exact if_pos (head_ne0 l m r hq)
 | none =>
  show (if (if m.length < l.length ∧ zeros (l.drop m.length) = false then (1 : Int) else if l.length < m.length ∧ zeros (m.drop l.length) = false then -1 else 0) ≠ 0 then _ else _) = _
  by_cases h1 : m.length < l.length ∧ zeros (l.drop m.length) = false
  ·rw [if_pos h1, if_pos h1, if_pos (by decide)]
  ·rw [if_neg h1, if_neg h1]
   by_cases h2 : l.length < m.length ∧ zeros (m.drop l.length) = false
   ·rw [if_pos h2, if_pos h2, if_pos (by decide)]
   ·rw [if_neg h2, if_neg h2, if_neg (by simp)]
end Go.Proofs.YtmfgkidppchobaaDoor.VerOXFnVersionCompare

