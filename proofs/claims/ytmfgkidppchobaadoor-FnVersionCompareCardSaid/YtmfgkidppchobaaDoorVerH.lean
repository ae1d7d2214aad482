/- Versions: two versions compared, wholly. -/
import Derived.Test.YtmfgkidppchobaaDoorVerE
import Derived.Test.YtmfgkidppchobaaDoorVerF
import Derived.Laws.Cover1
import Derived.Test.YtmfgkidppchobaaDoorOpen
set_option linter.unusedSimpArgs false
set_option linter.unusedVariables false
namespace Go.Proofs.YtmfgkidppchobaaDoor.Ver10
open Go.RowKit Go.Proofs.YtmfgkidppchobaaDoorW.PrintWords Go.Proofs.YtmfgkidppchobaaDoorW.PrintLast Go.Proofs.YtmfgkidppchobaaDoor.XFnVersionWays Go.Proofs.YtmfgkidppchobaaDoor.EvL Go.Proofs.YtmfgkidppchobaaDoor.Ver1 Go.Proofs.YtmfgkidppchobaaDoor.Ver2 Go.Proofs.YtmfgkidppchobaaDoor.Ver3 Go.Proofs.YtmfgkidppchobaaDoor.Ver4 Go.Proofs.YtmfgkidppchobaaDoor.Ver5 Go.Proofs.YtmfgkidppchobaaDoor.Ver6 Go.Proofs.YtmfgkidppchobaaDoor.Ver7 Go.Proofs.YtmfgkidppchobaaDoor.VerP Go.Proofs.YtmfgkidppchobaaDoor.VerQ
def zeros (l : List Int) : Bool := l.all (fun x => x == 0)
theorem zeros_l0 (l : List Int) (hl : l.length ≤ 4294967296) (n : Nat) : ∀ i : Nat, l.length - i = n → i ≤ l.length → Ev (fun k => version_onlyZeros.l0 k l (l.length : Int) i) (zeros (l.drop i)) := by
 induction n with
 | zero =>
  intro i hn hi
  refine Ev.step (fun k => version_onlyZeros.l0.eq_2 ..) (ifn (by omega) (now ?_))
  rw [List.drop_eq_nil_of_le (by omega)]; rfl
 | succ n ih =>
  intro i hn hi
  have hlt : i < l.length := by omega
  have w1 : wrap64 ((i : Int) + 1) = ((i + 1 : Nat) : Int) := w64 (by omega) (by omega)
  refine Ev.step (fun k => version_onlyZeros.l0.eq_2 ..) (ifp (by omega) (ifp (by omega) (ifp (by omega) ?_)))
  obtain ⟨a, ha⟩ : ∃ a, rd l (i : Int) = a := ⟨_, rfl⟩
  have hal := rd_at ha hlt
  rw [ha, w1, List.drop_eq_getElem_cons hlt, (List.getElem?_eq_some_iff.1 hal).2]
  by_cases h : a = 0
  ·refine ifp h ?_
   rw [h]
   show Ev _ ((0 == 0 : Bool) && zeros (l.drop (i + 1)))
   exact ih (i + 1) (by omega) (by omega)
  ·refine ifn h (now ?_)
   show _ = ((a == 0) && _)
   rw [beq_eq_false_iff_ne.2 h]; rfl
theorem zeros_ev (l : List Int) (hl : l.length ≤ 4294967296) : Ev (fun k => version_onlyZeros.f k l) (zeros l) := zeros_l0 l hl _ 0 rfl (Nat.zero_le _)
theorem zeros_calls (A : Option Addr) (n c : Nat) (l : List Int) (hn : l.length = n) (hl : n ≤ 4294967296) (w : World) (hr : Kd.C (Kd.int .u64) w A n l) (hc : n ≤ c) : Calls Tryd.prog 76 #[.slice A n c] w fun e w' => e = .returned (.bool (zeros l)) ∧ Below w.heap.size w w' := by
 subst hn
 obtain ⟨K, hK⟩ := zeros_ev l hl
 exact (version_onlyZeros.calls K A c l _ w hr hc (hK K (Nat.le_refl _))).mono fun e w' h => ⟨h.1, h.2.below⟩
theorem C_tail {w : World} {ad : Addr} {l : List Int} {n : Nat} (h : Kd.C (Kd.int .u64) w (some ad) n l) (j : Nat) (hj : j < n) : Kd.C (Kd.int .u64) w (some (ad.add j)) (n - j) (l.drop j) := by
 obtain ⟨h1, h2, h3⟩ := h
 obtain ⟨a, ha, hc⟩ := h3 (by omega)
 cases ha
 refine ⟨by rw [List.length_drop, h1], by omega, fun _ => ⟨_, rfl, fun i p hp => ?_⟩⟩
 rw [List.getElem?_drop] at hp
 obtain ⟨c, h5, h6, h7⟩ := hc (j + i) p hp
 refine ⟨c, h5, h6, fun q u hq => ?_⟩
 have := h7 q u hq
 rw [Go.Proofs.YtmfgkidppchobaaDoor.Open.add_add]
 rw [show j + (i * (Kd.int .u64).sz + q) = (j + i) * (Kd.int .u64).sz + q from by show j + (i * 1 + q) = (j + i) * 1 + q; omega]
 exact this
def preF : List ByteArray → List ByteArray → Int
 | a :: x, b :: y => match numU a, numU b with
  | some u, some v => if v < u then 1 else if u < v then -1 else preF x y
  | _, _ => if Op.bytesLess b.toList a.toList = true then 1 else if (!(Op.bytesLess b.toList a.toList || b.toList == a.toList)) = true then -1 else preF x y
 | [], [] => 0
 | [], _ :: _ => -1
 | _ :: _, [] => 1
theorem preF_cons (a : ByteArray) (x : List ByteArray) (b : ByteArray) (y : List ByteArray) : preF (a :: x) (b :: y) = match numU a, numU b with
  | some u, some v => if v < u then 1 else if u < v then -1 else preF x y
  | _, _ => if Op.bytesLess b.toList a.toList = true then 1 else if (!(Op.bytesLess b.toList a.toList || b.toList == a.toList)) = true then -1 else preF x y := rfl
def cmpR (sv sv' : Bool) (pre pre' : ByteArray) : Int :=
 if sv = false ∨ sv' = false then 0
 else if pre.toList = [] ∧ pre'.toList ≠ [] then 1 else if pre.toList ≠ [] ∧ pre'.toList = [] then -1 else if pre.toList = pre'.toList then 0
 else preF (pieces pre) (pieces pre')
def cmpL (l m : List Int) (sv sv' : Bool) (pre pre' : ByteArray) : Int :=
 match headCmp l m with
 | some r => r
 | none => if m.length < l.length ∧ zeros (l.drop m.length) = false then 1
  else if l.length < m.length ∧ zeros (m.drop l.length) = false then -1
  else cmpR sv sv' pre pre'
set_option maxHeartbeats 8000000 in
set_option maxRecDepth 100000 in
theorem cmp_none (g h : Nat) (l m : List Int) (sv sv' : Bool) (pre pre' bld bld' : ByteArray) (w : World) (hI : IsVer w g l sv pre bld) (hJ : IsVer w h m sv' pre' bld') (hr : headCmp l m = none) (hl : l.length ≤ 4294967296) (hm : m.length ≤ 4294967296) (hp : pre.size ≤ 2147483648) (hp' : pre'.size ≤ 2147483648) (r : Int) (hR : r = cmpL l m sv sv' pre pre') (hV : VT.V w) :
  Calls Tryd.prog 59 #[Ptr g, Ptr h] w fun e w' => e = .returned (.int .i64 r) ∧ Below w.heap.size w w' := by
 have hIx := Aside0.mk hI
 have hJx := Aside0.mk hJ
 have hg := hI.lt
 have hh := hJ.lt
 replace hr := Aside0.mk hr
 replace hR := Aside0.mk hR
 replace hV := Aside0.mk hV
 replace hp := Aside0.mk hp
 replace hp' := Aside0.mk hp'
 unfold Ptr
 obtain ⟨A, c, hG, hrA, hlc⟩ := hI
 obtain ⟨B, d, hH, hrB, hmd⟩ := hJ
 have hc0 := cV0 hG
 have hd0 := cV0 hH
 replace hlc := Aside0.mk hlc
 replace hmd := Aside0.mk hmd
 replace hG := Aside0.mk hG
 replace hH := Aside0.mk hH
 go_enter Tryd.func59, Tryd.ntmps59
 go_wp2_with fail
 go_loopw [7] (fun i wr => ∃ k : Nat, i = .int .i64 k ∧ headCmp (l.drop k) (m.drop k) = none ∧ Below w.heap.size w wr) (fun i _ => l.length - (intOf i).toNat)
 case atStart => exact ⟨0, rfl, hr.out, Below.refl _ _⟩
 case round =>
  obtain ⟨k, rfl, hk, hB⟩ := hrel
  have e0 := (hB.cell (show (⟨g, 0, none⟩ : Addr).block < w.heap.size from hg)).trans hc0
  have f0 := (hB.cell (show (⟨h, 0, none⟩ : Addr).block < w.heap.size from hh)).trans hd0
  have hkA := Kd.C_below hrA hB
  have hkB := Kd.C_below hrB hB
  replace hB := Aside0.mk hB
  have p := Int.natCast_nonneg k
  by_cases hkk : k < l.length ∧ k < m.length
  ·obtain ⟨hkl, hkm⟩ := hkk
   obtain ⟨a, ha⟩ : ∃ a, rd l (k : Int) = a := ⟨_, rfl⟩
   obtain ⟨b, hb⟩ : ∃ b, rd m (k : Int) = b := ⟨_, rfl⟩
   have hal := rd_at ha hkl
   have hbl := rd_at hb hkm
   rw [List.drop_eq_getElem_cons hkl, List.drop_eq_getElem_cons hkm, (List.getElem?_eq_some_iff.1 hal).2, (List.getElem?_eq_some_iff.1 hbl).2] at hk
   have hk : (if b < a then some 1 else if a < b then some (-1) else headCmp (l.drop (k + 1)) (m.drop (k + 1))) = none := hk
   have q1 : (k : Int) < (l.length : Int) := by omega
   have q2 : (k : Int) < (m.length : Int) := by omega
   obtain ⟨ad, e1, hcell⟩ := Kd.at_int hkA (k : Int) p q1
   obtain ⟨bd, e2, hcell2⟩ := Kd.at_int hkB (k : Int) p q2
   rw [ha, Int.toNat_natCast] at hcell
   rw [hb, Int.toNat_natCast] at hcell2
   cases e1
   cases e2
   have s1 := decide_eq_true q1
   have s2 := decide_eq_true q2
   have s3 : (k < l.length) = True := eq_true hkl
   have s4 : (k < m.length) = True := eq_true hkm
   have hk2 := Aside0.mk (show k + 1 ≤ l.length from hkl)
   by_cases c1 : b < a
   ·rw [if_pos c1] at hk; cases hk
   rw [if_neg c1] at hk
   by_cases c2 : a < b
   ·rw [if_pos c2] at hk; cases hk
   rw [if_neg c2] at hk
   have c1b := decide_eq_false c1
   have c2b := decide_eq_false c2
   replace p := eq_true p
   replace q1 := eq_true q1
   replace q2 := eq_true q2
   replace hk := Aside0.mk hk
   have hkl3 := hk2.out
   clear hkA hkB ha hb hal hbl hkl hkm c1 c2
   go_upto_region 6 with (fail)
   go_region
   go_upto_region 8 with (fail)
   go_region
   go_wp2_with fail
   go_roundw
   case measure => have := hk2.out; first | exact meas this | (rw [show (k : Int) + 1 = ((k + 1 : Nat) : Int) from rfl]; exact meas this)
   case rel => exact ⟨k + 1, by go_num, hk.out, pw_below_drewN (pw_below_drewN hB.out 1) 1⟩
  ·have hG2 := Aside0.mk ((hB.out.block _ hg).trans hG.out)
   have hH2 := Aside0.mk ((hB.out.block _ hh).trans hH.out)
   have hrA2 := Aside0.mk hkA
   have hrB2 := Aside0.mk hkB
   have hV2 := Aside0.mk (hV.out.below hB.out)
   clear hkA hkB e0 f0 hk
   have hex : ¬ k < l.length ∨ (k < l.length ∧ ¬ k < m.length) := by omega
   clear hkk
   have hRR : Aside0 (r = if m.length < l.length ∧ zeros (l.drop m.length) = false then 1 else if l.length < m.length ∧ zeros (m.drop l.length) = false then -1 else cmpR sv sv' pre pre') := ⟨by have h := hR.out; unfold cmpL at h; rw [hr.out] at h; exact h⟩
   clear hR hr
   rcases hex with hex | hex
   case' inl => (have x1 : decide ((k : Int) < (l.length : Int)) = false := decide_eq_false (by omega)); (have x2 : (k < l.length) = False := eq_false hex); clear hex; go_upto_region 10 with (fail); clear x1 x2
   case' inr => (have x1 : decide ((k : Int) < (l.length : Int)) = true := decide_eq_true (by omega)); (have x2 : (k < l.length) = True := eq_true hex.1); (have x3 : decide ((k : Int) < (m.length : Int)) = false := decide_eq_false (by omega)); (have x4 : (k < m.length) = False := eq_false hex.2); clear hex; go_upto_region 10 with (fail); clear x1 x2 x3 x4
   all_goals
    obtain ⟨t1, ht1⟩ : ∃ t1, t1 = (decide (m.length < l.length) && !zeros (l.drop m.length)) := ⟨_, rfl⟩
    obtain ⟨t2, ht2⟩ : ∃ t2, t2 = (decide (l.length < m.length) && !zeros (m.drop l.length)) := ⟨_, rfl⟩
    replace hRR : Aside0 (r = if t1 = true then 1 else if t2 = true then -1 else cmpR sv sv' pre pre') := ⟨by rw [hRR.out, ht1, ht2]; simp only [Bool.and_eq_true, decide_eq_true_eq, Bool.not_eq_true']⟩
    replace ht1 := Aside0.mk ht1
    replace ht2 := Aside0.mk ht2
    go_cut [67] from 67 to 80 (fun v67 wc => v67 = .bool t1 ∧ Below w.heap.size w wc)
    case first =>
     have hB := hB.out
     have e0 := cV0 ((hB.block _ (blk_lt hG.out)).trans hG.out)
     have f0 := cV0 ((hB.block _ (blk_lt hH.out)).trans hH.out)
     by_cases q : m.length < l.length
     ·have d1 : decide ((m.length : Int) < (l.length : Int)) = true := decide_eq_true (by omega)
      have d1n : (m.length < l.length) = True := eq_true q
      have d3n : (m.length ≤ l.length) = True := eq_true (by omega)
      have hq1 : (c - m.length = 0) = False := eq_false (by have h := hlc.out; omega)
      have hq2 : (c = m.length) = False := eq_false (by have h := hlc.out; omega)
      have hq3 : (c ≤ m.length) = False := eq_false (by have h := hlc.out; omega)
      have hC := Kd.C_below hrA hB
      obtain ⟨ad, hA, _⟩ := hC.2.2 (by omega)
      subst hA
      replace hC := Aside0.mk (C_tail hC m.length q)
      obtain ⟨z, hz⟩ : ∃ z, zeros (l.drop m.length) = z := ⟨_, rfl⟩
      have hz2 := Aside0.mk (show t1 = !z from by rw [ht1.out, hz, decide_eq_true q, Bool.true_and])
      replace hz := Aside0.mk hz
      replace q := Aside0.mk q
      have hbb := Aside0.mk hB
      go_wp2_with fail
      with_reducible refine (zeros_calls (some (ad.add m.length)) (l.length - m.length) (c - m.length) (l.drop m.length) (by rw [List.length_drop]) (by omega) _ hC.out (by have h := hlc.out; omega)).mono ?_
      rintro e w5 ⟨rfl, hB5⟩
      rw [hz.out]
      replace hB5 := Aside0.mk (below_then hbb.out hbb.out.size hB5)
      clear hC
      go_wp2_with fail
      go_meet
      case rel => exact ⟨by rw [hz2.out], hB5.out⟩
     ·have d1 : decide ((m.length : Int) < (l.length : Int)) = false := decide_eq_false (by omega)
      have d1n : (m.length < l.length) = False := eq_false q
      have hz2 := Aside0.mk (show t1 = false from by rw [ht1.out, decide_eq_false q, Bool.false_and])
      have hbb := Aside0.mk hB
      go_wp2_with fail
      go_meet
      case rel => exact ⟨by rw [hz2.out], hbb.out⟩
    case rest =>
     obtain ⟨rfl, hB⟩ := hcut
     replace hB := Aside0.mk hB
     cases t1 with
     | true =>
      go_wp2_with fail
      go_ret
      exact ⟨by have h := hRR.out; simp at h; rw [h]; rfl, hB.out⟩
     | false =>
      go_upto_region 12 with (fail)
      go_cut [81] from 81 to 94 (fun v81 wc => v81 = .bool t2 ∧ Below w.heap.size w wc)
      case first =>
       have hB := hB.out
       have e0 := cV0 ((hB.block _ (blk_lt hG.out)).trans hG.out)
       have f0 := cV0 ((hB.block _ (blk_lt hH.out)).trans hH.out)
       by_cases q : l.length < m.length
       ·have d1 : decide ((l.length : Int) < (m.length : Int)) = true := decide_eq_true (by omega)
        have d1n : (l.length < m.length) = True := eq_true q
        have d3n : (l.length ≤ m.length) = True := eq_true (by omega)
        have hq1 : (d - l.length = 0) = False := eq_false (by have h := hmd.out; omega)
        have hq2 : (d = l.length) = False := eq_false (by have h := hmd.out; omega)
        have hq3 : (d ≤ l.length) = False := eq_false (by have h := hmd.out; omega)
        have hC := Kd.C_below hrB hB
        obtain ⟨ad, hA, _⟩ := hC.2.2 (by omega)
        subst hA
        replace hC := Aside0.mk (C_tail hC l.length q)
        obtain ⟨z, hz⟩ : ∃ z, zeros (m.drop l.length) = z := ⟨_, rfl⟩
        have hz2 := Aside0.mk (show t2 = !z from by rw [ht2.out, hz, decide_eq_true q, Bool.true_and])
        replace hz := Aside0.mk hz
        replace q := Aside0.mk q
        have hbb := Aside0.mk hB
        go_wp2_with fail
        with_reducible refine (zeros_calls (some (ad.add l.length)) (m.length - l.length) (d - l.length) (m.drop l.length) (by rw [List.length_drop]) (by omega) _ hC.out (by have h := hmd.out; omega)).mono ?_
        rintro e w5 ⟨rfl, hB5⟩
        rw [hz.out]
        replace hB5 := Aside0.mk (below_then hbb.out hbb.out.size hB5)
        clear hC
        go_wp2_with fail
        go_meet
        case rel => exact ⟨by rw [hz2.out], hB5.out⟩
       ·have d1 : decide ((l.length : Int) < (m.length : Int)) = false := decide_eq_false (by omega)
        have d1n : (l.length < m.length) = False := eq_false q
        have hz2 := Aside0.mk (show t2 = false from by rw [ht2.out, decide_eq_false q, Bool.false_and])
        have hbb := Aside0.mk hB
        go_wp2_with fail
        go_meet
        case rel => exact ⟨by rw [hz2.out], hbb.out⟩
      case rest =>
       obtain ⟨rfl, hB⟩ := hcut
       cases t2 with
       | true =>
        replace hB := Aside0.mk hB
        go_wp2_with fail
        go_ret
        exact ⟨by have h := hRR.out; simp at h; rw [h]; rfl, hB.out⟩
       | false =>
        have hr : r = cmpR sv sv' pre pre' := by have h := hRR.out; simpa using h
        have hGc := (hB.block _ (blk_lt hG.out)).trans hG.out
        have hHc := (hB.block _ (blk_lt hH.out)).trans hH.out
        have e1 := cV1 hGc
        have e2 := cV2 hGc
        have f1 := cV1 hHc
        have f2 := cV2 hHc
        replace hGc := Aside0.mk hGc
        replace hHc := Aside0.mk hHc
        replace hr := Aside0.mk hr
        replace hB := Aside0.mk hB
        clear hRR hG2 hH2 hrA2 hrB2 hV2 hrA hrB hc0 hd0 ht1 ht2
        cases sv with
        | false =>
         go_wp2_with fail
         go_ret
         exact ⟨by rw [hr.out]; unfold cmpR; rw [if_pos (.inl rfl)]; try rfl, hB.out⟩
        | true =>
         cases sv' with
         | false =>
          go_wp2_with fail
          go_ret
          exact ⟨by rw [hr.out]; unfold cmpR; rw [if_pos (.inr rfl)]; try rfl, hB.out⟩
         | true =>
          replace hr : Aside0 (r = if pre.toList = [] ∧ pre'.toList ≠ [] then 1 else if pre.toList ≠ [] ∧ pre'.toList = [] then -1 else if pre.toList = pre'.toList then 0 else preF (pieces pre) (pieces pre')) := ⟨by rw [hr.out]; unfold cmpR; rw [if_neg (by simp)]⟩
          by_cases ep : pre.toList = []
          ·by_cases eq : pre'.toList = []
           ·have es : (pre.toList == pre'.toList) = true := by rw [ep, eq]; rfl
            have qep : (pre.toList == []) = true := by rw [ep]; rfl
            have rep : pre.toList.isEmpty = true := by rw [ep]; rfl
            replace ep := Aside0.mk ep
            have qeq : (pre'.toList == []) = true := by rw [eq]; rfl
            have req : pre'.toList.isEmpty = true := by rw [eq]; rfl
            replace eq := Aside0.mk eq
            go_upto_region 20 with (fail)
            go_region
            go_wp2_with fail
            go_ret
            exact ⟨by rw [hr.out]; rw [if_neg (fun h => h.2 eq.out), if_neg (fun h => h.1 ep.out), if_pos (ep.out.trans eq.out.symm)]; try rfl, pw_below_drewN hB.out 1⟩
           ·have qep : (pre.toList == []) = true := by rw [ep]; rfl
            have rep : pre.toList.isEmpty = true := by rw [ep]; rfl
            replace ep := Aside0.mk ep
            have qeq : (pre'.toList == []) = false := beq_eq_false_iff_ne.mpr eq
            have req : pre'.toList.isEmpty = false := by
             cases hh : pre'.toList with
             | nil => exact absurd hh eq
             | cons _ _ => rfl
            replace eq := Aside0.mk eq
            go_wp2_with fail
            go_ret
            exact ⟨by rw [hr.out]; rw [if_pos ⟨ep.out, eq.out⟩]; try rfl, hB.out⟩
          ·by_cases eq : pre'.toList = []
           ·have qep : (pre.toList == []) = false := beq_eq_false_iff_ne.mpr ep
            have rep : pre.toList.isEmpty = false := by
             cases hh : pre.toList with
             | nil => exact absurd hh ep
             | cons _ _ => rfl
            replace ep := Aside0.mk ep
            have qeq : (pre'.toList == []) = true := by rw [eq]; rfl
            have req : pre'.toList.isEmpty = true := by rw [eq]; rfl
            replace eq := Aside0.mk eq
            go_wp2_with fail
            go_ret
            exact ⟨by rw [hr.out]; rw [if_neg (fun h => h.2 eq.out), if_pos ⟨ep.out, eq.out⟩]; try rfl, hB.out⟩
           ·have qep : (pre.toList == []) = false := beq_eq_false_iff_ne.mpr ep
            have rep : pre.toList.isEmpty = false := by
             cases hh : pre.toList with
             | nil => exact absurd hh ep
             | cons _ _ => rfl
            replace ep := Aside0.mk ep
            have qeq : (pre'.toList == []) = false := beq_eq_false_iff_ne.mpr eq
            have req : pre'.toList.isEmpty = false := by
             cases hh : pre'.toList with
             | nil => exact absurd hh eq
             | cons _ _ => rfl
            replace eq := Aside0.mk eq
            by_cases em : pre.toList = pre'.toList
            ·have es : (pre.toList == pre'.toList) = true := beq_iff_eq.mpr em
             replace em := Aside0.mk em
             go_upto_region 20 with (fail)
             go_region
             go_wp2_with fail
             go_ret
             exact ⟨by rw [hr.out]; rw [if_neg (fun h => ep.out h.1), if_neg (fun h => eq.out h.2), if_pos em.out]; try rfl, pw_below_drewN hB.out 1⟩
            ·have es : (pre.toList == pre'.toList) = false := beq_eq_false_iff_ne.mpr em
             replace hr := Aside0.mk (show r = preF (pieces pre) (pieces pre') from by rw [hr.out, if_neg (fun h => ep.out h.1), if_neg (fun h => eq.out h.2), if_neg em])
             clear em
             go_upto_region 20 with (fail)
             go_region
             replace hB := Aside0.mk (show Below w.heap.size w wc.drew from pw_below_drewN hB.out 1)
             obtain ⟨x, hx⟩ : ∃ x, x = pieces pre := ⟨_, rfl⟩
             obtain ⟨y, hy⟩ : ∃ y, y = pieces pre' := ⟨_, rfl⟩
             obtain ⟨K1, hK1⟩ := split_ev pre (by have h := hp.out; omega)
             obtain ⟨K2, hK2⟩ := split_ev pre' (by have h := hp'.out; omega)
             have hs1 : version_zzSplit.f K1 pre ⟨#[46]⟩ = some x := by rw [hx]; exact hK1 K1 (Nat.le_refl _)
             have hs2 : version_zzSplit.f K2 pre' ⟨#[46]⟩ = some y := by rw [hy]; exact hK2 K2 (Nat.le_refl _)
             have ox := pieces_ok (s := pre) hp.out
             have oy := pieces_ok (s := pre') hp'.out
             rw [← hx] at ox
             rw [← hy] at oy
             have hlx := ox.2
             have hly := oy.2
             replace hr := Aside0.mk (show r = preF x y from by rw [hr.out, hx, hy])
             replace ox := Aside0.mk ox
             replace oy := Aside0.mk oy
             replace hs1 := Aside0.mk hs1
             replace hs2 := Aside0.mk hs2
             clear hx hy hK1 hK2
             go_wp2_with fail
             with_reducible refine (version_zzSplit.calls K1 pre ⟨#[46]⟩ x _ hs1.out).mono ?_
             rintro e w2 ⟨v2, rfl, hR2, hB2⟩
             obtain ⟨X, cx, rfl, hcx, hCx⟩ := Kd.R_reads hR2
             replace hCx := Aside0.mk hCx
             replace hcx := Aside0.mk hcx
             replace hB := Aside0.mk (below_then hB.out hB.out.size hB2)
             have f2 := cV2 ((hB.out.block _ (blk_lt hH.out)).trans hH.out)
             clear hR2 hB2
             go_wp2_with fail
             with_reducible refine (version_zzSplit.calls K2 pre' ⟨#[46]⟩ y _ hs2.out).mono ?_
             rintro e w3 ⟨v3, rfl, hR3, hB3⟩
             obtain ⟨Y, cy, rfl, hcy, hCy⟩ := Kd.R_reads hR3
             replace hCy := Aside0.mk hCy
             replace hcy := Aside0.mk hcy
             replace hCx := Aside0.mk (Kd.C_below hCx.out hB3)
             replace hB := Aside0.mk (below_then hB.out hB.out.size hB3)
             clear hR3 hB3
             go_wp2_with fail
             go_loopw [10] (fun i wr => ∃ k : Nat, i = .int .i64 k ∧ k ≤ x.length ∧ k ≤ y.length ∧ preF (x.drop k) (y.drop k) = r ∧ Below w3.heap.size w3 wr) (fun i _ => x.length - (intOf i).toNat)
             case atStart => exact ⟨0, rfl, Nat.zero_le _, Nat.zero_le _, hr.out.symm, Below.refl _ _⟩
             case round =>
              obtain ⟨k, rfl, hkx, hky, hk, hBl⟩ := hrel
              have hCk := Kd.C_below hCx.out hBl
              have hDk := Kd.C_below hCy.out hBl
              replace hB := Aside0.mk (below_then hB.out hB.out.size hBl)
              replace hBl := Aside0.mk hBl
              have p := Int.natCast_nonneg k
              by_cases ex : k < x.length
              case neg =>
               have x1 : decide ((k : Int) < (x.length : Int)) = false := decide_eq_false (by omega)
               have x2 : (k < x.length) = False := eq_false ex
               rw [List.drop_eq_nil_of_le (by omega)] at hk
               clear hCk hDk
               by_cases ey : k < y.length
               ·have d1 : decide ((y.length : Int) < (x.length : Int)) = false := decide_eq_false (by omega)
                have d1n : (y.length < x.length) = False := eq_false (by omega)
                have d2 : decide ((x.length : Int) < (y.length : Int)) = true := decide_eq_true (by omega)
                have d2n : (x.length < y.length) = True := eq_true (by omega)
                rw [List.drop_eq_getElem_cons ey] at hk
                replace hk : -1 = r := hk
                subst hk
                clear ex ey
                go_wp2_with fail
                go_ret
                exact ⟨rfl, hB.out⟩
               ·have d1 : decide ((y.length : Int) < (x.length : Int)) = false := decide_eq_false (by omega)
                have d1n : (y.length < x.length) = False := eq_false (by omega)
                have d2 : decide ((x.length : Int) < (y.length : Int)) = false := decide_eq_false (by omega)
                have d2n : (x.length < y.length) = False := eq_false (by omega)
                rw [List.drop_eq_nil_of_le (by omega)] at hk
                replace hk : 0 = r := hk
                subst hk
                clear ex ey
                go_wp2_with fail
                go_ret
                exact ⟨rfl, hB.out⟩
              by_cases ey : k < y.length
              case neg =>
               have x1 : decide ((k : Int) < (x.length : Int)) = true := decide_eq_true (by omega)
               have x2 : (k < x.length) = True := eq_true ex
               have x3 : decide ((k : Int) < (y.length : Int)) = false := decide_eq_false (by omega)
               have x4 : (k < y.length) = False := eq_false ey
               have d1 : decide ((y.length : Int) < (x.length : Int)) = true := decide_eq_true (by omega)
               have d1n : (y.length < x.length) = True := eq_true (by omega)
               rw [List.drop_eq_getElem_cons ex, List.drop_eq_nil_of_le (by omega : y.length ≤ k)] at hk
               replace hk : 1 = r := hk
               subst hk
               clear hCk hDk ex ey
               go_wp2_with fail
               go_ret
               exact ⟨rfl, hB.out⟩
              obtain ⟨a, ha⟩ : ∃ a, rdOf ByteArray.empty x (k : Int) = a := ⟨_, rfl⟩
              obtain ⟨b, hb⟩ : ∃ b, rdOf ByteArray.empty y (k : Int) = b := ⟨_, rfl⟩
              have hal := rdOf_at ha ex
              have hbl := rdOf_at hb ey
              rw [List.drop_eq_getElem_cons ex, List.drop_eq_getElem_cons ey, (List.getElem?_eq_some_iff.1 hal).2, (List.getElem?_eq_some_iff.1 hbl).2, preF_cons] at hk
              have za := Aside0.mk (ox.out.1 a (List.mem_of_getElem? hal))
              have zb := Aside0.mk (oy.out.1 b (List.mem_of_getElem? hbl))
              have q1 : (k : Int) < (x.length : Int) := by omega
              have q2 : (k : Int) < (y.length : Int) := by omega
              obtain ⟨ad, e1, hcell⟩ := Kd.at_string hCk (k : Int) p q1
              obtain ⟨bd, e2, _⟩ := Kd.at_string hDk (k : Int) p q2
              cases e1
              cases e2
              rw [ha, Int.toNat_natCast] at hcell
              have hA : ∀ W, Below wr.heap.size wr W → W.cell? (ad.add k) = some (.string a) := by
               intro W hW
               obtain ⟨ad', e', hc'⟩ := Kd.at_string (Kd.C_below hCk hW) (k : Int) p q1
               cases e'
               rw [ha, Int.toNat_natCast] at hc'
               exact hc'
              have hBb : ∀ W, Below wr.heap.size wr W → W.cell? (bd.add k) = some (.string b) := by
               intro W hW
               obtain ⟨ad', e', hc'⟩ := Kd.at_string (Kd.C_below hDk hW) (k : Int) p q2
               cases e'
               rw [hb, Int.toNat_natCast] at hc'
               exact hc'
              have s1 := decide_eq_true q1
              have s2 := decide_eq_true q2
              have s3 : (k < x.length) = True := eq_true ex
              have s4 : (k < y.length) = True := eq_true ey
              have hk2 := Aside0.mk (show k + 1 ≤ x.length from ex)
              have hk2y := Aside0.mk (show k + 1 ≤ y.length from ey)
              have hkl3 := hk2.out
              replace p := eq_true p
              replace q1 := eq_true q1
              replace q2 := eq_true q2
              replace hk := Aside0.mk hk
              replace hA := Aside0.mk hA
              replace hBb := Aside0.mk hBb
              clear hCk hDk ha hb hal hbl ex ey hkx hky
              cases hu : numU a with
              | none =>
               rw [hu] at hk
               replace hk := Aside0.mk (show (if Op.bytesLess b.toList a.toList = true then 1 else if (!(Op.bytesLess b.toList a.toList || b.toList == a.toList)) = true then -1 else preF (x.drop (k + 1)) (y.drop (k + 1))) = r from hk.out)
               go_wp2_with fail
               with_reducible refine (puNo a _ za.out hu (hV.out.below hB.out)).mono ?_
               rintro e w4 ⟨n4, p4, rfl, hB4⟩
               replace hB4 := Aside0.mk hB4
               clear hu
               have ca := hA.out w4 (hB4.out)
               have cb := hBb.out w4 (hB4.out)
               by_cases t1 : Op.bytesLess b.toList a.toList = true
               ·have hk1 : 1 = r := by have h := hk.out; rw [if_pos t1] at h; exact h
                go_upto_region 35 with (fail)
                go_region
                go_wp2_with fail
                go_ret
                exact ⟨by rw [← hk1]; try rfl, pw_below_drewN (below_then hB.out hB.out.size hB4.out) 1⟩
               have t1 : Op.bytesLess b.toList a.toList = false := by simpa using t1
               by_cases t2 : (b.toList == a.toList) = true
               ·have hk1 := Aside0.mk (show preF (x.drop (k + 1)) (y.drop (k + 1)) = r from by have h := hk.out; rw [t1, t2, if_neg (by simp), if_neg (by simp)] at h; exact h)
                go_upto_region 35 with (fail)
                go_region
                go_upto_region 37 with (fail)
                go_region
                go_wp2_with fail
                go_roundw
                case measure => have := hk2.out; first | exact meas this | (rw [show (k : Int) + 1 = ((k + 1 : Nat) : Int) from rfl]; exact meas this)
                case rel => exact ⟨k + 1, by go_num, hk2.out, hk2y.out, by exact hk1.out, pw_below_drewN (pw_below_drewN (below_then hBl.out hBl.out.size hB4.out) 1) 1⟩
               ·have t2 : (b.toList == a.toList) = false := by simpa using t2
                have hk1 : -1 = r := by have h := hk.out; rw [t1, t2, if_neg (by simp), if_pos (by simp)] at h; exact h
                go_upto_region 35 with (fail)
                go_region
                go_upto_region 37 with (fail)
                go_region
                go_wp2_with fail
                go_ret
                exact ⟨by rw [← hk1]; try rfl, pw_below_drewN (pw_below_drewN (below_then hB.out hB.out.size hB4.out) 1) 1⟩
              | some u =>
               go_wp2_with fail
               with_reducible refine (puYes a u _ za.out hu).mono ?_
               rintro e w4 ⟨rfl, hB4⟩
               have cb4 := hBb.out w4 hB4
               replace hB4 := Aside0.mk hB4
               have hul := Aside0.mk (numU_lt hu)
               cases hv : numU b with
               | none =>
                replace hk := Aside0.mk (show (if Op.bytesLess b.toList a.toList = true then 1 else if (!(Op.bytesLess b.toList a.toList || b.toList == a.toList)) = true then -1 else preF (x.drop (k + 1)) (y.drop (k + 1))) = r from by have h := hk.out; rw [hu, hv] at h; exact h)
                clear hu
                go_wp2_with fail
                with_reducible refine (puNo b _ zb.out hv (hV.out.below (below_then hB.out hB.out.size hB4.out))).mono ?_
                rintro e w5 ⟨n5, p5, rfl, hB5⟩
                replace hB4 := Aside0.mk (below_then hB4.out hB4.out.size hB5)
                clear hv hB5 cb4 hcell
                have ca := hA.out w5 (hB4.out)
                have cb := hBb.out w5 (hB4.out)
                by_cases t1 : Op.bytesLess b.toList a.toList = true
                ·have hk1 : 1 = r := by have h := hk.out; rw [if_pos t1] at h; exact h
                 go_upto_region 35 with (fail)
                 go_region
                 go_wp2_with fail
                 go_ret
                 exact ⟨by rw [← hk1]; try rfl, pw_below_drewN (below_then hB.out hB.out.size hB4.out) 1⟩
                have t1 : Op.bytesLess b.toList a.toList = false := by simpa using t1
                by_cases t2 : (b.toList == a.toList) = true
                ·have hk1 := Aside0.mk (show preF (x.drop (k + 1)) (y.drop (k + 1)) = r from by have h := hk.out; rw [t1, t2, if_neg (by simp), if_neg (by simp)] at h; exact h)
                 go_upto_region 35 with (fail)
                 go_region
                 go_upto_region 37 with (fail)
                 go_region
                 go_wp2_with fail
                 go_roundw
                 case measure => have := hk2.out; first | exact meas this | (rw [show (k : Int) + 1 = ((k + 1 : Nat) : Int) from rfl]; exact meas this)
                 case rel => exact ⟨k + 1, by go_num, hk2.out, hk2y.out, by exact hk1.out, pw_below_drewN (pw_below_drewN (below_then hBl.out hBl.out.size hB4.out) 1) 1⟩
                ·have t2 : (b.toList == a.toList) = false := by simpa using t2
                 have hk1 : -1 = r := by have h := hk.out; rw [t1, t2, if_neg (by simp), if_pos (by simp)] at h; exact h
                 go_upto_region 35 with (fail)
                 go_region
                 go_upto_region 37 with (fail)
                 go_region
                 go_wp2_with fail
                 go_ret
                 exact ⟨by rw [← hk1]; try rfl, pw_below_drewN (pw_below_drewN (below_then hB.out hB.out.size hB4.out) 1) 1⟩
               | some v =>
                replace hk := Aside0.mk (show (if v < u then 1 else if u < v then -1 else preF (x.drop (k + 1)) (y.drop (k + 1))) = r from by have h := hk.out; rw [hu, hv] at h; exact h)
                clear hu
                go_wp2_with fail
                with_reducible refine (puYes b v _ zb.out hv).mono ?_
                rintro e w5 ⟨rfl, hB5⟩
                replace hB4 := Aside0.mk (below_then hB4.out hB4.out.size hB5)
                clear hv hB5 cb4 hcell
                by_cases t1 : v < u
                ·have hk1 : 1 = r := by have h := hk.out; rw [if_pos t1] at h; exact h
                 have t1d : decide ((v : Int) < (u : Int)) = true := decide_eq_true (by omega)
                 have t1n : (v < u) = True := eq_true t1
                 clear t1
                 go_wp2_with fail
                 go_ret
                 exact ⟨by rw [← hk1]; try rfl, below_then hB.out hB.out.size hB4.out⟩
                have t1d : decide ((v : Int) < (u : Int)) = false := decide_eq_false (by omega)
                have t1n : (v < u) = False := eq_false t1
                by_cases t2 : u < v
                ·have hk1 : -1 = r := by have h := hk.out; rw [if_neg t1, if_pos t2] at h; exact h
                 have t2d : decide ((u : Int) < (v : Int)) = true := decide_eq_true (by omega)
                 have t2n : (u < v) = True := eq_true t2
                 clear t1 t2
                 go_wp2_with fail
                 go_ret
                 exact ⟨by rw [← hk1]; try rfl, below_then hB.out hB.out.size hB4.out⟩
                ·have hk1 := Aside0.mk (show preF (x.drop (k + 1)) (y.drop (k + 1)) = r from by have h := hk.out; rw [if_neg t1, if_neg t2] at h; exact h)
                 have t2d : decide ((u : Int) < (v : Int)) = false := decide_eq_false (by omega)
                 have t2n : (u < v) = False := eq_false t2
                 clear t1 t2
                 go_wp2_with fail
                 go_roundw
                 case measure => have := hk2.out; first | exact meas this | (rw [show (k : Int) + 1 = ((k + 1 : Nat) : Int) from rfl]; exact meas this)
                 case rel => exact ⟨k + 1, by go_num, hk2.out, hk2y.out, by exact hk1.out, below_then hBl.out hBl.out.size hB4.out⟩
end Go.Proofs.YtmfgkidppchobaaDoor.Ver10


set_option linter.unusedSimpArgs false
set_option linter.unusedVariables false
namespace Go.Proofs.YtmfgkidppchobaaDoor.Ver11
open Go.RowKit Go.Proofs.YtmfgkidppchobaaDoorW.PrintWords Go.Proofs.YtmfgkidppchobaaDoorW.PrintLast Go.Proofs.YtmfgkidppchobaaDoor.XFnVersionWays Go.Proofs.YtmfgkidppchobaaDoor.Ver1 Go.Proofs.YtmfgkidppchobaaDoor.Ver2 Go.Proofs.YtmfgkidppchobaaDoor.Ver3 Go.Proofs.YtmfgkidppchobaaDoor.Ver4 Go.Proofs.YtmfgkidppchobaaDoor.Ver5 Go.Proofs.YtmfgkidppchobaaDoor.Ver6 Go.Proofs.YtmfgkidppchobaaDoor.Ver7 Go.Proofs.YtmfgkidppchobaaDoor.VerQ Go.Proofs.YtmfgkidppchobaaDoor.Ver10
theorem cmp_calls (g h : Nat) (l m : List Int) (sv sv' : Bool) (pre pre' bld bld' : ByteArray) (w : World) (hI : IsVer w g l sv pre bld) (hJ : IsVer w h m sv' pre' bld') (hl : l.length ≤ 4294967296) (hm : m.length ≤ 4294967296) (hp : pre.size ≤ 2147483648) (hp' : pre'.size ≤ 2147483648) (hV : VT.V w) :
  Calls Tryd.prog 59 #[Ptr g, Ptr h] w fun e w' => e = .returned (.int .i64 (cmpL l m sv sv' pre pre')) ∧ Below w.heap.size w w' := by
 cases hr : headCmp l m with
 | none => exact cmp_none g h l m sv sv' pre pre' bld bld' w hI hJ hr hl hm hp hp' _ rfl hV
 | some r =>
  rw [show cmpL l m sv sv' pre pre' = r from by unfold cmpL; rw [hr]]
  exact cmp_head g h l m sv sv' pre pre' bld bld' w hI hJ r hr hl hm
def okQ (r : Option (Bool × PV)) : Prop := match r with
 | none => True
 | some (_, ns, pre, bld) => ns.length ≤ 4294967296 ∧ pre.size ≤ 2147483648
def compareS (l : List Int) (sv : Bool) (pre : ByteArray) : Option PV → Int × Bool
 | none => (0, false)
 | some (m, pre', _) => (cmpL l m sv sv pre pre', true)
def compareR (other : ByteArray) : Option (Bool × PV) → Int × Bool
 | none => (0, false)
 | some (sv, l, pre, _) => compareS l sv pre (parseL sv other)
def compareL (kind : Int) (a other : ByteArray) : Int × Bool := compareR other (parsedL kind a)
set_option maxHeartbeats 4000000 in
set_option maxRecDepth 100000 in
theorem compare_calls (k : Nat) (g : Nat) (l : List Int) (sv : Bool) (pre bld : ByteArray) (other : ByteArray) (r : Option PV) (w : World) (hI : IsVer w g l sv pre bld) (h : parseF k sv other = some r) (hl : l.length ≤ 4294967296) (hp : pre.size ≤ 2147483648) (hr : okQ (r.map fun v => (sv, v))) (hV : VT.V w) :
  Calls Tryd.prog 28 #[Ptr g, .string other] w fun e w' => (match r with
   | none => ∃ p, e = .returned (.tuple #[.int .i64 0, .iface 107 p])
   | some (m, pre', _) => e = .returned (.tuple #[.int .i64 (cmpL l m sv sv pre pre'), .nilIface])) ∧ Below w.heap.size w w' := by
 have hg := hI.lt
 have hIx := Aside0.mk hI
 replace h := Aside0.mk h
 replace hl := Aside0.mk hl
 replace hp := Aside0.mk hp
 replace hr := Aside0.mk hr
 replace hV := Aside0.mk hV
 obtain ⟨A, c, hG, hrA, hlc⟩ := hI
 have e1 := cV1 hG
 clear hG hrA hlc
 unfold Ptr
 go_enter Tryd.func28, Tryd.ntmps28
 go_wp2_with fail
 refine (parse_calls k other sv r _ h.out hV.out).mono ?_
 intro e w1 hP
 cases r with
 | none =>
  obtain ⟨p, rfl, hB⟩ := hP
  replace hB := Aside0.mk hB
  clear e1
  go_wp2_with fail
  refine bodyPost_ret (results_list (rs := [.tmp 4, .tmp 5]) rfl (by simp) (.tmp (.tmp .nil))) rfl ?_
  exact ⟨⟨_, rfl⟩, hB.out⟩
 | some v =>
  obtain ⟨m, pre', bld'⟩ := v
  obtain ⟨g2, rfl, hg2, hI2, hU2, hB⟩ := hP
  replace hI2 := Aside0.mk hI2
  replace hB := Aside0.mk hB
  clear hU2 e1 hg2
  obtain ⟨d, hd⟩ : ∃ d, d = cmpL l m sv sv pre pre' := ⟨_, rfl⟩
  replace hd := Aside0.mk hd
  unfold Ptr
  go_wp2_with fail
  refine (cmp_calls g g2 l m sv sv pre pre' bld bld' _ (hIx.out.below hB.out) hI2.out hl.out hr.out.1 hp.out hr.out.2 (hV.out.below hB.out)).mono ?_
  rintro e w2 ⟨rfl, hB2⟩
  rw [← hd.out]
  go_wp2_with fail
  refine bodyPost_ret (results_list (rs := [.tmp 4, .tmp 5]) rfl (by simp) (.tmp (.tmp .nil))) rfl ?_
  exact ⟨by rw [← hd.out]; rfl, below_then hB.out hB.out.size hB2⟩
set_option maxHeartbeats 4000000 in
set_option maxRecDepth 100000 in
theorem versionCompare_calls (k1 : Nat) (kind : Int) (a other : ByteArray) (r1 : Option (Bool × PV)) (w : World) (h1 : parsedF k1 kind a = some r1) (hr : r1 = parsedL kind a) (o1 : okQ r1) (h2 : ∀ sv, ∃ k, parseF k sv other = some (parseL sv other)) (o2 : ∀ sv, okQ ((parseL sv other).map fun v => (sv, v))) (hV : VT.V w) :
  Calls Tryd.prog 10 #[.int .i64 kind, .string a, .string other] w fun e w' => (e = .returned (.tuple #[.int .i64 (compareL kind a other).1, .bool (compareL kind a other).2])) ∧ Below w.heap.size w w' := by
 obtain ⟨R, hR⟩ : ∃ R, R = compareL kind a other := ⟨_, rfl⟩
 rw [← hR]
 replace hR : Aside0 (R = compareR other r1) := ⟨by rw [hR, hr]; rfl⟩
 clear hr
 replace h1 := Aside0.mk h1
 replace h2 := Aside0.mk h2
 replace o1 := Aside0.mk o1
 replace o2 := Aside0.mk o2
 replace hV := Aside0.mk hV
 go_enter Tryd.func10, Tryd.ntmps10
 go_wp2_with fail
 refine (parsed_calls k1 kind a _ _ h1.out hV.out).mono ?_
 intro e w1 hP1
 cases r1 with
 | none =>
  obtain ⟨p1, rfl, hB1⟩ := hP1
  replace hB1 := Aside0.mk hB1
  have e1 : R = (0, false) := hR.out
  subst e1
  go_wp2_with fail
  refine bodyPost_ret (results_list (rs := [.tmp 6, .tmp 7]) rfl (by simp) (.tmp (.tmp .nil))) rfl ?_
  exact ⟨rfl, hB1.out⟩
 | some v1 =>
  obtain ⟨sv, l, pre, bld⟩ := v1
  obtain ⟨g, rfl, hI, hU, hB1⟩ := hP1
  replace hI := Aside0.mk hI
  replace hB1 := Aside0.mk hB1
  obtain ⟨k2, hk2⟩ := h2.out sv
  obtain ⟨r2, hr2⟩ : ∃ r2, r2 = parseL sv other := ⟨_, rfl⟩
  have ho2 := o2.out sv
  rw [← hr2] at hk2 ho2
  replace hk2 := Aside0.mk hk2
  replace ho2 := Aside0.mk ho2
  replace hR : Aside0 (R = compareS l sv pre r2) := ⟨by rw [hr2]; exact hR.out⟩
  clear hU hr2
  unfold Ptr
  go_wp2_with fail
  refine (compare_calls k2 g l sv pre bld other r2 _ hI.out hk2.out o1.out.1 o1.out.2 ho2.out (hV.out.below hB1.out)).mono ?_
  rintro e w2 ⟨he, hB2⟩
  replace hB2 := Aside0.mk (below_then hB1.out hB1.out.size hB2)
  cases r2 with
  | none =>
   obtain ⟨p, rfl⟩ := he
   have e1 : R = (0, false) := hR.out
   subst e1
   go_upto_region 5 with (fail)
   go_region
   go_wp2_with fail
   refine bodyPost_ret (results_list (rs := [.tmp 6, .tmp 7]) rfl (by simp) (.tmp (.tmp .nil))) rfl ?_
   exact ⟨rfl, pw_below_drewN hB2.out 1⟩
  | some v =>
   obtain ⟨m, pre', bld'⟩ := v
   have he : e = .returned (.tuple #[.int .i64 (cmpL l m sv sv pre pre'), .nilIface]) := he
   subst he
   obtain ⟨d, hd⟩ : ∃ d, d = cmpL l m sv sv pre pre' := ⟨_, rfl⟩
   have e1 : Aside0 (R = (d, true)) := ⟨by rw [hd]; exact hR.out⟩
   rw [← hd]
   clear hd hR
   go_upto_region 5 with (fail)
   go_region
   go_wp2_with fail
   refine bodyPost_ret (results_list (rs := [.tmp 6, .tmp 7]) rfl (by simp) (.tmp (.tmp .nil))) rfl ?_
   exact ⟨by rw [e1.out]; rfl, pw_below_drewN hB2.out 1⟩
end Go.Proofs.YtmfgkidppchobaaDoor.Ver11

