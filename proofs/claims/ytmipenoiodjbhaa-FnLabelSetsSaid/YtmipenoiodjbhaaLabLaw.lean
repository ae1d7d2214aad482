/- FnLabelSets: the law's function walked: for all sets of labels it tells true. -/
import Derived.Test.YtmipenoiodjbhaaLabL
import Derived.Test.YtmipenoiodjbhaaWGuard
namespace Go.Proofs.Ytmipenoiodjbhaa.LabLaw
open Go.RowKit Go.Maps Go.Proofs.YtmipenoiodjbhaaW.PrintWords Go.Proofs.Ytmipenoiodjbhaa.EvL Go.Proofs.Ytmipenoiodjbhaa.SetGen Go.Proofs.Ytmipenoiodjbhaa.MapGen Go.Proofs.Ytmipenoiodjbhaa.XFnLabelSets Go.Proofs.Ytmipenoiodjbhaa.MapS Go.Proofs.Ytmipenoiodjbhaa.LabL
open Go.Proofs.Ytmipenoiodjbhaa.SetS (canon canon_eq canon_congr srt srt_length meas)

def Ok (l : List S44) : Prop := ∀ p ∈ l, p.f0.size ≤ maxLen ∧ p.f1.size ≤ maxLen

set_option maxHeartbeats 600000 in
set_option maxRecDepth 100000 in
theorem labelEquals (A1 : Option Addr) (c1 : Nat) (l1 : List S44) (A2 : Option Addr) (c2 : Nat) (l2 : List S44) (w : World) (hr1 : k44.C w A1 l1.length l1) (hr2 : k44.C w A2 l2.length l2) (hn : l1.length ≤ 2147483647 ∧ l2.length ≤ 2147483647) (ho1 : Ok l1) (ho2 : Ok l2) :
    Calls Try.prog 24 #[.slice A1 l1.length c1, .slice A2 l2.length c2] w (TestPost w (eqB l1 l2)) := by
  have hr1 := Aside0.mk hr1
  have hr2 := Aside0.mk hr2
  have hn := Aside0.mk hn
  have ho1 := Aside0.mk ho1
  have ho2 := Aside0.mk ho2
  go_enter Try.func24, Try.ntmps24
  go_wp2_with fail
  refine (labelSet_calls A1 l1 c1 _ hr1.out (by have := hn.out; omega) ho1.out).mono ?_
  rintro e w1 ⟨rfl, hM1, hB1⟩
  have hM1 := Aside0.mk hM1
  have hB := Aside0.mk hB1
  clear hB1
  go_wp2_with fail
  refine (labelSet_calls A2 l2 c2 _ (Kd.C_below hr2.out hB.out) (by have := hn.out; omega) ho2.out).mono ?_
  rintro e w2 ⟨rfl, hM2, hBn⟩
  have hM1 := Aside0.mk (M_below hM1.out hBn)
  have hM2 := Aside0.mk hM2
  have hB := Aside0.mk (below_then hB.out hB.out.size hBn)
  clear hBn
  go_wp2_with fail
  refine (equals_calls _ _ _ _ _ _ (eqB l1 l2) _ hM1.out hM2.out (eqB_iff l1 l2)).mono ?_
  rintro e w3 ⟨rfl, hBn⟩
  have hB := Aside0.mk (below_then hB.out hB.out.size hBn)
  clear hBn
  go_wp2_with fail
  go_ret
  exact ⟨rfl, hB.out⟩

set_option maxHeartbeats 600000 in
set_option maxRecDepth 100000 in
theorem labelConflicts (A1 : Option Addr) (c1 : Nat) (l1 : List S44) (A2 : Option Addr) (c2 : Nat) (l2 : List S44) (w : World) (hr1 : k44.C w A1 l1.length l1) (hr2 : k44.C w A2 l2.length l2) (hn : l1.length ≤ 2147483647 ∧ l2.length ≤ 2147483647) (ho1 : Ok l1) (ho2 : Ok l2) :
    Calls Try.prog 26 #[.slice A1 l1.length c1, .slice A2 l2.length c2] w (TestPost w (cfB l1 l2)) := by
  have hr1 := Aside0.mk hr1
  have hr2 := Aside0.mk hr2
  have hn := Aside0.mk hn
  have ho1 := Aside0.mk ho1
  have ho2 := Aside0.mk ho2
  go_enter Try.func26, Try.ntmps26
  go_wp2_with fail
  refine (labelSet_calls A1 l1 c1 _ hr1.out (by have := hn.out; omega) ho1.out).mono ?_
  rintro e w1 ⟨rfl, hM1, hB1⟩
  have hM1 := Aside0.mk hM1
  have hB := Aside0.mk hB1
  clear hB1
  go_wp2_with fail
  refine (labelSet_calls A2 l2 c2 _ (Kd.C_below hr2.out hB.out) (by have := hn.out; omega) ho2.out).mono ?_
  rintro e w2 ⟨rfl, hM2, hBn⟩
  have hM1 := Aside0.mk (M_below hM1.out hBn)
  have hM2 := Aside0.mk hM2
  have hB := Aside0.mk (below_then hB.out hB.out.size hBn)
  clear hBn
  go_wp2_with fail
  refine (conflicts_calls _ _ _ _ _ _ (cfB l1 l2) _ hM1.out hM2.out (cfB_iff l1 l2)).mono ?_
  rintro e w3 ⟨rfl, hBn⟩
  have hB := Aside0.mk (below_then hB.out hB.out.size hBn)
  clear hBn
  go_wp2_with fail
  go_ret
  exact ⟨rfl, hB.out⟩

set_option maxHeartbeats 600000 in
set_option maxRecDepth 100000 in
theorem labelMerge (A1 : Option Addr) (c1 : Nat) (l1 : List S44) (A2 : Option Addr) (c2 : Nat) (l2 : List S44) (w : World) (hr1 : k44.C w A1 l1.length l1) (hr2 : k44.C w A2 l2.length l2) (hn : l1.length ≤ 2147483647 ∧ l2.length ≤ 2147483647) (ho1 : Ok l1) (ho2 : Ok l2) :
    Calls Try.prog 23 #[.slice A1 l1.length c1, .slice A2 l2.length c2] w fun e w' => ∃ v : Value, e = .returned v ∧ k44.R 44 w' w.heap.size (fun _ => True) v (prs (l1 ++ l2)) ∧ Below w.heap.size w w' := by
  have hr1 := Aside0.mk hr1
  have hr2 := Aside0.mk hr2
  have hn := Aside0.mk hn
  have ho1 := Aside0.mk ho1
  have ho2 := Aside0.mk ho2
  go_enter Try.func23, Try.ntmps23
  go_wp2_with fail
  refine (labelSet_calls A1 l1 c1 _ hr1.out (by have := hn.out; omega) ho1.out).mono ?_
  rintro e w1 ⟨rfl, hM1, hB1⟩
  have hM1 := Aside0.mk hM1
  have hB := Aside0.mk hB1
  clear hB1
  go_wp2_with fail
  refine (labelSet_calls A2 l2 c2 _ (Kd.C_below hr2.out hB.out) (by have := hn.out; omega) ho2.out).mono ?_
  rintro e w2 ⟨rfl, hM2, hBn⟩
  have hM1 := Aside0.mk (M_below hM1.out hBn)
  have hM2 := Aside0.mk hM2
  have hB := Aside0.mk (below_then hB.out hB.out.size hBn)
  clear hBn
  go_wp2_with fail
  refine (merge_calls _ _ _ _ _ _ _ hM1.out hM2.out (by have := hn.out; omega) (by have := hn.out; omega)).mono ?_
  rintro e w3 ⟨rfl, hM3, hBn⟩
  have hM3 := Aside0.mk hM3
  have hB := Aside0.mk (below_then hB.out hB.out.size hBn)
  clear hBn
  go_wp2_with fail
  refine (pairs_calls _ _ _ _ hM3.out (by have := hn.out; omega)).mono ?_
  rintro e w4 ⟨v, xs, hx1, hx2, rfl, hR, hBn⟩
  have hs := hB.out.size
  have hB := Aside0.mk (below_then hB.out hB.out.size hBn)
  have hx1 := Aside0.mk hx1
  have hx2 := Aside0.mk hx2
  have hR := Aside0.mk (Kd.R_lower hR hs)
  clear hBn hs
  go_wp2_with fail
  go_ret
  refine ⟨_, rfl, ?_, hB.out⟩
  have e1 : over (fn l1) (fn l2) = fn (l1 ++ l2) := funext (fun x => (fn_append l1 l2 x).symm)
  have e2 : srt xs = canon (keysOf (l1 ++ l2)) := canon_eq hx1.out (fun x => by rw [hx2.out, e1, fn_isSome])
  unfold prs
  rw [← e2, ← e1]
  exact hR.out

/-! ### the law -/
set_option maxHeartbeats 2000000 in
set_option maxRecDepth 100000 in
theorem law_true (A0 : Option Addr) (c0 : Nat) (l0 : List S44) (A1 : Option Addr) (c1 : Nat) (l1 : List S44) (w : World) (hr0 : k44.C w A0 l0.length l0) (hc0 : l0.length ≤ c0) (hr1 : k44.C w A1 l1.length l1) (hc1 : l1.length ≤ c1) (ho0 : Ok l0) (ho1 : Ok l1) :
    Calls Try.prog 6 #[.slice A0 l0.length c0, .slice A1 l1.length c1] w (TestPost w true) := by
  obtain ⟨k1, b1, f1, g1⟩ := fits2_ev l0
  obtain ⟨k2, b2, f2, g2⟩ := fits2_ev l1
  have f1 := Aside0.mk f1
  have g1 := Aside0.mk g1
  have f2 := Aside0.mk f2
  have g2 := Aside0.mk g2
  have hr0 := Aside0.mk hr0
  have hr1 := Aside0.mk hr1
  have hc0 := Aside0.mk hc0
  have hc1 := Aside0.mk hc1
  have ho0 := Aside0.mk ho0
  have ho1 := Aside0.mk ho1
  go_enter Try.func6, Try.ntmps6
  go_wp2_with fail
  refine (laws_zzFits2.calls k1 _ _ l0 b1 _ hr0.out hc0.out f1.out).mono ?_
  rintro e w1 ⟨rfl, hBn⟩
  have hB := Aside0.mk hBn
  clear hBn
  rcases b1 with _ | _
  · go_wp2_with fail
    go_ret
    exact ⟨rfl, hB.out⟩
  go_wp2_with fail
  refine (laws_zzFits2.calls k2 _ _ l1 b2 _ (Kd.C_below hr1.out hB.out) hc1.out f2.out).mono ?_
  rintro e w2 ⟨rfl, hBn⟩
  have hB := Aside0.mk (below_then hB.out hB.out.size hBn)
  clear hBn
  rcases b2 with _ | _
  · go_wp2_with fail
    go_ret
    exact ⟨rfl, hB.out⟩
  have hn := Aside0.mk (show l0.length ≤ 2147483647 ∧ l1.length ≤ 2147483647 from ⟨by have := g1.out; simpa using this, by have := g2.out; simpa using this⟩)
  clear g1 g2 f1 f2
  obtain ⟨px, epx⟩ : ∃ r, r = prs l0 := ⟨_, rfl⟩
  obtain ⟨py, epy⟩ : ∃ r, r = prs l1 := ⟨_, rfl⟩
  obtain ⟨pm, epm⟩ : ∃ r, r = prs (l0 ++ l1) := ⟨_, rfl⟩
  have lpx : px.length ≤ 2147483647 := by rw [epx]; have := prs_length l0; have := hn.out; omega
  have lpy : py.length ≤ 2147483647 := by rw [epy]; have := prs_length l1; have := hn.out; omega
  have lpm : pm.length ≤ 4294967294 := by rw [epm]; have := prs_length (l0 ++ l1); rw [List.length_append] at this; have := hn.out; omega
  obtain ⟨q1, s1⟩ := (pairs_ev l0 (by have := hn.out; omega)).rounds
  obtain ⟨q2, s2⟩ := (pairs_ev l1 (by have := hn.out; omega)).rounds
  obtain ⟨q3, s3⟩ := (pairs_ev (l0 ++ l1) (by rw [List.length_append]; have := hn.out; omega)).rounds
  rw [← epx] at s1
  rw [← epy] at s2
  rw [← epm] at s3
  obtain ⟨re, s4, hre⟩ := psame_ev px py (by omega)
  obtain ⟨q4, s4⟩ := s4.rounds
  have hre2 : re = eqB l0 l1 := by rw [Bool.eq_iff_iff, hre, eqB_iff, epx, epy, prs_eq]
  obtain ⟨rm, s5, hrm⟩ := psame_ev pm pm (by omega)
  obtain ⟨q5, s5⟩ := s5.rounds
  obtain rfl : rm = true := hrm.2 rfl
  have hfind : ∀ x, ∃ k, spec_Find.f k py x = some ((fn l1 x).getD E0, (fn l1 x).isSome) := fun x => by
    obtain ⟨k, hk⟩ := (find_ev py x (by omega)).rounds
    refine ⟨k, ?_⟩
    rw [hk]
    unfold fnd
    rw [epy, fn_prs]
  obtain ⟨cl, ecl⟩ : ∃ c, c = cfB l0 l1 := ⟨_, rfl⟩
  have hcl : cl = px.any (tst l1) := by rw [ecl, epx]; rfl
  have hre2 := Aside0.mk hre2
  have eclx := Aside0.mk ecl
  have hclx := Aside0.mk hcl
  have epmx := Aside0.mk epm
  have s1 := Aside0.mk s1
  have s2 := Aside0.mk s2
  have s3 := Aside0.mk s3
  have s4 := Aside0.mk s4
  have s5 := Aside0.mk s5
  have hfind := Aside0.mk hfind
  clear epx epy epm hre hrm ecl hcl
  go_wp2_with fail
  refine (spec_Pairs.calls q1 _ _ l0 px _ (Kd.C_below hr0.out hB.out) hc0.out s1.out).mono ?_
  rintro e w3 ⟨v, rfl, hR, hBn⟩
  obtain ⟨X, cx, rfl, hcx, hCx⟩ := Kd.R_reads hR
  have hcx := Aside0.mk hcx
  have hCx := Aside0.mk hCx
  have hB := Aside0.mk (below_then hB.out hB.out.size hBn)
  clear hR hBn
  go_wp2_with fail
  refine (spec_Pairs.calls q2 _ _ l1 py _ (Kd.C_below hr1.out hB.out) hc1.out s2.out).mono ?_
  rintro e w4 ⟨v, rfl, hR, hBn⟩
  obtain ⟨Y, cy, rfl, hcy, hCy⟩ := Kd.R_reads hR
  have hcy := Aside0.mk hcy
  have hCy := Aside0.mk hCy
  have hCx := Aside0.mk (Kd.C_below hCx.out hBn)
  have hB := Aside0.mk (below_then hB.out hB.out.size hBn)
  clear hR hBn
  go_wp2
  go_loopw [7, 8, 9, 10] (fun c i _ _ wr => ∃ k : Nat, k ≤ px.length ∧ i = .int .i64 k ∧ c = .bool ((px.take k).any (tst l1)) ∧ Below w4.heap.size w4 wr) (fun _ i _ _ _ => px.length - (intOf i).toNat)
  case atStart => exact ⟨0, Nat.zero_le _, rfl, rfl, Below.refl _ _⟩
  case round =>
    obtain ⟨k, hk, rfl, rfl, hBr⟩ := hrel
    obtain ⟨cb, hcb⟩ : ∃ c, c = (px.take k).any (tst l1) := ⟨_, rfl⟩
    rw [← hcb]
    have hcbx := Aside0.mk hcb
    clear hcb
    have hrk := Kd.C_below hCx.out hBr
    have hyk := Aside0.mk (Kd.C_below hCy.out hBr)
    by_cases c3 : (k : Int) < (px.length : Int)
    · obtain ⟨x, hx⟩ : ∃ x, rd_T44 px (k : Int) = x := ⟨_, rfl⟩
      have hxl : px[k]? = some x := at_of hx (by omega)
      have p := Int.natCast_nonneg k
      obtain ⟨ad, e1, hcell, hcell2⟩ := at_T44 hrk (k : Int) p c3
      rw [hx, Int.toNat_natCast] at hcell hcell2
      cases e1
      have hxl := Aside0.mk hxl
      have c3b := decide_eq_true c3
      have hk2 := Aside0.mk (show k + 1 ≤ px.length by omega)
      obtain ⟨s, v, rfl⟩ : ∃ s v, x = ⟨s, v⟩ := ⟨x.f0, x.f1, rfl⟩
      replace p := eq_true p
      replace c3 := eq_true c3
      have hBr := Aside0.mk hBr
      obtain ⟨kf, hkf⟩ := hfind.out s
      clear hrk hx
      rcases hfx : fn l1 s with _ | u
      · rw [hfx] at hkf
        have hkf := Aside0.mk hkf
        go_wp2_with fail
        refine (spec_Find.calls kf _ _ py s E0 false _ hyk.out hcy.out hkf.out).mono ?_
        rintro e w6 ⟨rfl, hd⟩
        have hBn := hd.below
        have hBr := Aside0.mk (below_then hBr.out hBr.out.size hBn)
        have hcA := pw_cell_below hBn hcell
        have hcB := pw_cell_below hBn hcell2
        clear hBn hd hcell hcell2
        rcases cb with _ | _
        · have hcb2 := Aside0.mk hcbx.out
          clear hcbx
          go_wp2_with fail
          go_roundw
          case measure => have := hk2.out; first | exact meas this | (rw [show (k : Int) + 1 = ((k + 1 : Nat) : Int) from rfl]; exact meas this)
          case rel =>
            refine ⟨k + 1, hk2.out, by go_num, ?_, hBr.out⟩
            rw [take_succ hxl.out, List.any_append, ← hcb2.out]
            simp [tst, hfx]
        · have hcb2 := Aside0.mk hcbx.out
          clear hcbx
          go_wp2_with fail
          go_roundw
          case measure => have := hk2.out; first | exact meas this | (rw [show (k : Int) + 1 = ((k + 1 : Nat) : Int) from rfl]; exact meas this)
          case rel =>
            refine ⟨k + 1, hk2.out, by go_num, ?_, hBr.out⟩
            rw [take_succ hxl.out, List.any_append, ← hcb2.out]
            simp
      · by_cases huv : u = v
        · subst huv
          rw [hfx] at hkf
          have hkf := Aside0.mk hkf
          go_wp2_with fail
          refine (spec_Find.calls kf _ _ py s u true _ hyk.out hcy.out hkf.out).mono ?_
          rintro e w6 ⟨rfl, hd⟩
          have hBn := hd.below
          have hBr := Aside0.mk (below_then hBr.out hBr.out.size hBn)
          have hcA := pw_cell_below hBn hcell
          have hcB := pw_cell_below hBn hcell2
          clear hBn hd hcell hcell2
          rcases cb with _ | _
          · have hcb2 := Aside0.mk hcbx.out
            clear hcbx
            go_wp2_with fail
            go_roundw
            case measure => have := hk2.out; first | exact meas this | (rw [show (k : Int) + 1 = ((k + 1 : Nat) : Int) from rfl]; exact meas this)
            case rel =>
              refine ⟨k + 1, hk2.out, by go_num, ?_, hBr.out⟩
              rw [take_succ hxl.out, List.any_append, ← hcb2.out]
              simp [tst, hfx]
          · have hcb2 := Aside0.mk hcbx.out
            clear hcbx
            go_wp2_with fail
            go_roundw
            case measure => have := hk2.out; first | exact meas this | (rw [show (k : Int) + 1 = ((k + 1 : Nat) : Int) from rfl]; exact meas this)
            case rel =>
              refine ⟨k + 1, hk2.out, by go_num, ?_, hBr.out⟩
              rw [take_succ hxl.out, List.any_append, ← hcb2.out]
              simp
        · have hne := toL_ne huv
          have hne2 : (!(u.toList == v.toList)) = true := by rw [hne]; rfl
          have huv2 := huv
          rw [hfx] at hkf
          have hkf := Aside0.mk hkf
          go_wp2_with fail
          refine (spec_Find.calls kf _ _ py s u true _ hyk.out hcy.out hkf.out).mono ?_
          rintro e w6 ⟨rfl, hd⟩
          have hBn := hd.below
          have hBr := Aside0.mk (below_then hBr.out hBr.out.size hBn)
          have hcA := pw_cell_below hBn hcell
          have hcB := pw_cell_below hBn hcell2
          clear hBn hd hcell hcell2
          rcases cb with _ | _
          · have hcb2 := Aside0.mk hcbx.out
            clear hcbx
            go_wp2_with fail
            go_roundw
            case measure => have := hk2.out; first | exact meas this | (rw [show (k : Int) + 1 = ((k + 1 : Nat) : Int) from rfl]; exact meas this)
            case rel =>
              refine ⟨k + 1, hk2.out, by go_num, ?_, hBr.out⟩
              rw [take_succ hxl.out, List.any_append, ← hcb2.out]
              simp [tst, hfx, huv2]
          · have hcb2 := Aside0.mk hcbx.out
            clear hcbx
            go_wp2_with fail
            go_roundw
            case measure => have := hk2.out; first | exact meas this | (rw [show (k : Int) + 1 = ((k + 1 : Nat) : Int) from rfl]; exact meas this)
            case rel =>
              refine ⟨k + 1, hk2.out, by go_num, ?_, hBr.out⟩
              rw [take_succ hxl.out, List.any_append, ← hcb2.out]
              simp
    · have c3b := decide_eq_false c3
      obtain rfl : k = px.length := by omega
      have hcl2 : cb = cl := by rw [hcbx.out, List.take_length]; exact hclx.out.symm
      subst hcl2
      have hBr := Aside0.mk hBr
      clear hrk
      have hB2 := Aside0.mk (below_then hB.out hB.out.size hBr.out)
      go_wp2_with fail
      refine (labelMerge A0 c0 l0 A1 c1 l1 _ (Kd.C_below hr0.out hB2.out) (Kd.C_below hr1.out hB2.out) hn.out ho0.out ho1.out).mono ?_
      rintro e w7 ⟨v, rfl, hR, hBn⟩
      rw [← epmx.out] at hR
      obtain ⟨Z, cz, rfl, hcz, hCz⟩ := Kd.R_reads hR
      have hcz := Aside0.mk hcz
      have hCz := Aside0.mk hCz
      have hCx := Aside0.mk (Kd.C_below (Kd.C_below hCx.out hBr.out) hBn)
      have hCy := Aside0.mk (Kd.C_below (Kd.C_below hCy.out hBr.out) hBn)
      have hB2 := Aside0.mk (below_then hB2.out hB2.out.size hBn)
      clear hR hBn hBr
      go_wp2_with fail
      refine (labelEquals A0 c0 l0 A1 c1 l1 _ (Kd.C_below hr0.out hB2.out) (Kd.C_below hr1.out hB2.out) hn.out ho0.out ho1.out).mono ?_
      rintro e w8 ⟨rfl, hBn⟩
      rw [← hre2.out]
      have hCx := Aside0.mk (Kd.C_below hCx.out hBn)
      have hCy := Aside0.mk (Kd.C_below hCy.out hBn)
      have hCz := Aside0.mk (Kd.C_below hCz.out hBn)
      have hB2 := Aside0.mk (below_then hB2.out hB2.out.size hBn)
      clear hBn
      go_wp2_with fail
      refine (spec_PairsSame.calls q4 _ _ px _ _ py re _ hCx.out hcx.out hCy.out hcy.out s4.out).mono ?_
      rintro e w9 ⟨rfl, hd⟩
      have hBn := hd.below
      have hCz := Aside0.mk (Kd.C_below hCz.out hBn)
      have hB2 := Aside0.mk (below_then hB2.out hB2.out.size hBn)
      clear hBn hd
      go_wp2_with fail
      refine (labelEquals A0 c0 l0 A0 c0 l0 _ (Kd.C_below hr0.out hB2.out) (Kd.C_below hr0.out hB2.out) ⟨hn.out.1, hn.out.1⟩ ho0.out ho0.out).mono ?_
      rintro e w10 ⟨rfl, hBn⟩
      rw [show eqB l0 l0 = true from (eqB_iff l0 l0).2 (fun _ => rfl)]
      have hCz := Aside0.mk (Kd.C_below hCz.out hBn)
      have hB2 := Aside0.mk (below_then hB2.out hB2.out.size hBn)
      clear hBn
      go_wp2_with fail
      refine (labelConflicts A0 c0 l0 A1 c1 l1 _ (Kd.C_below hr0.out hB2.out) (Kd.C_below hr1.out hB2.out) hn.out ho0.out ho1.out).mono ?_
      rintro e w11 ⟨rfl, hBn⟩
      rw [← eclx.out]
      have hCz := Aside0.mk (Kd.C_below hCz.out hBn)
      have hB2 := Aside0.mk (below_then hB2.out hB2.out.size hBn)
      clear hBn
      go_wp2_with fail
      refine (labelConflicts A1 c1 l1 A0 c0 l0 _ (Kd.C_below hr1.out hB2.out) (Kd.C_below hr0.out hB2.out) ⟨hn.out.2, hn.out.1⟩ ho1.out ho0.out).mono ?_
      rintro e w12 ⟨rfl, hBn⟩
      rw [cf_sym l0 l1, ← eclx.out]
      have hCz := Aside0.mk (Kd.C_below hCz.out hBn)
      have hB2 := Aside0.mk (below_then hB2.out hB2.out.size hBn)
      clear hBn
      go_wp2_with (first
        | ((with_reducible refine gate_dst (N := 84) rfl ?_); (try (refine gate_guard (by rfl) ?_; dsimp only)); refine Kd.R_lit k44 (w0 := w12) w12.heap.size 44 rfl (N := 84) rfl (xs := ([] : List S44)) (inner := []) (ok := fun _ => True) (okp := fun _ => True) (by first | (go_simp; done) | (go_simp; rfl)) (Reps.none _ _) (fun _ hk => hk) trivial (Below.refl _ _) (Nat.le_refl _) (by simp) ?_; intro u1 w13 ho hb hg_ hn_; have hR7 := Aside0.mk ho; have hB7 := Aside0.mk hb; clear ho hb hg_ hn_)
        | ((with_reducible refine gate_dst (N := 86) rfl ?_); (try (refine gate_guard (by rfl) ?_; dsimp only)); refine Kd.R_append_rows k44 (w0 := w12) w12.heap.size rfl (.tmp 84) (.tmp 85) 38 44 (.agg #[(.string ⟨#[]⟩), (.string ⟨#[]⟩)]) 32 rfl Try.underlying38 info44 rfl (by decide) (by omega) u1 (([] : List S44)) l0 _ _ _ (fun _ => True) (fun _ => False) rfl rfl hR7.out (Kd.C_below hr0.out (below_then hB2.out hB2.out.size hB7.out)) (fun x cs h => by rw [k44_open h]; exact k44_mkM _ _ _ x) (fun _ h => h.elim) (fun _ _ => trivial) hB7.out hB7.out.size (by have := hn.out; simp only [List.length_nil]; omega) ?_; intro u2 w14 ho hb hg_ hn_; have hRu2 := Aside0.mk ho; have hB7 := Aside0.mk hb; clear ho hb hg_ hn_)
        | ((with_reducible refine gate_dst (N := 88) rfl ?_); (try (refine gate_guard (by rfl) ?_; dsimp only)); refine Kd.R_append_rows k44 (w0 := w12) w12.heap.size rfl (.tmp 86) (.tmp 87) 38 44 (.agg #[(.string ⟨#[]⟩), (.string ⟨#[]⟩)]) 32 rfl Try.underlying38 info44 rfl (by decide) (by omega) u2 ([] ++ l0) l1 _ _ _ (fun _ => True) (fun _ => False) rfl rfl hRu2.out (Kd.C_below hr1.out (below_then hB2.out hB2.out.size hB7.out)) (fun x cs h => by rw [k44_open h]; exact k44_mkM _ _ _ x) (fun _ h => h.elim) (fun _ _ => trivial) hB7.out hB7.out.size (by have := hn.out; simp only [List.nil_append]; omega) ?_; intro u3 w15 ho hb hg_ hn_; have hRu3 := Aside0.mk ho; have hB7 := Aside0.mk hb; clear ho hb hg_ hn_))
      have hR9 := Aside0.mk (show k44.R 44 w15 w12.heap.size (fun _ => True) u3 (l0 ++ l1) from by have := hRu3.out; rwa [List.nil_append] at this)
      obtain ⟨U, cu, rfl, hcu, hCu⟩ := Kd.R_reads hR9.out
      have hcu := Aside0.mk hcu
      have hCu := Aside0.mk hCu
      have hCz := Aside0.mk (Kd.C_below hCz.out hB7.out)
      have hB2 := Aside0.mk (below_then hB2.out hB2.out.size hB7.out)
      go_wp2_with fail
      refine (spec_Pairs.calls q3 _ _ (l0 ++ l1) pm _ hCu.out hcu.out s3.out).mono ?_
      rintro e w16 ⟨v, rfl, hR, hBn⟩
      obtain ⟨V, cv, rfl, hcv, hCv⟩ := Kd.R_reads hR
      have hcv := Aside0.mk hcv
      have hCv := Aside0.mk hCv
      have hCz := Aside0.mk (Kd.C_below hCz.out hBn)
      have hB2 := Aside0.mk (below_then hB2.out hB2.out.size hBn)
      clear hR hBn
      go_wp2_with fail
      refine (spec_PairsSame.calls q5 _ _ pm _ _ pm true _ hCz.out hcz.out hCv.out hcv.out s5.out).mono ?_
      rintro e w17 ⟨rfl, hd⟩
      have hBn := hd.below
      have hB2 := Aside0.mk (below_then hB2.out hB2.out.size hBn)
      clear hBn hd
      go_wp2_with fail
      go_ret
      exact ⟨rfl, hB2.out⟩

instance okDec (l : List S44) : Decidable (Ok l) := by unfold Ok; infer_instance
def laws_FnLabelSets.f (l0 l1 : List S44) : Option Bool := if Ok l0 ∧ Ok l1 then some true else none
theorem laws_FnLabelSets.calls (A0 : Option Addr) (c0 : Nat) (l0 : List S44) (A1 : Option Addr) (c1 : Nat) (l1 : List S44) (r : Bool) (w : World) (hr0 : Kd.C k44 w A0 l0.length l0) (hc0 : l0.length ≤ c0) (hr1 : Kd.C k44 w A1 l1.length l1) (hc1 : l1.length ≤ c1) (h : laws_FnLabelSets.f l0 l1 = some r) :
    Calls Try.prog 6 #[.slice A0 l0.length c0, .slice A1 l1.length c1] w fun e w' => e = .returned (.bool r) ∧ Below w.heap.size w w' := by
  unfold laws_FnLabelSets.f at h
  split at h
  · rename_i hq
    obtain rfl : true = r := by simpa using h
    exact (law_true A0 c0 l0 A1 c1 l1 w hr0 hc0 hr1 hc1 hq.1 hq.2).mono (fun _ _ h => h)
  · cases h
end Go.Proofs.Ytmipenoiodjbhaa.LabLaw
