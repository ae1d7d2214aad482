/- Versions: two versions compared, where a number decides. -/
import Derived.Test.YtmfgkidppchobaaDoorVer6
set_option linter.unusedSimpArgs false
set_option linter.unusedVariables false
namespace Go.Proofs.YtmfgkidppchobaaDoor.Ver7
open Go.RowKit Go.Proofs.YtmfgkidppchobaaDoorW.PrintWords Go.Proofs.YtmfgkidppchobaaDoorW.PrintLast Go.Proofs.YtmfgkidppchobaaDoor.XFnVersionWays Go.Proofs.YtmfgkidppchobaaDoor.Ver1 Go.Proofs.YtmfgkidppchobaaDoor.Ver2 Go.Proofs.YtmfgkidppchobaaDoor.Ver3 Go.Proofs.YtmfgkidppchobaaDoor.Ver4 Go.Proofs.YtmfgkidppchobaaDoor.Ver5 Go.Proofs.YtmfgkidppchobaaDoor.Ver6

/-- The first difference of two rows of numbers. -/
def headCmp : List Int → List Int → Option Int
  | a :: l, b :: m => if b < a then some 1 else if a < b then some (-1) else headCmp l m
  | _, _ => none
set_option maxHeartbeats 4000000 in
set_option maxRecDepth 100000 in
theorem cmp_head (g h : Nat) (l m : List Int) (sv sv' : Bool) (pre pre' bld bld' : ByteArray) (w : World) (hI : IsVer w g l sv pre bld) (hJ : IsVer w h m sv' pre' bld') (r : Int) (hr : headCmp l m = some r) (hl : l.length ≤ 4294967296) (hm : m.length ≤ 4294967296) :
    Calls Tryd.prog 59 #[Ptr g, Ptr h] w fun e w' => e = .returned (.int .i64 r) ∧ Below w.heap.size w w' := by
  have hIx := Aside0.mk hI
  have hJx := Aside0.mk hJ
  have hg := hI.lt
  have hh := hJ.lt
  replace hr := Aside0.mk hr
  unfold Ptr
  obtain ⟨A, c, hG, hrA, hlc⟩ := hI
  obtain ⟨B, d, hH, hrB, hmd⟩ := hJ
  have hc0 := cV0 hG
  have hd0 := cV0 hH
  replace hlc := Aside0.mk hlc
  replace hmd := Aside0.mk hmd
  clear hG hH
  go_enter Tryd.func59, Tryd.ntmps59
  go_wp2_with fail
  go_loopw [7] (fun i wr => ∃ k : Nat, i = .int .i64 k ∧ headCmp (l.drop k) (m.drop k) = some r ∧ Below w.heap.size w wr) (fun i _ => l.length - (intOf i).toNat)
  case atStart => exact ⟨0, rfl, hr.out, Below.refl _ _⟩
  case round =>
    obtain ⟨k, rfl, hk, hB⟩ := hrel
    have e0 := (hB.cell (show (⟨g, 0, none⟩ : Addr).block < w.heap.size from hg)).trans hc0
    have f0 := (hB.cell (show (⟨h, 0, none⟩ : Addr).block < w.heap.size from hh)).trans hd0
    have hkA := Kd.C_below hrA hB
    have hkB := Kd.C_below hrB hB
    replace hB := Aside0.mk hB
    have hkl : k < l.length := by
      rcases Nat.lt_or_ge k l.length with h1 | h1
      · exact h1
      · rw [List.drop_eq_nil_of_le h1] at hk; simp [headCmp] at hk
    have hkm : k < m.length := by
      rcases Nat.lt_or_ge k m.length with h1 | h1
      · exact h1
      · rw [List.drop_eq_nil_of_le h1] at hk
        cases hq : l.drop k <;> rw [hq] at hk <;> simp [headCmp] at hk
    obtain ⟨a, ha⟩ : ∃ a, rd l (k : Int) = a := ⟨_, rfl⟩
    obtain ⟨b, hb⟩ : ∃ b, rd m (k : Int) = b := ⟨_, rfl⟩
    have hal := rd_at ha hkl
    have hbl := rd_at hb hkm
    rw [List.drop_eq_getElem_cons hkl, List.drop_eq_getElem_cons hkm, (List.getElem?_eq_some_iff.1 hal).2, (List.getElem?_eq_some_iff.1 hbl).2] at hk
    have hk : (if b < a then some 1 else if a < b then some (-1) else headCmp (l.drop (k + 1)) (m.drop (k + 1))) = some r := hk
    have p := Int.natCast_nonneg k
    have q1 : (k : Int) < (l.length : Int) := by omega
    have q2 : (k : Int) < (m.length : Int) := by omega
    obtain ⟨ad, e1, hcell⟩ := Kd.at_int hkA (k : Int) p q1
    obtain ⟨bd, e2, hcell2⟩ := Kd.at_int hkB (k : Int) p q2
    rw [ha, Int.toNat_natCast] at hcell
    rw [hb, Int.toNat_natCast] at hcell2
    cases e1
    cases e2
    have s1 := decide_eq_true q1
    have s2 := decide_eq_true q2
    have s3 : (k < l.length) = True := eq_true hkl
    have s4 : (k < m.length) = True := eq_true hkm
    have hk2 := Aside0.mk (show k + 1 ≤ l.length from hkl)
    replace p := eq_true p
    replace q1 := eq_true q1
    replace q2 := eq_true q2
    replace hk := Aside0.mk hk
    clear hkA hkB ha hb hal hbl hkl hkm
    by_cases c1 : b < a
    · have c1b := decide_eq_true c1
      have hr1 := hk.out
      rw [if_pos c1] at hr1
      obtain rfl := Option.some.inj hr1
      clear c1 hr1
      go_upto_region 6 with (fail)
      go_region
      go_wp2_with fail
      go_ret
      exact ⟨rfl, pw_below_drewN hB.out 1⟩
    · have c1b := decide_eq_false c1
      by_cases c2 : a < b
      · have c2b := decide_eq_true c2
        have hr1 := hk.out
        rw [if_neg c1, if_pos c2] at hr1
        obtain rfl := Option.some.inj hr1
        clear c1 c2 hr1
        go_upto_region 6 with (fail)
        go_region
        go_upto_region 8 with (fail)
        go_region
        go_wp2_with fail
        go_ret
        exact ⟨rfl, pw_below_drewN (pw_below_drewN hB.out 1) 1⟩
      · have c2b := decide_eq_false c2
        have hr1 := hk.out
        rw [if_neg c1, if_neg c2] at hr1
        replace hr1 := Aside0.mk hr1
        have hkl3 := hk2.out
        clear c1 c2
        go_upto_region 6 with (fail)
        go_region
        go_upto_region 8 with (fail)
        go_region
        go_wp2_with fail
        go_roundw
        case measure => have := hk2.out; first | exact meas this | (rw [show (k : Int) + 1 = ((k + 1 : Nat) : Int) from rfl]; exact meas this)
        case rel => exact ⟨k + 1, by go_num, hr1.out, pw_below_drewN (pw_below_drewN hB.out 1) 1⟩
set_option maxHeartbeats 4000000 in
set_option maxRecDepth 100000 in
theorem atLeast_head (g h : Nat) (l m : List Int) (sv sv' : Bool) (pre pre' bld bld' : ByteArray) (w : World) (hI : IsVer w g l sv pre bld) (hJ : IsVer w h m sv' pre' bld') (r : Int) (hr : headCmp l m = some r) (hl : l.length ≤ 4294967296) (hm : m.length ≤ 4294967296) :
    Calls Tryd.prog 33 #[Ptr g, Ptr h] w fun e w' => e = .returned (.bool (r != -1)) ∧ Below w.heap.size w w' := by
  replace hI := Aside0.mk hI
  replace hJ := Aside0.mk hJ
  replace hr := Aside0.mk hr
  replace hl := Aside0.mk hl
  replace hm := Aside0.mk hm
  obtain ⟨v, hv⟩ : ∃ v, v = (r != -1) := ⟨_, rfl⟩
  rw [← hv]
  replace hv := Aside0.mk hv
  unfold Ptr
  go_enter Tryd.func33, Tryd.ntmps33
  go_wp2_with fail
  refine (cmp_head g h l m sv sv' pre pre' bld bld' _ hI.out hJ.out r hr.out hl.out hm.out).mono ?_
  rintro e w1 ⟨rfl, hB⟩
  go_wp2_with fail
  go_ret
  exact ⟨by rw [hv.out]; rfl, hB⟩
set_option maxHeartbeats 4000000 in
set_option maxRecDepth 100000 in
theorem lessThan_head (g h : Nat) (l m : List Int) (sv sv' : Bool) (pre pre' bld bld' : ByteArray) (w : World) (hI : IsVer w g l sv pre bld) (hJ : IsVer w h m sv' pre' bld') (r : Int) (hr : headCmp l m = some r) (hl : l.length ≤ 4294967296) (hm : m.length ≤ 4294967296) :
    Calls Tryd.prog 34 #[Ptr g, Ptr h] w fun e w' => e = .returned (.bool (r == -1)) ∧ Below w.heap.size w w' := by
  replace hI := Aside0.mk hI
  replace hJ := Aside0.mk hJ
  replace hr := Aside0.mk hr
  replace hl := Aside0.mk hl
  replace hm := Aside0.mk hm
  obtain ⟨v, hv⟩ : ∃ v, v = (r == -1) := ⟨_, rfl⟩
  rw [← hv]
  replace hv := Aside0.mk hv
  unfold Ptr
  go_enter Tryd.func34, Tryd.ntmps34
  go_wp2_with fail
  refine (cmp_head g h l m sv sv' pre pre' bld bld' _ hI.out hJ.out r hr.out hl.out hm.out).mono ?_
  rintro e w1 ⟨rfl, hB⟩
  go_wp2_with fail
  go_ret
  exact ⟨by rw [hv.out]; rfl, hB⟩
set_option maxHeartbeats 4000000 in
set_option maxRecDepth 100000 in
theorem greaterThan_head (g h : Nat) (l m : List Int) (sv sv' : Bool) (pre pre' bld bld' : ByteArray) (w : World) (hI : IsVer w g l sv pre bld) (hJ : IsVer w h m sv' pre' bld') (r : Int) (hr : headCmp l m = some r) (hl : l.length ≤ 4294967296) (hm : m.length ≤ 4294967296) :
    Calls Tryd.prog 35 #[Ptr g, Ptr h] w fun e w' => e = .returned (.bool (r == 1)) ∧ Below w.heap.size w w' := by
  replace hI := Aside0.mk hI
  replace hJ := Aside0.mk hJ
  replace hr := Aside0.mk hr
  replace hl := Aside0.mk hl
  replace hm := Aside0.mk hm
  obtain ⟨v, hv⟩ : ∃ v, v = (r == 1) := ⟨_, rfl⟩
  rw [← hv]
  replace hv := Aside0.mk hv
  unfold Ptr
  go_enter Tryd.func35, Tryd.ntmps35
  go_wp2_with fail
  refine (cmp_head g h l m sv sv' pre pre' bld bld' _ hI.out hJ.out r hr.out hl.out hm.out).mono ?_
  rintro e w1 ⟨rfl, hB⟩
  go_wp2_with fail
  go_ret
  exact ⟨by rw [hv.out]; rfl, hB⟩
set_option maxHeartbeats 4000000 in
set_option maxRecDepth 100000 in
theorem equalTo_head (g h : Nat) (l m : List Int) (sv sv' : Bool) (pre pre' bld bld' : ByteArray) (w : World) (hI : IsVer w g l sv pre bld) (hJ : IsVer w h m sv' pre' bld') (r : Int) (hr : headCmp l m = some r) (hl : l.length ≤ 4294967296) (hm : m.length ≤ 4294967296) :
    Calls Tryd.prog 36 #[Ptr g, Ptr h] w fun e w' => e = .returned (.bool (r == 0)) ∧ Below w.heap.size w w' := by
  replace hI := Aside0.mk hI
  replace hJ := Aside0.mk hJ
  replace hr := Aside0.mk hr
  replace hl := Aside0.mk hl
  replace hm := Aside0.mk hm
  obtain ⟨v, hv⟩ : ∃ v, v = (r == 0) := ⟨_, rfl⟩
  rw [← hv]
  replace hv := Aside0.mk hv
  unfold Ptr
  go_enter Tryd.func36, Tryd.ntmps36
  go_wp2_with fail
  refine (cmp_head g h l m sv sv' pre pre' bld bld' _ hI.out hJ.out r hr.out hl.out hm.out).mono ?_
  rintro e w1 ⟨rfl, hB⟩
  go_wp2_with fail
  go_ret
  exact ⟨by rw [hv.out]; rfl, hB⟩
end Go.Proofs.YtmfgkidppchobaaDoor.Ver7
