/- A text of this session: the functions of the law FnKubeMade, by a program that calls the kit's print and lays this session's own contracts of single functions beside. -/
import Derived.Test.YtmkpkpkcoieeiaaDoorXFnKubeMadex0
import Derived.Test.YtmkpkpkcoieeiaaDoorXFnKubeMadex2
namespace Go.Proofs.YtmkpkpkcoieeiaaDoor.XFnKubeMade
open Go.RowKit Go.Proofs.YtmkpkpkcoieeiaaDoorW.PrintWords Go.Proofs.YtmkpkpkcoieeiaaDoorW.PrintLast Go.Proofs.YtmkpkpkcoieeiaaDoorW.PrintMore
attribute [local go_sem] max2_int min2_int max_two min_two max_three min_three max_four min_four   -- for this text's walks alone
set_option linter.unusedVariables false
set_option linter.unusedSimpArgs false

/-! ### version_parseKubeVersion: function 28 -/
theorem atoi_yes (a0 : ByteArray) (v : Int) (w : World) (hs : a0.size ≤ 140737488351232) (h : Num.whole (-9223372036854775808) 9223372036854775807 a0.data.toList = some v) :
    Calls Tryd.prog 27 #[.string a0] w fun e w' => e = .returned (.tuple #[.int .i64 v, .nilIface]) ∧ Below w.heap.size w w' := by
  refine (Tryd.strconv_Atoi_ok a0 (by omega) v ((Num.atoi_ok _ _).2 h) _).mono ?_
  rintro e w1 ⟨rfl, hW⟩
  refine ⟨rfl, ?_⟩
  rcases hW with rfl | ⟨t, rfl⟩
  · exact Below.refl _ _
  · exact Lib.bytesWorld_below _ _ _
theorem atoi_no (a0 : ByteArray) (w : World) (hs : a0.size ≤ 140737488351232) (h : Num.whole (-9223372036854775808) 9223372036854775807 a0.data.toList = none) (hV : Vars.Vars w) :
    Calls Tryd.prog 27 #[.string a0] w fun e w' => ∃ n p, e = .returned (.tuple #[.int .i64 n, .iface 69 p]) ∧ Below w.heap.size w w' := by
  obtain ⟨⟨e0, hc0, he0⟩, ⟨e1, hc1, he1⟩⟩ := hV
  cases hq : Lib.atoiAll a0.data.toList with
  | ok v => rw [(Num.atoi_ok _ _).1 hq] at h; cases h
  | range =>
    refine (Tryd.strconv_Atoi_range a0 (by omega) hq e1 _ hc1 he1).mono ?_
    rintro e w1 ⟨N, rfl, _, _, hb⟩
    exact ⟨_, _, rfl, hb⟩
  | _ =>
    refine (Tryd.strconv_Atoi_syntax a0 (by omega) ⟨(fun _ hh => nomatch (hq.symm.trans hh)), (fun hh => nomatch (hq.symm.trans hh))⟩ e0 _ hc0 he0).mono ?_
    rintro e w1 ⟨N, rfl, _, _, hb⟩
    exact ⟨_, _, rfl, hb⟩
/-- The numbers of a version of kinds whose word is read. -/
def kubeRest (l : List ByteArray) (t : Int) : Int × Int × Int × Bool :=
  match Num.whole (-9223372036854775808) 9223372036854775807 (rdOf ByteArray.empty l 1).data.toList with
  | none => (0, 0, 0, false)
  | some a => if t = 2 then (a, 2, 0, true) else
    match Num.whole (-9223372036854775808) 9223372036854775807 (rdOf ByteArray.empty l 3).data.toList with
    | none => (0, 0, 0, false)
    | some b => (a, t, b, true)
/-- What the four pieces of a version of kinds come to. -/
def kubeOf (l : List ByteArray) : Int × Int × Int × Bool :=
  if (l.length : Int) = 4 then
    (if (rdOf ByteArray.empty l 2).toList = ([97, 108, 112, 104, 97] : List UInt8) then kubeRest l 0
     else if (rdOf ByteArray.empty l 2).toList = ([98, 101, 116, 97] : List UInt8) then kubeRest l 1
     else if (rdOf ByteArray.empty l 2).toList = ([] : List UInt8) then kubeRest l 2 else (0, 0, 0, false))
  else (0, 0, 0, false)
/-- What a call hands back. -/
def kubeV (r : Int × Int × Int × Bool) : Value := .tuple #[.int .i64 r.1, .int .i64 r.2.1, .int .i64 r.2.2.1, .bool r.2.2.2]
theorem kube_no (k : Nat) (s : ByteArray) (l : List ByteArray) (w : World) (h : Aside0 (version_zzKube.f k s = some l)) (hl : ¬ (l.length : Int) = 4) :
    Calls Tryd.prog 28 #[.string s] w fun e w' => e = .returned (kubeV (0, 0, 0, false)) ∧ Below w.heap.size w w' := by
    have c0 : ((l.length : Int) != 4) = true := bne_iff_ne.mpr hl
    clear hl
    go_enter Tryd.func28, Tryd.ntmps28
    go_wp2_with fail
    (with_reducible refine (version_zzKube.calls k s l _ h.out).mono ?_)
    rintro e w1 ⟨v0, rfl, hR, hb⟩
    obtain ⟨A, cp, rfl⟩ := Kd.R_slice hR
    go_wp2_with fail
    refine bodyPost_ret (results_list (rs := [.tmp 2, .tmp 3, .tmp 4, .tmp 5]) rfl (by simp) (.tmp (.tmp (.tmp (.tmp .nil))))) rfl ?_
    exact ⟨rfl, hb⟩
theorem kube_word (k : Nat) (s : ByteArray) (l : List ByteArray) (w : World) (h : Aside0 (version_zzKube.f k s = some l)) (hl : (l.length : Int) = 4) (hw0 : ¬ (rdOf ByteArray.empty l 2).toList = ([97, 108, 112, 104, 97] : List UInt8)) (hw1 : ¬ (rdOf ByteArray.empty l 2).toList = ([98, 101, 116, 97] : List UInt8)) (hw2 : ¬ (rdOf ByteArray.empty l 2).toList = ([] : List UInt8)) :
    Calls Tryd.prog 28 #[.string s] w fun e w' => e = .returned (kubeV (0, 0, 0, false)) ∧ Below w.heap.size w w' := by
    have d0 : ((rdOf ByteArray.empty l 2).toList == ([97, 108, 112, 104, 97] : List UInt8)) = false := beq_eq_false_iff_ne.mpr hw0
    have d1 : ((rdOf ByteArray.empty l 2).toList == ([98, 101, 116, 97] : List UInt8)) = false := beq_eq_false_iff_ne.mpr hw1
    have d2 : ((rdOf ByteArray.empty l 2).toList == ([] : List UInt8)) = false := beq_eq_false_iff_ne.mpr hw2
    clear hw0 hw1 hw2
    have hl4 : l.length = 4 := by omega
    have c0 : ((l.length : Int) != 4) = false := by rw [hl]; rfl
    clear hl
    go_enter Tryd.func28, Tryd.ntmps28
    go_wp2_with fail
    (with_reducible refine (version_zzKube.calls k s l _ h.out).mono ?_)
    rintro e w1 ⟨v0, rfl, hR, hb⟩
    obtain ⟨A, cp, rfl⟩ := Kd.R_slice hR
    obtain ⟨g, cap, hv, hbase, hglt, cells, hcells⟩ := Kd.R_form hR (by omega)
    obtain ⟨rfl, rfl⟩ : A = some ⟨g, 0, none⟩ ∧ cp = cap := by injection hv with e1 e2 e3; exact ⟨e1, e3⟩
    have rc1 : w1.cell? ⟨g, 1, none⟩ = some (.string (rdOf ByteArray.empty l 1)) := (Kd.R_cell (ByteArray.empty) hR 1 (by omega) (by omega)).1
    have rc2 : w1.cell? ⟨g, 2, none⟩ = some (.string (rdOf ByteArray.empty l 2)) := (Kd.R_cell (ByteArray.empty) hR 2 (by omega) (by omega)).1
    have rc3 : w1.cell? ⟨g, 3, none⟩ = some (.string (rdOf ByteArray.empty l 3)) := (Kd.R_cell (ByteArray.empty) hR 3 (by omega) (by omega)).1
    have HL4 := Aside0.mk hl4
    have HRR := Aside0.mk hR
    have HB1 := Aside0.mk hb
    have z1 : (1 : Int) < (l.length : Int) := by omega
    have z2 : (2 : Int) < (l.length : Int) := by omega
    have z3 : (3 : Int) < (l.length : Int) := by omega
    clear hv hcells hR hb hl4
    go_wp2_with fail
    refine bodyPost_ret (results_list (rs := [.tmp 2, .tmp 3, .tmp 4, .tmp 5]) rfl (by simp) (.tmp (.tmp (.tmp (.tmp .nil))))) rfl ?_
    exact ⟨rfl, HB1.out⟩
theorem kube_no1_0 (k : Nat) (s : ByteArray) (l : List ByteArray) (w : World) (h : Aside0 (version_zzKube.f k s = some l)) (hl : (l.length : Int) = 4) (hw0 : (rdOf ByteArray.empty l 2).toList = ([97, 108, 112, 104, 97] : List UInt8)) (hs1 : (rdOf ByteArray.empty l 1).size ≤ 140737488351232) (hq : Aside0 (Num.whole (-9223372036854775808) 9223372036854775807 (rdOf ByteArray.empty l 1).data.toList = none)) (hV : Vars.Vars w) :
    Calls Tryd.prog 28 #[.string s] w fun e w' => e = .returned (kubeV (0, 0, 0, false)) ∧ Below w.heap.size w w' := by
    have d0 : ((rdOf ByteArray.empty l 2).toList == ([97, 108, 112, 104, 97] : List UInt8)) = true := beq_iff_eq.mpr hw0
    clear hw0
    have hl4 : l.length = 4 := by omega
    have c0 : ((l.length : Int) != 4) = false := by rw [hl]; rfl
    clear hl
    go_enter Tryd.func28, Tryd.ntmps28
    go_wp2_with fail
    (with_reducible refine (version_zzKube.calls k s l _ h.out).mono ?_)
    rintro e w1 ⟨v0, rfl, hR, hb⟩
    obtain ⟨A, cp, rfl⟩ := Kd.R_slice hR
    obtain ⟨g, cap, hv, hbase, hglt, cells, hcells⟩ := Kd.R_form hR (by omega)
    obtain ⟨rfl, rfl⟩ : A = some ⟨g, 0, none⟩ ∧ cp = cap := by injection hv with e1 e2 e3; exact ⟨e1, e3⟩
    have rc1 : w1.cell? ⟨g, 1, none⟩ = some (.string (rdOf ByteArray.empty l 1)) := (Kd.R_cell (ByteArray.empty) hR 1 (by omega) (by omega)).1
    have rc2 : w1.cell? ⟨g, 2, none⟩ = some (.string (rdOf ByteArray.empty l 2)) := (Kd.R_cell (ByteArray.empty) hR 2 (by omega) (by omega)).1
    have rc3 : w1.cell? ⟨g, 3, none⟩ = some (.string (rdOf ByteArray.empty l 3)) := (Kd.R_cell (ByteArray.empty) hR 3 (by omega) (by omega)).1
    have HL4 := Aside0.mk hl4
    have HRR := Aside0.mk hR
    have HB1 := Aside0.mk hb
    have z1 : (1 : Int) < (l.length : Int) := by omega
    have z2 : (2 : Int) < (l.length : Int) := by omega
    have z3 : (3 : Int) < (l.length : Int) := by omega
    clear hv hcells hR hb hl4
    go_wp2_with fail
    (with_reducible refine (atoi_no (rdOf ByteArray.empty l 1) _ hs1 hq.out (hV.below HB1.out)).mono ?_)
    rintro e w2 ⟨n, p, rfl, hb2⟩
    have HB2 := Aside0.mk (HB1.out.trans (hb2.mono HB1.out.size))
    clear hb2
    go_wp2_with fail
    refine bodyPost_ret (results_list (rs := [.tmp 2, .tmp 3, .tmp 4, .tmp 5]) rfl (by simp) (.tmp (.tmp (.tmp (.tmp .nil))))) rfl ?_
    exact ⟨rfl, HB2.out⟩
theorem kube_no3_0 (k : Nat) (s : ByteArray) (l : List ByteArray) (w : World) (h : Aside0 (version_zzKube.f k s = some l)) (hl : (l.length : Int) = 4) (hw0 : (rdOf ByteArray.empty l 2).toList = ([97, 108, 112, 104, 97] : List UInt8)) (hs1 : (rdOf ByteArray.empty l 1).size ≤ 140737488351232) (hs3 : (rdOf ByteArray.empty l 3).size ≤ 140737488351232) (a : Int) (hq : Aside0 (Num.whole (-9223372036854775808) 9223372036854775807 (rdOf ByteArray.empty l 1).data.toList = some a)) (hr : Aside0 (Num.whole (-9223372036854775808) 9223372036854775807 (rdOf ByteArray.empty l 3).data.toList = none)) (hV : Vars.Vars w) :
    Calls Tryd.prog 28 #[.string s] w fun e w' => e = .returned (kubeV (0, 0, 0, false)) ∧ Below w.heap.size w w' := by
    have d0 : ((rdOf ByteArray.empty l 2).toList == ([97, 108, 112, 104, 97] : List UInt8)) = true := beq_iff_eq.mpr hw0
    clear hw0
    have hl4 : l.length = 4 := by omega
    have c0 : ((l.length : Int) != 4) = false := by rw [hl]; rfl
    clear hl
    go_enter Tryd.func28, Tryd.ntmps28
    go_wp2_with fail
    (with_reducible refine (version_zzKube.calls k s l _ h.out).mono ?_)
    rintro e w1 ⟨v0, rfl, hR, hb⟩
    obtain ⟨A, cp, rfl⟩ := Kd.R_slice hR
    obtain ⟨g, cap, hv, hbase, hglt, cells, hcells⟩ := Kd.R_form hR (by omega)
    obtain ⟨rfl, rfl⟩ : A = some ⟨g, 0, none⟩ ∧ cp = cap := by injection hv with e1 e2 e3; exact ⟨e1, e3⟩
    have rc1 : w1.cell? ⟨g, 1, none⟩ = some (.string (rdOf ByteArray.empty l 1)) := (Kd.R_cell (ByteArray.empty) hR 1 (by omega) (by omega)).1
    have rc2 : w1.cell? ⟨g, 2, none⟩ = some (.string (rdOf ByteArray.empty l 2)) := (Kd.R_cell (ByteArray.empty) hR 2 (by omega) (by omega)).1
    have rc3 : w1.cell? ⟨g, 3, none⟩ = some (.string (rdOf ByteArray.empty l 3)) := (Kd.R_cell (ByteArray.empty) hR 3 (by omega) (by omega)).1
    have HL4 := Aside0.mk hl4
    have HRR := Aside0.mk hR
    have HB1 := Aside0.mk hb
    have z1 : (1 : Int) < (l.length : Int) := by omega
    have z2 : (2 : Int) < (l.length : Int) := by omega
    have z3 : (3 : Int) < (l.length : Int) := by omega
    clear hv hcells hR hb hl4
    go_wp2_with fail
    (with_reducible refine (atoi_yes (rdOf ByteArray.empty l 1) a _ hs1 hq.out).mono ?_)
    rintro e w2 ⟨rfl, hb2⟩
    have rc4 : w2.cell? ⟨g, 3, none⟩ = some (.string (rdOf ByteArray.empty l 3)) := (hb2.cell (show (⟨g, 3, none⟩ : Addr).block < w1.heap.size from hglt)).trans rc3
    have HB2 := Aside0.mk (HB1.out.trans (hb2.mono HB1.out.size))
    clear hb2 rc1 rc2 rc3
    go_wp2_with fail
    (with_reducible refine (atoi_no (rdOf ByteArray.empty l 3) _ hs3 hr.out (hV.below HB2.out)).mono ?_)
    rintro e w3 ⟨n, p, rfl, hb3⟩
    have HB3 := Aside0.mk (HB2.out.trans (hb3.mono HB2.out.size))
    clear hb3
    go_wp2_with fail
    refine bodyPost_ret (results_list (rs := [.tmp 2, .tmp 3, .tmp 4, .tmp 5]) rfl (by simp) (.tmp (.tmp (.tmp (.tmp .nil))))) rfl ?_
    exact ⟨rfl, HB3.out⟩
theorem kube_yes_0 (k : Nat) (s : ByteArray) (l : List ByteArray) (w : World) (h : Aside0 (version_zzKube.f k s = some l)) (hl : (l.length : Int) = 4) (hw0 : (rdOf ByteArray.empty l 2).toList = ([97, 108, 112, 104, 97] : List UInt8)) (hs1 : (rdOf ByteArray.empty l 1).size ≤ 140737488351232) (hs3 : (rdOf ByteArray.empty l 3).size ≤ 140737488351232) (a b : Int) (hq : Aside0 (Num.whole (-9223372036854775808) 9223372036854775807 (rdOf ByteArray.empty l 1).data.toList = some a)) (hr : Aside0 (Num.whole (-9223372036854775808) 9223372036854775807 (rdOf ByteArray.empty l 3).data.toList = some b)) (hV : Vars.Vars w) :
    Calls Tryd.prog 28 #[.string s] w fun e w' => e = .returned (kubeV (a, 0, b, true)) ∧ Below w.heap.size w w' := by
    have d0 : ((rdOf ByteArray.empty l 2).toList == ([97, 108, 112, 104, 97] : List UInt8)) = true := beq_iff_eq.mpr hw0
    clear hw0
    have hl4 : l.length = 4 := by omega
    have c0 : ((l.length : Int) != 4) = false := by rw [hl]; rfl
    clear hl
    go_enter Tryd.func28, Tryd.ntmps28
    go_wp2_with fail
    (with_reducible refine (version_zzKube.calls k s l _ h.out).mono ?_)
    rintro e w1 ⟨v0, rfl, hR, hb⟩
    obtain ⟨A, cp, rfl⟩ := Kd.R_slice hR
    obtain ⟨g, cap, hv, hbase, hglt, cells, hcells⟩ := Kd.R_form hR (by omega)
    obtain ⟨rfl, rfl⟩ : A = some ⟨g, 0, none⟩ ∧ cp = cap := by injection hv with e1 e2 e3; exact ⟨e1, e3⟩
    have rc1 : w1.cell? ⟨g, 1, none⟩ = some (.string (rdOf ByteArray.empty l 1)) := (Kd.R_cell (ByteArray.empty) hR 1 (by omega) (by omega)).1
    have rc2 : w1.cell? ⟨g, 2, none⟩ = some (.string (rdOf ByteArray.empty l 2)) := (Kd.R_cell (ByteArray.empty) hR 2 (by omega) (by omega)).1
    have rc3 : w1.cell? ⟨g, 3, none⟩ = some (.string (rdOf ByteArray.empty l 3)) := (Kd.R_cell (ByteArray.empty) hR 3 (by omega) (by omega)).1
    have HL4 := Aside0.mk hl4
    have HRR := Aside0.mk hR
    have HB1 := Aside0.mk hb
    have z1 : (1 : Int) < (l.length : Int) := by omega
    have z2 : (2 : Int) < (l.length : Int) := by omega
    have z3 : (3 : Int) < (l.length : Int) := by omega
    clear hv hcells hR hb hl4
    go_wp2_with fail
    (with_reducible refine (atoi_yes (rdOf ByteArray.empty l 1) a _ hs1 hq.out).mono ?_)
    rintro e w2 ⟨rfl, hb2⟩
    have rc4 : w2.cell? ⟨g, 3, none⟩ = some (.string (rdOf ByteArray.empty l 3)) := (hb2.cell (show (⟨g, 3, none⟩ : Addr).block < w1.heap.size from hglt)).trans rc3
    have HB2 := Aside0.mk (HB1.out.trans (hb2.mono HB1.out.size))
    clear hb2 rc1 rc2 rc3
    go_wp2_with fail
    (with_reducible refine (atoi_yes (rdOf ByteArray.empty l 3) b _ hs3 hr.out).mono ?_)
    rintro e w3 ⟨rfl, hb3⟩
    have HB3 := Aside0.mk (HB2.out.trans (hb3.mono HB2.out.size))
    clear hb3
    go_wp2_with fail
    refine bodyPost_ret (results_list (rs := [.tmp 2, .tmp 3, .tmp 4, .tmp 5]) rfl (by simp) (.tmp (.tmp (.tmp (.tmp .nil))))) rfl ?_
    exact ⟨rfl, HB3.out⟩
theorem kube_no1_1 (k : Nat) (s : ByteArray) (l : List ByteArray) (w : World) (h : Aside0 (version_zzKube.f k s = some l)) (hl : (l.length : Int) = 4) (hw0 : ¬ (rdOf ByteArray.empty l 2).toList = ([97, 108, 112, 104, 97] : List UInt8)) (hw1 : (rdOf ByteArray.empty l 2).toList = ([98, 101, 116, 97] : List UInt8)) (hs1 : (rdOf ByteArray.empty l 1).size ≤ 140737488351232) (hq : Aside0 (Num.whole (-9223372036854775808) 9223372036854775807 (rdOf ByteArray.empty l 1).data.toList = none)) (hV : Vars.Vars w) :
    Calls Tryd.prog 28 #[.string s] w fun e w' => e = .returned (kubeV (0, 0, 0, false)) ∧ Below w.heap.size w w' := by
    have d0 : ((rdOf ByteArray.empty l 2).toList == ([97, 108, 112, 104, 97] : List UInt8)) = false := beq_eq_false_iff_ne.mpr hw0
    have d1 : ((rdOf ByteArray.empty l 2).toList == ([98, 101, 116, 97] : List UInt8)) = true := beq_iff_eq.mpr hw1
    clear hw0 hw1
    have hl4 : l.length = 4 := by omega
    have c0 : ((l.length : Int) != 4) = false := by rw [hl]; rfl
    clear hl
    go_enter Tryd.func28, Tryd.ntmps28
    go_wp2_with fail
    (with_reducible refine (version_zzKube.calls k s l _ h.out).mono ?_)
    rintro e w1 ⟨v0, rfl, hR, hb⟩
    obtain ⟨A, cp, rfl⟩ := Kd.R_slice hR
    obtain ⟨g, cap, hv, hbase, hglt, cells, hcells⟩ := Kd.R_form hR (by omega)
    obtain ⟨rfl, rfl⟩ : A = some ⟨g, 0, none⟩ ∧ cp = cap := by injection hv with e1 e2 e3; exact ⟨e1, e3⟩
    have rc1 : w1.cell? ⟨g, 1, none⟩ = some (.string (rdOf ByteArray.empty l 1)) := (Kd.R_cell (ByteArray.empty) hR 1 (by omega) (by omega)).1
    have rc2 : w1.cell? ⟨g, 2, none⟩ = some (.string (rdOf ByteArray.empty l 2)) := (Kd.R_cell (ByteArray.empty) hR 2 (by omega) (by omega)).1
    have rc3 : w1.cell? ⟨g, 3, none⟩ = some (.string (rdOf ByteArray.empty l 3)) := (Kd.R_cell (ByteArray.empty) hR 3 (by omega) (by omega)).1
    have HL4 := Aside0.mk hl4
    have HRR := Aside0.mk hR
    have HB1 := Aside0.mk hb
    have z1 : (1 : Int) < (l.length : Int) := by omega
    have z2 : (2 : Int) < (l.length : Int) := by omega
    have z3 : (3 : Int) < (l.length : Int) := by omega
    clear hv hcells hR hb hl4
    go_wp2_with fail
    (with_reducible refine (atoi_no (rdOf ByteArray.empty l 1) _ hs1 hq.out (hV.below HB1.out)).mono ?_)
    rintro e w2 ⟨n, p, rfl, hb2⟩
    have HB2 := Aside0.mk (HB1.out.trans (hb2.mono HB1.out.size))
    clear hb2
    go_wp2_with fail
    refine bodyPost_ret (results_list (rs := [.tmp 2, .tmp 3, .tmp 4, .tmp 5]) rfl (by simp) (.tmp (.tmp (.tmp (.tmp .nil))))) rfl ?_
    exact ⟨rfl, HB2.out⟩
theorem kube_no3_1 (k : Nat) (s : ByteArray) (l : List ByteArray) (w : World) (h : Aside0 (version_zzKube.f k s = some l)) (hl : (l.length : Int) = 4) (hw0 : ¬ (rdOf ByteArray.empty l 2).toList = ([97, 108, 112, 104, 97] : List UInt8)) (hw1 : (rdOf ByteArray.empty l 2).toList = ([98, 101, 116, 97] : List UInt8)) (hs1 : (rdOf ByteArray.empty l 1).size ≤ 140737488351232) (hs3 : (rdOf ByteArray.empty l 3).size ≤ 140737488351232) (a : Int) (hq : Aside0 (Num.whole (-9223372036854775808) 9223372036854775807 (rdOf ByteArray.empty l 1).data.toList = some a)) (hr : Aside0 (Num.whole (-9223372036854775808) 9223372036854775807 (rdOf ByteArray.empty l 3).data.toList = none)) (hV : Vars.Vars w) :
    Calls Tryd.prog 28 #[.string s] w fun e w' => e = .returned (kubeV (0, 0, 0, false)) ∧ Below w.heap.size w w' := by
    have d0 : ((rdOf ByteArray.empty l 2).toList == ([97, 108, 112, 104, 97] : List UInt8)) = false := beq_eq_false_iff_ne.mpr hw0
    have d1 : ((rdOf ByteArray.empty l 2).toList == ([98, 101, 116, 97] : List UInt8)) = true := beq_iff_eq.mpr hw1
    clear hw0 hw1
    have hl4 : l.length = 4 := by omega
    have c0 : ((l.length : Int) != 4) = false := by rw [hl]; rfl
    clear hl
    go_enter Tryd.func28, Tryd.ntmps28
    go_wp2_with fail
    (with_reducible refine (version_zzKube.calls k s l _ h.out).mono ?_)
    rintro e w1 ⟨v0, rfl, hR, hb⟩
    obtain ⟨A, cp, rfl⟩ := Kd.R_slice hR
    obtain ⟨g, cap, hv, hbase, hglt, cells, hcells⟩ := Kd.R_form hR (by omega)
    obtain ⟨rfl, rfl⟩ : A = some ⟨g, 0, none⟩ ∧ cp = cap := by injection hv with e1 e2 e3; exact ⟨e1, e3⟩
    have rc1 : w1.cell? ⟨g, 1, none⟩ = some (.string (rdOf ByteArray.empty l 1)) := (Kd.R_cell (ByteArray.empty) hR 1 (by omega) (by omega)).1
    have rc2 : w1.cell? ⟨g, 2, none⟩ = some (.string (rdOf ByteArray.empty l 2)) := (Kd.R_cell (ByteArray.empty) hR 2 (by omega) (by omega)).1
    have rc3 : w1.cell? ⟨g, 3, none⟩ = some (.string (rdOf ByteArray.empty l 3)) := (Kd.R_cell (ByteArray.empty) hR 3 (by omega) (by omega)).1
    have HL4 := Aside0.mk hl4
    have HRR := Aside0.mk hR
    have HB1 := Aside0.mk hb
    have z1 : (1 : Int) < (l.length : Int) := by omega
    have z2 : (2 : Int) < (l.length : Int) := by omega
    have z3 : (3 : Int) < (l.length : Int) := by omega
    clear hv hcells hR hb hl4
    go_wp2_with fail
    (with_reducible refine (atoi_yes (rdOf ByteArray.empty l 1) a _ hs1 hq.out).mono ?_)
    rintro e w2 ⟨rfl, hb2⟩
    have rc4 : w2.cell? ⟨g, 3, none⟩ = some (.string (rdOf ByteArray.empty l 3)) := (hb2.cell (show (⟨g, 3, none⟩ : Addr).block < w1.heap.size from hglt)).trans rc3
    have HB2 := Aside0.mk (HB1.out.trans (hb2.mono HB1.out.size))
    clear hb2 rc1 rc2 rc3
    go_wp2_with fail
    (with_reducible refine (atoi_no (rdOf ByteArray.empty l 3) _ hs3 hr.out (hV.below HB2.out)).mono ?_)
    rintro e w3 ⟨n, p, rfl, hb3⟩
    have HB3 := Aside0.mk (HB2.out.trans (hb3.mono HB2.out.size))
    clear hb3
    go_wp2_with fail
    refine bodyPost_ret (results_list (rs := [.tmp 2, .tmp 3, .tmp 4, .tmp 5]) rfl (by simp) (.tmp (.tmp (.tmp (.tmp .nil))))) rfl ?_
    exact ⟨rfl, HB3.out⟩
theorem kube_yes_1 (k : Nat) (s : ByteArray) (l : List ByteArray) (w : World) (h : Aside0 (version_zzKube.f k s = some l)) (hl : (l.length : Int) = 4) (hw0 : ¬ (rdOf ByteArray.empty l 2).toList = ([97, 108, 112, 104, 97] : List UInt8)) (hw1 : (rdOf ByteArray.empty l 2).toList = ([98, 101, 116, 97] : List UInt8)) (hs1 : (rdOf ByteArray.empty l 1).size ≤ 140737488351232) (hs3 : (rdOf ByteArray.empty l 3).size ≤ 140737488351232) (a b : Int) (hq : Aside0 (Num.whole (-9223372036854775808) 9223372036854775807 (rdOf ByteArray.empty l 1).data.toList = some a)) (hr : Aside0 (Num.whole (-9223372036854775808) 9223372036854775807 (rdOf ByteArray.empty l 3).data.toList = some b)) (hV : Vars.Vars w) :
    Calls Tryd.prog 28 #[.string s] w fun e w' => e = .returned (kubeV (a, 1, b, true)) ∧ Below w.heap.size w w' := by
    have d0 : ((rdOf ByteArray.empty l 2).toList == ([97, 108, 112, 104, 97] : List UInt8)) = false := beq_eq_false_iff_ne.mpr hw0
    have d1 : ((rdOf ByteArray.empty l 2).toList == ([98, 101, 116, 97] : List UInt8)) = true := beq_iff_eq.mpr hw1
    clear hw0 hw1
    have hl4 : l.length = 4 := by omega
    have c0 : ((l.length : Int) != 4) = false := by rw [hl]; rfl
    clear hl
    go_enter Tryd.func28, Tryd.ntmps28
    go_wp2_with fail
    (with_reducible refine (version_zzKube.calls k s l _ h.out).mono ?_)
    rintro e w1 ⟨v0, rfl, hR, hb⟩
    obtain ⟨A, cp, rfl⟩ := Kd.R_slice hR
    obtain ⟨g, cap, hv, hbase, hglt, cells, hcells⟩ := Kd.R_form hR (by omega)
    obtain ⟨rfl, rfl⟩ : A = some ⟨g, 0, none⟩ ∧ cp = cap := by injection hv with e1 e2 e3; exact ⟨e1, e3⟩
    have rc1 : w1.cell? ⟨g, 1, none⟩ = some (.string (rdOf ByteArray.empty l 1)) := (Kd.R_cell (ByteArray.empty) hR 1 (by omega) (by omega)).1
    have rc2 : w1.cell? ⟨g, 2, none⟩ = some (.string (rdOf ByteArray.empty l 2)) := (Kd.R_cell (ByteArray.empty) hR 2 (by omega) (by omega)).1
    have rc3 : w1.cell? ⟨g, 3, none⟩ = some (.string (rdOf ByteArray.empty l 3)) := (Kd.R_cell (ByteArray.empty) hR 3 (by omega) (by omega)).1
    have HL4 := Aside0.mk hl4
    have HRR := Aside0.mk hR
    have HB1 := Aside0.mk hb
    have z1 : (1 : Int) < (l.length : Int) := by omega
    have z2 : (2 : Int) < (l.length : Int) := by omega
    have z3 : (3 : Int) < (l.length : Int) := by omega
    clear hv hcells hR hb hl4
    go_wp2_with fail
    (with_reducible refine (atoi_yes (rdOf ByteArray.empty l 1) a _ hs1 hq.out).mono ?_)
    rintro e w2 ⟨rfl, hb2⟩
    have rc4 : w2.cell? ⟨g, 3, none⟩ = some (.string (rdOf ByteArray.empty l 3)) := (hb2.cell (show (⟨g, 3, none⟩ : Addr).block < w1.heap.size from hglt)).trans rc3
    have HB2 := Aside0.mk (HB1.out.trans (hb2.mono HB1.out.size))
    clear hb2 rc1 rc2 rc3
    go_wp2_with fail
    (with_reducible refine (atoi_yes (rdOf ByteArray.empty l 3) b _ hs3 hr.out).mono ?_)
    rintro e w3 ⟨rfl, hb3⟩
    have HB3 := Aside0.mk (HB2.out.trans (hb3.mono HB2.out.size))
    clear hb3
    go_wp2_with fail
    refine bodyPost_ret (results_list (rs := [.tmp 2, .tmp 3, .tmp 4, .tmp 5]) rfl (by simp) (.tmp (.tmp (.tmp (.tmp .nil))))) rfl ?_
    exact ⟨rfl, HB3.out⟩
theorem kube_no1_2 (k : Nat) (s : ByteArray) (l : List ByteArray) (w : World) (h : Aside0 (version_zzKube.f k s = some l)) (hl : (l.length : Int) = 4) (hw0 : ¬ (rdOf ByteArray.empty l 2).toList = ([97, 108, 112, 104, 97] : List UInt8)) (hw1 : ¬ (rdOf ByteArray.empty l 2).toList = ([98, 101, 116, 97] : List UInt8)) (hw2 : (rdOf ByteArray.empty l 2).toList = ([] : List UInt8)) (hs1 : (rdOf ByteArray.empty l 1).size ≤ 140737488351232) (hq : Aside0 (Num.whole (-9223372036854775808) 9223372036854775807 (rdOf ByteArray.empty l 1).data.toList = none)) (hV : Vars.Vars w) :
    Calls Tryd.prog 28 #[.string s] w fun e w' => e = .returned (kubeV (0, 0, 0, false)) ∧ Below w.heap.size w w' := by
    have d0 : ((rdOf ByteArray.empty l 2).toList == ([97, 108, 112, 104, 97] : List UInt8)) = false := beq_eq_false_iff_ne.mpr hw0
    have d1 : ((rdOf ByteArray.empty l 2).toList == ([98, 101, 116, 97] : List UInt8)) = false := beq_eq_false_iff_ne.mpr hw1
    have d2 : ((rdOf ByteArray.empty l 2).toList == ([] : List UInt8)) = true := beq_iff_eq.mpr hw2
    clear hw0 hw1 hw2
    have hl4 : l.length = 4 := by omega
    have c0 : ((l.length : Int) != 4) = false := by rw [hl]; rfl
    clear hl
    go_enter Tryd.func28, Tryd.ntmps28
    go_wp2_with fail
    (with_reducible refine (version_zzKube.calls k s l _ h.out).mono ?_)
    rintro e w1 ⟨v0, rfl, hR, hb⟩
    obtain ⟨A, cp, rfl⟩ := Kd.R_slice hR
    obtain ⟨g, cap, hv, hbase, hglt, cells, hcells⟩ := Kd.R_form hR (by omega)
    obtain ⟨rfl, rfl⟩ : A = some ⟨g, 0, none⟩ ∧ cp = cap := by injection hv with e1 e2 e3; exact ⟨e1, e3⟩
    have rc1 : w1.cell? ⟨g, 1, none⟩ = some (.string (rdOf ByteArray.empty l 1)) := (Kd.R_cell (ByteArray.empty) hR 1 (by omega) (by omega)).1
    have rc2 : w1.cell? ⟨g, 2, none⟩ = some (.string (rdOf ByteArray.empty l 2)) := (Kd.R_cell (ByteArray.empty) hR 2 (by omega) (by omega)).1
    have rc3 : w1.cell? ⟨g, 3, none⟩ = some (.string (rdOf ByteArray.empty l 3)) := (Kd.R_cell (ByteArray.empty) hR 3 (by omega) (by omega)).1
    have HL4 := Aside0.mk hl4
    have HRR := Aside0.mk hR
    have HB1 := Aside0.mk hb
    have z1 : (1 : Int) < (l.length : Int) := by omega
    have z2 : (2 : Int) < (l.length : Int) := by omega
    have z3 : (3 : Int) < (l.length : Int) := by omega
    clear hv hcells hR hb hl4
    go_wp2_with fail
    (with_reducible refine (atoi_no (rdOf ByteArray.empty l 1) _ hs1 hq.out (hV.below HB1.out)).mono ?_)
    rintro e w2 ⟨n, p, rfl, hb2⟩
    have HB2 := Aside0.mk (HB1.out.trans (hb2.mono HB1.out.size))
    clear hb2
    go_wp2_with fail
    refine bodyPost_ret (results_list (rs := [.tmp 2, .tmp 3, .tmp 4, .tmp 5]) rfl (by simp) (.tmp (.tmp (.tmp (.tmp .nil))))) rfl ?_
    exact ⟨rfl, HB2.out⟩
theorem kube_yes_2 (k : Nat) (s : ByteArray) (l : List ByteArray) (w : World) (h : Aside0 (version_zzKube.f k s = some l)) (hl : (l.length : Int) = 4) (hw0 : ¬ (rdOf ByteArray.empty l 2).toList = ([97, 108, 112, 104, 97] : List UInt8)) (hw1 : ¬ (rdOf ByteArray.empty l 2).toList = ([98, 101, 116, 97] : List UInt8)) (hw2 : (rdOf ByteArray.empty l 2).toList = ([] : List UInt8)) (hs1 : (rdOf ByteArray.empty l 1).size ≤ 140737488351232) (a : Int) (hq : Aside0 (Num.whole (-9223372036854775808) 9223372036854775807 (rdOf ByteArray.empty l 1).data.toList = some a)) (hV : Vars.Vars w) :
    Calls Tryd.prog 28 #[.string s] w fun e w' => e = .returned (kubeV (a, 2, 0, true)) ∧ Below w.heap.size w w' := by
    have d0 : ((rdOf ByteArray.empty l 2).toList == ([97, 108, 112, 104, 97] : List UInt8)) = false := beq_eq_false_iff_ne.mpr hw0
    have d1 : ((rdOf ByteArray.empty l 2).toList == ([98, 101, 116, 97] : List UInt8)) = false := beq_eq_false_iff_ne.mpr hw1
    have d2 : ((rdOf ByteArray.empty l 2).toList == ([] : List UInt8)) = true := beq_iff_eq.mpr hw2
    clear hw0 hw1 hw2
    have hl4 : l.length = 4 := by omega
    have c0 : ((l.length : Int) != 4) = false := by rw [hl]; rfl
    clear hl
    go_enter Tryd.func28, Tryd.ntmps28
    go_wp2_with fail
    (with_reducible refine (version_zzKube.calls k s l _ h.out).mono ?_)
    rintro e w1 ⟨v0, rfl, hR, hb⟩
    obtain ⟨A, cp, rfl⟩ := Kd.R_slice hR
    obtain ⟨g, cap, hv, hbase, hglt, cells, hcells⟩ := Kd.R_form hR (by omega)
    obtain ⟨rfl, rfl⟩ : A = some ⟨g, 0, none⟩ ∧ cp = cap := by injection hv with e1 e2 e3; exact ⟨e1, e3⟩
    have rc1 : w1.cell? ⟨g, 1, none⟩ = some (.string (rdOf ByteArray.empty l 1)) := (Kd.R_cell (ByteArray.empty) hR 1 (by omega) (by omega)).1
    have rc2 : w1.cell? ⟨g, 2, none⟩ = some (.string (rdOf ByteArray.empty l 2)) := (Kd.R_cell (ByteArray.empty) hR 2 (by omega) (by omega)).1
    have rc3 : w1.cell? ⟨g, 3, none⟩ = some (.string (rdOf ByteArray.empty l 3)) := (Kd.R_cell (ByteArray.empty) hR 3 (by omega) (by omega)).1
    have HL4 := Aside0.mk hl4
    have HRR := Aside0.mk hR
    have HB1 := Aside0.mk hb
    have z1 : (1 : Int) < (l.length : Int) := by omega
    have z2 : (2 : Int) < (l.length : Int) := by omega
    have z3 : (3 : Int) < (l.length : Int) := by omega
    clear hv hcells hR hb hl4
    go_wp2_with fail
    (with_reducible refine (atoi_yes (rdOf ByteArray.empty l 1) a _ hs1 hq.out).mono ?_)
    rintro e w2 ⟨rfl, hb2⟩
    have rc4 : w2.cell? ⟨g, 3, none⟩ = some (.string (rdOf ByteArray.empty l 3)) := (hb2.cell (show (⟨g, 3, none⟩ : Addr).block < w1.heap.size from hglt)).trans rc3
    have HB2 := Aside0.mk (HB1.out.trans (hb2.mono HB1.out.size))
    clear hb2 rc1 rc2 rc3
    go_wp2_with fail
    refine bodyPost_ret (results_list (rs := [.tmp 2, .tmp 3, .tmp 4, .tmp 5]) rfl (by simp) (.tmp (.tmp (.tmp (.tmp .nil))))) rfl ?_
    exact ⟨rfl, HB2.out⟩
def version_parseKubeVersion.f (k : Nat) (a0 : ByteArray) : Option (Int × Int × Int × Bool) := (version_zzKube.f k a0).bind fun l => if (rdOf ByteArray.empty l 1).size ≤ 140737488351232 ∧ (rdOf ByteArray.empty l 3).size ≤ 140737488351232 then some (kubeOf l) else none
theorem version_parseKubeVersion.mono : ∀ a0 k, LeO (version_parseKubeVersion.f k a0) (version_parseKubeVersion.f (k + 1) a0) := by
  intro a0 k
  unfold version_parseKubeVersion.f
  exact LeO.bind (version_zzKube.mono _ _) (fun _ => LeO.refl _)
theorem kube_calls (k : Nat) (s : ByteArray) (l : List ByteArray) (w : World) (h : version_zzKube.f k s = some l) (hs1 : (rdOf ByteArray.empty l 1).size ≤ 140737488351232) (hs3 : (rdOf ByteArray.empty l 3).size ≤ 140737488351232) (hV : Vars.Vars w) :
    Calls Tryd.prog 28 #[.string s] w fun e w' => e = .returned (kubeV (kubeOf l)) ∧ Below w.heap.size w w' := by
  unfold kubeOf kubeRest
  by_cases hl : (l.length : Int) = 4
  · rw [if_pos hl]
    by_cases hw0 : (rdOf ByteArray.empty l 2).toList = ([97, 108, 112, 104, 97] : List UInt8)
    · rw [if_pos hw0]
      cases hq : Num.whole (-9223372036854775808) 9223372036854775807 (rdOf ByteArray.empty l 1).data.toList with
      | none => exact kube_no1_0 k s l w ⟨h⟩ hl hw0 hs1 ⟨hq⟩ hV
      | some a =>
        simp only []
        rw [if_neg (by decide)]
        cases hr : Num.whole (-9223372036854775808) 9223372036854775807 (rdOf ByteArray.empty l 3).data.toList with
        | none => exact kube_no3_0 k s l w ⟨h⟩ hl hw0 hs1 hs3 a ⟨hq⟩ ⟨hr⟩ hV
        | some b => exact kube_yes_0 k s l w ⟨h⟩ hl hw0 hs1 hs3 a b ⟨hq⟩ ⟨hr⟩ hV
    · rw [if_neg hw0]
      by_cases hw1 : (rdOf ByteArray.empty l 2).toList = ([98, 101, 116, 97] : List UInt8)
      · rw [if_pos hw1]
        cases hq : Num.whole (-9223372036854775808) 9223372036854775807 (rdOf ByteArray.empty l 1).data.toList with
        | none => exact kube_no1_1 k s l w ⟨h⟩ hl hw0 hw1 hs1 ⟨hq⟩ hV
        | some a =>
          simp only []
          rw [if_neg (by decide)]
          cases hr : Num.whole (-9223372036854775808) 9223372036854775807 (rdOf ByteArray.empty l 3).data.toList with
          | none => exact kube_no3_1 k s l w ⟨h⟩ hl hw0 hw1 hs1 hs3 a ⟨hq⟩ ⟨hr⟩ hV
          | some b => exact kube_yes_1 k s l w ⟨h⟩ hl hw0 hw1 hs1 hs3 a b ⟨hq⟩ ⟨hr⟩ hV
      · rw [if_neg hw1]
        by_cases hw2 : (rdOf ByteArray.empty l 2).toList = ([] : List UInt8)
        · rw [if_pos hw2]
          cases hq : Num.whole (-9223372036854775808) 9223372036854775807 (rdOf ByteArray.empty l 1).data.toList with
          | none => exact kube_no1_2 k s l w ⟨h⟩ hl hw0 hw1 hw2 hs1 ⟨hq⟩ hV
          | some a =>
            simp only []
            rw [if_pos trivial]
            exact kube_yes_2 k s l w ⟨h⟩ hl hw0 hw1 hw2 hs1 a ⟨hq⟩ hV
        · rw [if_neg hw2]
          exact kube_word k s l w ⟨h⟩ hl hw0 hw1 hw2
  · rw [if_neg hl]
    exact kube_no k s l w ⟨h⟩ hl
theorem version_parseKubeVersion.calls (k : Nat) (a0 : ByteArray) (r1 r2 r3 : Int) (r4 : Bool) (w : World) (h : version_parseKubeVersion.f k a0 = some (r1, r2, r3, r4)) (hV : Vars.Vars w := by first | assumption | exact Vars.Vars.below hV (by repeat (first | exact HB.out | exact HB | exact Below.refl _ _ | apply below_alloc | apply pw_below_drewN | apply below_drew1))) :
    Calls Tryd.prog 28 #[.string a0] w fun e w' => e = .returned (.tuple #[.int .i64 r1, .int .i64 r2, .int .i64 r3, .bool r4]) ∧ Below w.heap.size w w' := by
  unfold version_parseKubeVersion.f at h
  obtain ⟨l, hl, h2⟩ := Option.bind_eq_some_iff.1 h
  by_cases hs : (rdOf ByteArray.empty l 1).size ≤ 140737488351232 ∧ (rdOf ByteArray.empty l 3).size ≤ 140737488351232
  · rw [if_pos hs] at h2
    have h3 := Option.some.inj h2
    have := kube_calls k a0 l w hl hs.1 hs.2 hV
    rw [h3] at this
    exact this
  · rw [if_neg hs] at h2; cases h2

-- NOT PRINTED: function 45 (bytealg_abigen_runtime_cmpstring)

-- NOT PRINTED: function 37 (bytealg_CompareString)

/-! ### strings_Compare: function 29 -/
theorem gt_eq : ∀ a b : List UInt8, Op.bytesLess b a = !(Op.bytesLess a b || a == b)
  | [], [] => by simp [Op.bytesLess]
  | [], _ :: _ => by simp [Op.bytesLess]
  | _ :: _, [] => by simp [Op.bytesLess]
  | a :: x, b :: y => by
    have ih := gt_eq x y
    simp only [Op.bytesLess, List.cons_beq_cons]
    by_cases h : a = b
    · subst h
      simp [ih]
    · have h2 : ¬ b = a := fun e => h e.symm
      have e1 : (a == b) = false := beq_eq_false_iff_ne.mpr h
      have e2 : (b == a) = false := beq_eq_false_iff_ne.mpr h2
      rw [e1, e2]
      have h3 : a.toNat ≠ b.toNat := fun e => h (UInt8.toNat_inj.1 e)
      have l1 : (a < b) = (a.toNat < b.toNat) := rfl
      have l2 : (b < a) = (b.toNat < a.toNat) := rfl
      simp only [Bool.false_and, Bool.or_false, l1, l2]
      by_cases h4 : a.toNat < b.toNat
      · rw [decide_eq_true h4, decide_eq_false (by omega)]; rfl
      · rw [decide_eq_false h4, decide_eq_true (by omega)]; rfl
theorem cmp_eq : ∀ a b : List UInt8, Lib.compareBytes a b = if Op.bytesLess a b = true then -1 else if Op.bytesLess b a = true then 1 else 0
  | [], [] => by simp [Op.bytesLess, Lib.compareBytes]
  | [], _ :: _ => by simp [Op.bytesLess, Lib.compareBytes]
  | _ :: _, [] => by simp [Op.bytesLess, Lib.compareBytes]
  | a :: x, b :: y => by
    have ih := cmp_eq x y
    simp only [Op.bytesLess, Lib.compareBytes]
    by_cases h1 : a < b
    · simp [h1]
    · by_cases h2 : b < a
      · have h3 : ¬ a = b := fun e => by subst e; exact h1 h2
        simp [h1, h2, h3]
      · have h3 : a = b := by
          have l1 : ¬ a.toNat < b.toNat := h1
          have l2 : ¬ b.toNat < a.toNat := h2
          exact UInt8.toNat_inj.1 (by omega)
        subst h3
        simp [h1, ih]
def strings_Compare.f (_ : Nat) (a0 a1 : ByteArray) : Option Int := some (Lib.compareBytes a0.data.toList a1.data.toList)
theorem strings_Compare.mono : ∀ a0 a1 k, LeO (strings_Compare.f k a0 a1) (strings_Compare.f (k + 1) a0 a1) := by
  intro a0 a1 k
  exact LeO.refl _
theorem strings_Compare.calls (k : Nat) (a0 a1 : ByteArray) (r : Int) (w : World) (h : strings_Compare.f k a0 a1 = some r) :
    Calls Tryd.prog 29 #[.string a0, .string a1] w fun e w' => e = .returned (.int .i64 r) ∧ Below w.heap.size w w' := by
  obtain rfl := Option.some.inj h
  refine (Tryd.strings_Compare a0 a1 w).mono ?_
  rintro e w' ⟨rfl, rfl⟩
  exact ⟨rfl, Below.refl _ _⟩

/-! ### version_CompareKubeAwareVersionStrings: function 21 -/
mutual
def version_CompareKubeAwareVersionStrings.j2 : Nat → Int → Int → Int → Int → Int → Int → Option (Int)
  | 0, _, _, _, _, _, _ => none
  | k + 1, x5, x6, x7, x9, x10, x11 => if x6 = x10 then (if x5 = x9 then (some (wrap64 (x7 - x11))) else (some (wrap64 (x5 - x9)))) else (some (wrap64 (x6 - x10)))
def version_CompareKubeAwareVersionStrings.j0 : Nat → ByteArray → ByteArray → Int → Int → Int → Bool → Int → Int → Int → Bool → Bool → Option (Int)
  | 0, _, _, _, _, _, _, _, _, _, _, _ => none
  | k + 1, x0, x1, x5, x6, x7, x8, x9, x10, x11, x12, x30 => if x30 = true then ((strings_Compare.f k x1 x0).bind fun t122 => (some t122)) else (if x8 = true then (version_CompareKubeAwareVersionStrings.j1 k x5 x6 x7 x8 x9 x10 x11 x12 false) else (version_CompareKubeAwareVersionStrings.j1 k x5 x6 x7 x8 x9 x10 x11 x12 x12))
def version_CompareKubeAwareVersionStrings.j1 : Nat → Int → Int → Int → Bool → Int → Int → Int → Bool → Bool → Option (Int)
  | 0, _, _, _, _, _, _, _, _, _ => none
  | k + 1, x5, x6, x7, x8, x9, x10, x11, x12, x40 => if x40 = true then (some (-1)) else (if x8 = true then (if x12 = true then (version_CompareKubeAwareVersionStrings.j2 k x5 x6 x7 x9 x10 x11) else (some 1)) else (version_CompareKubeAwareVersionStrings.j2 k x5 x6 x7 x9 x10 x11))
end
def version_CompareKubeAwareVersionStrings.f (k : Nat) (a0 : ByteArray) (a1 : ByteArray) : Option (Int) := if a0.toList = a1.toList then (some 0) else ((version_parseKubeVersion.f k a0).bind fun bt114 => ((version_parseKubeVersion.f k a1).bind fun bt118 => (if bt114.2.2.2 = true then (version_CompareKubeAwareVersionStrings.j0 k a0 a1 bt114.1 bt114.2.1 bt114.2.2.1 bt114.2.2.2 bt118.1 bt118.2.1 bt118.2.2.1 bt118.2.2.2 false) else (version_CompareKubeAwareVersionStrings.j0 k a0 a1 bt114.1 bt114.2.1 bt114.2.2.1 bt114.2.2.2 bt118.1 bt118.2.1 bt118.2.2.1 bt118.2.2.2 (!bt118.2.2.2)))))
theorem version_CompareKubeAwareVersionStrings.mono_l : ∀ k, (∀ y0 y1 y2 y3 y4 y5, LeO (version_CompareKubeAwareVersionStrings.j2 k y0 y1 y2 y3 y4 y5) (version_CompareKubeAwareVersionStrings.j2 (k + 1) y0 y1 y2 y3 y4 y5)) ∧ (∀ y0 y1 y2 y3 y4 y5 y6 y7 y8 y9 y10, LeO (version_CompareKubeAwareVersionStrings.j0 k y0 y1 y2 y3 y4 y5 y6 y7 y8 y9 y10) (version_CompareKubeAwareVersionStrings.j0 (k + 1) y0 y1 y2 y3 y4 y5 y6 y7 y8 y9 y10)) ∧ (∀ y0 y1 y2 y3 y4 y5 y6 y7 y8, LeO (version_CompareKubeAwareVersionStrings.j1 k y0 y1 y2 y3 y4 y5 y6 y7 y8) (version_CompareKubeAwareVersionStrings.j1 (k + 1) y0 y1 y2 y3 y4 y5 y6 y7 y8))
  | 0 => ⟨fun _ _ _ _ _ _ r h => by simp [version_CompareKubeAwareVersionStrings.j2] at h, fun _ _ _ _ _ _ _ _ _ _ _ r h => by simp [version_CompareKubeAwareVersionStrings.j0] at h, fun _ _ _ _ _ _ _ _ _ r h => by simp [version_CompareKubeAwareVersionStrings.j1] at h⟩
  | k + 1 => by
    obtain ⟨ih0, ih1, ih2⟩ := version_CompareKubeAwareVersionStrings.mono_l k
    refine ⟨?_, ?_, ?_⟩
    · intro y0 y1 y2 y3 y4 y5
      unfold version_CompareKubeAwareVersionStrings.j2
      repeat' first
      | (with_reducible exact ih0 _ _ _ _ _ _)
      | (with_reducible exact ih1 _ _ _ _ _ _ _ _ _ _ _)
      | (with_reducible exact ih2 _ _ _ _ _ _ _ _ _)
      | (with_reducible exact strings_Compare.mono _ _ _)
      | (with_reducible exact version_parseKubeVersion.mono _ _)
      | (with_reducible exact LeO.refl _)
      | (with_reducible exact LeO.none _)
      | (with_reducible refine LeO.ite ?_ ?_)
      | (with_reducible refine LeO.bind ?_ (fun _ => ?_))
      | exact ih0 _ _ _ _ _ _
      | exact ih1 _ _ _ _ _ _ _ _ _ _ _
      | exact ih2 _ _ _ _ _ _ _ _ _
      | exact strings_Compare.mono _ _ _
      | exact version_parseKubeVersion.mono _ _
      | exact LeO.none _
      | refine LeO.ite ?_ ?_
      | refine LeO.bind ?_ (fun _ => ?_)
    · intro y0 y1 y2 y3 y4 y5 y6 y7 y8 y9 y10
      unfold version_CompareKubeAwareVersionStrings.j0
      repeat' first
      | (with_reducible exact ih0 _ _ _ _ _ _)
      | (with_reducible exact ih1 _ _ _ _ _ _ _ _ _ _ _)
      | (with_reducible exact ih2 _ _ _ _ _ _ _ _ _)
      | (with_reducible exact strings_Compare.mono _ _ _)
      | (with_reducible exact version_parseKubeVersion.mono _ _)
      | (with_reducible exact LeO.refl _)
      | (with_reducible exact LeO.none _)
      | (with_reducible refine LeO.ite ?_ ?_)
      | (with_reducible refine LeO.bind ?_ (fun _ => ?_))
      | exact ih0 _ _ _ _ _ _
      | exact ih1 _ _ _ _ _ _ _ _ _ _ _
      | exact ih2 _ _ _ _ _ _ _ _ _
      | exact strings_Compare.mono _ _ _
      | exact version_parseKubeVersion.mono _ _
      | exact LeO.none _
      | refine LeO.ite ?_ ?_
      | refine LeO.bind ?_ (fun _ => ?_)
    · intro y0 y1 y2 y3 y4 y5 y6 y7 y8
      unfold version_CompareKubeAwareVersionStrings.j1
      repeat' first
      | (with_reducible exact ih0 _ _ _ _ _ _)
      | (with_reducible exact ih1 _ _ _ _ _ _ _ _ _ _ _)
      | (with_reducible exact ih2 _ _ _ _ _ _ _ _ _)
      | (with_reducible exact strings_Compare.mono _ _ _)
      | (with_reducible exact version_parseKubeVersion.mono _ _)
      | (with_reducible exact LeO.refl _)
      | (with_reducible exact LeO.none _)
      | (with_reducible refine LeO.ite ?_ ?_)
      | (with_reducible refine LeO.bind ?_ (fun _ => ?_))
      | exact ih0 _ _ _ _ _ _
      | exact ih1 _ _ _ _ _ _ _ _ _ _ _
      | exact ih2 _ _ _ _ _ _ _ _ _
      | exact strings_Compare.mono _ _ _
      | exact version_parseKubeVersion.mono _ _
      | exact LeO.none _
      | refine LeO.ite ?_ ?_
      | refine LeO.bind ?_ (fun _ => ?_)
theorem version_CompareKubeAwareVersionStrings.mono : ∀ a0 a1 k, LeO (version_CompareKubeAwareVersionStrings.f k a0 a1) (version_CompareKubeAwareVersionStrings.f (k + 1) a0 a1) := by
  intro a0 a1 k
  obtain ⟨ih0, ih1, ih2⟩ := version_CompareKubeAwareVersionStrings.mono_l k
  unfold version_CompareKubeAwareVersionStrings.f
  repeat' first
      | (with_reducible exact ih0 _ _ _ _ _ _)
      | (with_reducible exact ih1 _ _ _ _ _ _ _ _ _ _ _)
      | (with_reducible exact ih2 _ _ _ _ _ _ _ _ _)
      | (with_reducible exact strings_Compare.mono _ _ _)
      | (with_reducible exact version_parseKubeVersion.mono _ _)
      | (with_reducible exact LeO.refl _)
      | (with_reducible exact LeO.none _)
      | (with_reducible refine LeO.ite ?_ ?_)
      | (with_reducible refine LeO.bind ?_ (fun _ => ?_))
      | exact ih0 _ _ _ _ _ _
      | exact ih1 _ _ _ _ _ _ _ _ _ _ _
      | exact ih2 _ _ _ _ _ _ _ _ _
      | exact strings_Compare.mono _ _ _
      | exact version_parseKubeVersion.mono _ _
      | exact LeO.none _
      | refine LeO.ite ?_ ?_
      | refine LeO.bind ?_ (fun _ => ?_)
set_option maxHeartbeats 8000000 in
set_option maxRecDepth 100000 in
theorem version_CompareKubeAwareVersionStrings.calls (k : Nat) (a0 : ByteArray) (a1 : ByteArray) (r : Int) (w : World) (h : version_CompareKubeAwareVersionStrings.f k a0 a1 = some r) (hV : Vars.Vars w := by first | assumption | exact Vars.Vars.below hV (by repeat (first | exact HB.out | exact HB | exact Below.refl _ _ | apply below_alloc | apply pw_below_drewN | apply below_drew1))) :
    Calls Tryd.prog 21 #[.string a0, .string a1] w fun e w' => e = .returned (.int .i64 r) ∧ Below w.heap.size w w' := by
  have HB := Aside0.mk (Below.refl w.heap.size w)
  have H : (if a0.toList = a1.toList then (some 0) else ((version_parseKubeVersion.f k a0).bind fun bt114 => ((version_parseKubeVersion.f k a1).bind fun bt118 => (if bt114.2.2.2 = true then (version_CompareKubeAwareVersionStrings.j0 k a0 a1 bt114.1 bt114.2.1 bt114.2.2.1 bt114.2.2.2 bt118.1 bt118.2.1 bt118.2.2.1 bt118.2.2.2 false) else (version_CompareKubeAwareVersionStrings.j0 k a0 a1 bt114.1 bt114.2.1 bt114.2.2.1 bt114.2.2.2 bt118.1 bt118.2.1 bt118.2.2.1 bt118.2.2.2 (!bt118.2.2.2)))))) = some r := h
  clear h
  by_cases c3 : a0.toList = a1.toList
  · rw [if_pos c3] at H
    have c3b0 : (a0.toList == a1.toList) = true := beq_iff_eq.mpr c3
    have c3b1 : (a0.toList != a1.toList) = false := bne_eq_false_iff_eq.mpr c3
    clear c3
    obtain rfl := Option.some.inj H
    go_enter Tryd.func21, Tryd.ntmps21
    go_wp2
    go_ret
    exact ⟨by first | rfl | (simp [errW_none, errW_some] <;> rfl) | (simp [*, errW_none, errW_some] <;> rfl), by repeat (first | (with_reducible first | exact HB.out | apply below_alloc | apply pw_below_drewN | apply below_drew1) | exact HB.out)⟩
  · rw [if_neg c3] at H
    have c3b0 : (a0.toList == a1.toList) = false := beq_eq_false_iff_ne.mpr c3
    have c3b1 : (a0.toList != a1.toList) = true := bne_iff_ne.mpr c3
    replace H := Option.bind_eq_some_iff.mp H
    obtain ⟨⟨t114, t115, t116, t117⟩, A40, H⟩ := H
    replace H : ((version_parseKubeVersion.f k a1).bind fun bt118 => (if t117 = true then (version_CompareKubeAwareVersionStrings.j0 k a0 a1 t114 t115 t116 t117 bt118.1 bt118.2.1 bt118.2.2.1 bt118.2.2.2 false) else (version_CompareKubeAwareVersionStrings.j0 k a0 a1 t114 t115 t116 t117 bt118.1 bt118.2.1 bt118.2.2.1 bt118.2.2.2 (!bt118.2.2.2)))) = some r := H
    have A4 := Aside0.mk A40
    clear A40
    replace H := Option.bind_eq_some_iff.mp H
    obtain ⟨⟨t118, t119, t120, t121⟩, A50, H⟩ := H
    replace H : (if t117 = true then (version_CompareKubeAwareVersionStrings.j0 k a0 a1 t114 t115 t116 t117 t118 t119 t120 t121 false) else (version_CompareKubeAwareVersionStrings.j0 k a0 a1 t114 t115 t116 t117 t118 t119 t120 t121 (!t121))) = some r := H
    have A5 := Aside0.mk A50
    clear A50
    have HC6 := Aside0.mk H
    clear H
    go_enter Tryd.func21, Tryd.ntmps21
    go_upto_block 0 with (first | ((with_reducible refine gate_callee (f := 28) rfl ?_); refine goesL_ (some 18) rfl rfl Tryd.func28 (by kernel_rfl) rfl #[.string a0] rfl (by (try simp only [List.map_toArray, List.map_cons, List.map_nil]); first | done | rfl | (simp only [List.length_drop, List.length_take]; rfl)) ?_; (with_reducible refine (version_parseKubeVersion.calls k a0 t114 t115 t116 t117 _ A4.out).mono ?_); rintro e w7 ⟨rfl, hb⟩; refine ⟨_, rfl, ?_⟩; have n0_ := Aside0.mk (below_step (by repeat (first | (with_reducible first | exact HB.out | apply below_alloc | apply pw_below_drewN | apply below_drew1) | exact HB.out)) hb); clear HB; have HB := n0_; clear n0_; (try clear hb); (try clear hb2); (try clear hk); (try clear hi)) | ((with_reducible refine gate_callee (f := 28) rfl ?_); refine goesL_ (some 25) rfl rfl Tryd.func28 (by kernel_rfl) rfl #[.string a1] rfl (by (try simp only [List.map_toArray, List.map_cons, List.map_nil]); first | done | rfl | (simp only [List.length_drop, List.length_take]; rfl)) ?_; (with_reducible refine (version_parseKubeVersion.calls k a1 t118 t119 t120 t121 _ A5.out).mono ?_); rintro e w8 ⟨rfl, hb⟩; refine ⟨_, rfl, ?_⟩; have n0_ := Aside0.mk (below_step (by repeat (first | (with_reducible first | exact HB.out | apply below_alloc | apply pw_below_drewN | apply below_drew1) | exact HB.out)) hb); clear HB; have HB := n0_; clear n0_; (try clear hb); (try clear hb2); (try clear hk); (try clear hi)))
    (try simp only [Act.put, List.setIfInBounds_toArray, List.set_cons_zero, List.set_cons_succ])
    go_cut [] (fun wc => ∃ (kq : Nat), Aside0 (version_CompareKubeAwareVersionStrings.j2 kq t114 t115 t116 t118 t119 t120 = some r) ∧ Aside0 (kq ≤ k) ∧ Aside0 (Below w.heap.size w wc))
    case first =>
      have H := HC6.out
      clear HC6
      have HC9 := Aside0.mk H
      clear H
      go_upto_region 5 with (fail)
      go_cut [30] (fun v30 wc => ∃ (kq : Nat) (x30_8 : Bool), v30 = .bool x30_8 ∧ Aside0 (version_CompareKubeAwareVersionStrings.j0 kq a0 a1 t114 t115 t116 t117 t118 t119 t120 t121 x30_8 = some r) ∧ Aside0 (kq ≤ k) ∧ Aside0 (Below w.heap.size w wc))
      case first =>
        have H := HC9.out
        clear HC9
        by_cases c10 : t117 = true
        · subst c10
          have H1 : (version_CompareKubeAwareVersionStrings.j0 k a0 a1 t114 t115 t116 true t118 t119 t120 t121 false) = some r := by rw [if_pos rfl] at H; exact H
          clear H
          have H := H1
          clear H1
          have H' := Aside0.mk H
          clear H
          go_wp2
          go_meet
          case rel => exact ⟨_, (false), (by first | rfl | (simp; done) | (simp [*]; done)), H', ⟨by first | omega | exact Nat.le_refl _⟩, ⟨by repeat (first | (with_reducible first | exact HB.out | apply below_alloc | apply pw_below_drewN | apply below_drew1) | exact HB.out)⟩⟩
        · replace c10 := Bool.eq_false_iff.mpr c10
          subst c10
          have H1 : (version_CompareKubeAwareVersionStrings.j0 k a0 a1 t114 t115 t116 false t118 t119 t120 t121 (!t121)) = some r := by rw [if_neg (show ¬ (false = true) by decide)] at H; exact H
          clear H
          have H := H1
          clear H1
          have H' := Aside0.mk H
          clear H
          go_wp2
          go_meet
          case rel => exact ⟨_, (!t121), (by first | rfl | (simp; done) | (simp [*]; done)), H', ⟨by first | omega | exact Nat.le_refl _⟩, ⟨by repeat (first | (with_reducible first | exact HB.out | apply below_alloc | apply pw_below_drewN | apply below_drew1) | exact HB.out)⟩⟩
      case rest =>
        clear HC9
        try clear c1
        try clear c2
        try clear p2
        try clear c3
        try clear c3b0
        try clear c3b1
        try clear c10
        obtain ⟨kq, x30_8, rfl, HA, HJ8, HB⟩ := hcut
        cases kq with
        | zero => exact absurd HA.out (by simp [version_CompareKubeAwareVersionStrings.j0])
        | succ kj8 =>
          have H := HA.out
          clear HA
          simp only [version_CompareKubeAwareVersionStrings.j0] at H
          by_cases c11 : x30_8 = true
          · subst c11
            have H1 : ((strings_Compare.f kj8 a1 a0).bind fun t122 => (some t122)) = some r := by rw [if_pos rfl] at H; exact H
            clear H
            have H := H1
            clear H1
            replace H := Option.bind_eq_some_iff.mp H
            obtain ⟨t122, A120, H⟩ := H
            replace H : (some t122) = some r := H
            have A12 := Aside0.mk A120
            clear A120
            obtain rfl := Option.some.inj H
            go_wp2_with (first | ((with_reducible refine gate_callee (f := 29) rfl ?_); refine goesL_ (some 39) rfl rfl Tryd.func29 (by kernel_rfl) rfl #[.string a1, .string a0] rfl (by (try simp only [List.map_toArray, List.map_cons, List.map_nil]); first | done | rfl | (simp only [List.length_drop, List.length_take]; rfl)) ?_; (with_reducible refine (strings_Compare.calls kj8 a1 a0 t122 _ A12.out).mono ?_); rintro e w13 ⟨rfl, hb⟩; refine ⟨_, rfl, ?_⟩; have n0_ := Aside0.mk (below_step (by repeat (first | (with_reducible first | exact HB.out | apply below_alloc | apply pw_below_drewN | apply below_drew1) | exact HB.out)) hb); clear HB; have HB := n0_; clear n0_; (try clear hb); (try clear hb2); (try clear hk); (try clear hi)))
            go_ret
            exact ⟨by first | rfl | (simp [errW_none, errW_some] <;> rfl) | (simp [*, errW_none, errW_some] <;> rfl), by repeat (first | (with_reducible first | exact HB.out | apply below_alloc | apply pw_below_drewN | apply below_drew1) | exact HB.out)⟩
          · replace c11 := Bool.eq_false_iff.mpr c11
            subst c11
            have H1 : (if t117 = true then (version_CompareKubeAwareVersionStrings.j1 kj8 t114 t115 t116 t117 t118 t119 t120 t121 false) else (version_CompareKubeAwareVersionStrings.j1 kj8 t114 t115 t116 t117 t118 t119 t120 t121 t121)) = some r := by rw [if_neg (show ¬ (false = true) by decide)] at H; exact H
            clear H
            have H := H1
            clear H1
            have HC14 := Aside0.mk H
            clear H
            go_upto_region 7 with (fail)
            go_cut [40] (fun v40 wc => ∃ (kq : Nat) (x40_13 : Bool), v40 = .bool x40_13 ∧ Aside0 (version_CompareKubeAwareVersionStrings.j1 kq t114 t115 t116 t117 t118 t119 t120 t121 x40_13 = some r) ∧ Aside0 (kq ≤ kj8) ∧ Aside0 (Below w.heap.size w wc))
            case first =>
              have H := HC14.out
              clear HC14
              by_cases c15 : t117 = true
              · subst c15
                have H1 : (version_CompareKubeAwareVersionStrings.j1 kj8 t114 t115 t116 true t118 t119 t120 t121 false) = some r := by rw [if_pos rfl] at H; exact H
                clear H
                have H := H1
                clear H1
                have H' := Aside0.mk H
                clear H
                go_wp2
                go_meet
                case rel => exact ⟨_, (false), (by first | rfl | (simp; done) | (simp [*]; done)), H', ⟨by have := HJ8.out; first | omega | exact Nat.le_refl _⟩, ⟨by repeat (first | (with_reducible first | exact HB.out | apply below_alloc | apply pw_below_drewN | apply below_drew1) | exact HB.out)⟩⟩
              · replace c15 := Bool.eq_false_iff.mpr c15
                subst c15
                have H1 : (version_CompareKubeAwareVersionStrings.j1 kj8 t114 t115 t116 false t118 t119 t120 t121 t121) = some r := by rw [if_neg (show ¬ (false = true) by decide)] at H; exact H
                clear H
                have H := H1
                clear H1
                have H' := Aside0.mk H
                clear H
                go_wp2
                go_meet
                case rel => exact ⟨_, (t121), (by first | rfl | (simp; done) | (simp [*]; done)), H', ⟨by have := HJ8.out; first | omega | exact Nat.le_refl _⟩, ⟨by repeat (first | (with_reducible first | exact HB.out | apply below_alloc | apply pw_below_drewN | apply below_drew1) | exact HB.out)⟩⟩
            case rest =>
              clear HC14
              try clear c1
              try clear c2
              try clear p2
              try clear c3
              try clear c3b0
              try clear c3b1
              try clear c10
              try clear c11
              try clear c15
              try clear p2
              obtain ⟨kq, x40_13, rfl, HA, HJ13, HB⟩ := hcut
              cases kq with
              | zero => exact absurd HA.out (by simp [version_CompareKubeAwareVersionStrings.j1])
              | succ kj13 =>
                have H := HA.out
                clear HA
                simp only [version_CompareKubeAwareVersionStrings.j1] at H
                by_cases c16 : x40_13 = true
                · subst c16
                  have H1 : (some (-1)) = some r := by rw [if_pos rfl] at H; exact H
                  clear H
                  have H := H1
                  clear H1
                  obtain rfl := Option.some.inj H
                  go_wp2
                  go_ret
                  exact ⟨by first | rfl | (simp [errW_none, errW_some] <;> rfl) | (simp [*, errW_none, errW_some] <;> rfl), by repeat (first | (with_reducible first | exact HB.out | apply below_alloc | apply pw_below_drewN | apply below_drew1) | exact HB.out)⟩
                · replace c16 := Bool.eq_false_iff.mpr c16
                  subst c16
                  have H1 : (if t117 = true then (if t121 = true then (version_CompareKubeAwareVersionStrings.j2 kj13 t114 t115 t116 t118 t119 t120) else (some 1)) else (version_CompareKubeAwareVersionStrings.j2 kj13 t114 t115 t116 t118 t119 t120)) = some r := by rw [if_neg (show ¬ (false = true) by decide)] at H; exact H
                  clear H
                  have H := H1
                  clear H1
                  by_cases c17 : t117 = true
                  · subst c17
                    have H1 : (if t121 = true then (version_CompareKubeAwareVersionStrings.j2 kj13 t114 t115 t116 t118 t119 t120) else (some 1)) = some r := by rw [if_pos rfl] at H; exact H
                    clear H
                    have H := H1
                    clear H1
                    by_cases c18 : t121 = true
                    · subst c18
                      have H1 : (version_CompareKubeAwareVersionStrings.j2 kj13 t114 t115 t116 t118 t119 t120) = some r := by rw [if_pos rfl] at H; exact H
                      clear H
                      have H := H1
                      clear H1
                      have H' := Aside0.mk H
                      clear H
                      go_wp2
                      go_meet
                      case rel => exact ⟨_, H', ⟨by have := HJ8.out; have := HJ13.out; first | omega | exact Nat.le_refl _⟩, ⟨by repeat (first | (with_reducible first | exact HB.out | apply below_alloc | apply pw_below_drewN | apply below_drew1) | exact HB.out)⟩⟩
                    · replace c18 := Bool.eq_false_iff.mpr c18
                      subst c18
                      have H1 : (some 1) = some r := by rw [if_neg (show ¬ (false = true) by decide)] at H; exact H
                      clear H
                      have H := H1
                      clear H1
                      obtain rfl := Option.some.inj H
                      go_wp2
                      go_ret
                      exact ⟨by first | rfl | (simp [errW_none, errW_some] <;> rfl) | (simp [*, errW_none, errW_some] <;> rfl), by repeat (first | (with_reducible first | exact HB.out | apply below_alloc | apply pw_below_drewN | apply below_drew1) | exact HB.out)⟩
                  · replace c17 := Bool.eq_false_iff.mpr c17
                    subst c17
                    have H1 : (version_CompareKubeAwareVersionStrings.j2 kj13 t114 t115 t116 t118 t119 t120) = some r := by rw [if_neg (show ¬ (false = true) by decide)] at H; exact H
                    clear H
                    have H := H1
                    clear H1
                    have H' := Aside0.mk H
                    clear H
                    go_wp2
                    go_meet
                    case rel => exact ⟨_, H', ⟨by have := HJ8.out; have := HJ13.out; first | omega | exact Nat.le_refl _⟩, ⟨by repeat (first | (with_reducible first | exact HB.out | apply below_alloc | apply pw_below_drewN | apply below_drew1) | exact HB.out)⟩⟩
    case rest =>
      clear HC6
      try clear c1
      try clear c2
      try clear p2
      try clear c3
      try clear c3b0
      try clear c3b1
      try clear c10
      try clear c11
      try clear c15
      try clear c16
      try clear c17
      try clear c18
      try clear p2
      obtain ⟨kq, HA, HJ5, HB⟩ := hcut
      cases kq with
      | zero => exact absurd HA.out (by simp [version_CompareKubeAwareVersionStrings.j2])
      | succ kj5 =>
        have H := HA.out
        clear HA
        simp only [version_CompareKubeAwareVersionStrings.j2] at H
        by_cases c19 : t115 = t119
        · rw [if_pos c19] at H
          have c19b0 : (t115 == t119) = true := beq_iff_eq.mpr c19
          have c19b1 : (t115 != t119) = false := bne_eq_false_iff_eq.mpr c19
          clear c19
          by_cases c20 : t114 = t118
          · rw [if_pos c20] at H
            have c20b0 : (t114 == t118) = true := beq_iff_eq.mpr c20
            have c20b1 : (t114 != t118) = false := bne_eq_false_iff_eq.mpr c20
            clear c20
            obtain rfl := Option.some.inj H
            go_wp2
            go_ret
            exact ⟨by first | rfl | (simp [errW_none, errW_some] <;> rfl) | (simp [*, errW_none, errW_some] <;> rfl), by repeat (first | (with_reducible first | exact HB.out | apply below_alloc | apply pw_below_drewN | apply below_drew1) | exact HB.out)⟩
          · rw [if_neg c20] at H
            have c20b0 : (t114 == t118) = false := beq_eq_false_iff_ne.mpr c20
            have c20b1 : (t114 != t118) = true := bne_iff_ne.mpr c20
            obtain rfl := Option.some.inj H
            go_wp2
            go_ret
            exact ⟨by first | rfl | (simp [errW_none, errW_some] <;> rfl) | (simp [*, errW_none, errW_some] <;> rfl), by repeat (first | (with_reducible first | exact HB.out | apply below_alloc | apply pw_below_drewN | apply below_drew1) | exact HB.out)⟩
        · rw [if_neg c19] at H
          have c19b0 : (t115 == t119) = false := beq_eq_false_iff_ne.mpr c19
          have c19b1 : (t115 != t119) = true := bne_iff_ne.mpr c19
          obtain rfl := Option.some.inj H
          go_wp2
          go_ret
          exact ⟨by first | rfl | (simp [errW_none, errW_some] <;> rfl) | (simp [*, errW_none, errW_some] <;> rfl), by repeat (first | (with_reducible first | exact HB.out | apply below_alloc | apply pw_below_drewN | apply below_drew1) | exact HB.out)⟩

/-! ### impl_KubeCompare: function 15 -/
def impl_KubeCompare.f (k : Nat) (a0 : ByteArray) (a1 : ByteArray) : Option (Int) := (version_CompareKubeAwareVersionStrings.f k a0 a1).bind fun t123 => (some t123)
theorem impl_KubeCompare.mono : ∀ a0 a1 k, LeO (impl_KubeCompare.f k a0 a1) (impl_KubeCompare.f (k + 1) a0 a1) := by
  intro a0 a1 k
  unfold impl_KubeCompare.f
  repeat' first
      | (with_reducible exact version_CompareKubeAwareVersionStrings.mono _ _ _)
      | (with_reducible exact LeO.refl _)
      | (with_reducible exact LeO.none _)
      | (with_reducible refine LeO.ite ?_ ?_)
      | (with_reducible refine LeO.bind ?_ (fun _ => ?_))
      | exact version_CompareKubeAwareVersionStrings.mono _ _ _
      | exact LeO.none _
      | refine LeO.ite ?_ ?_
      | refine LeO.bind ?_ (fun _ => ?_)
set_option maxHeartbeats 8000000 in
set_option maxRecDepth 100000 in
theorem impl_KubeCompare.calls (k : Nat) (a0 : ByteArray) (a1 : ByteArray) (r : Int) (w : World) (h : impl_KubeCompare.f k a0 a1 = some r) (hV : Vars.Vars w := by first | assumption | exact Vars.Vars.below hV (by repeat (first | exact HB.out | exact HB | exact Below.refl _ _ | apply below_alloc | apply pw_below_drewN | apply below_drew1))) :
    Calls Tryd.prog 15 #[.string a0, .string a1] w fun e w' => e = .returned (.int .i64 r) ∧ Below w.heap.size w w' := by
  have HB := Aside0.mk (Below.refl w.heap.size w)
  have H : ((version_CompareKubeAwareVersionStrings.f k a0 a1).bind fun t123 => (some t123)) = some r := h
  clear h
  replace H := Option.bind_eq_some_iff.mp H
  obtain ⟨t123, A30, H⟩ := H
  replace H : (some t123) = some r := H
  have A3 := Aside0.mk A30
  clear A30
  obtain rfl := Option.some.inj H
  go_enter Tryd.func15, Tryd.ntmps15
  go_wp2_with (first | ((with_reducible refine gate_callee (f := 21) rfl ?_); refine goesL_ (some 7) rfl rfl Tryd.func21 (by kernel_rfl) rfl #[.string a0, .string a1] rfl (by (try simp only [List.map_toArray, List.map_cons, List.map_nil]); first | done | rfl | (simp only [List.length_drop, List.length_take]; rfl)) ?_; (with_reducible refine (version_CompareKubeAwareVersionStrings.calls k a0 a1 t123 _ A3.out).mono ?_); rintro e w4 ⟨rfl, hb⟩; refine ⟨_, rfl, ?_⟩; have n0_ := Aside0.mk (below_step (by repeat (first | (with_reducible first | exact HB.out | apply below_alloc | apply pw_below_drewN | apply below_drew1) | exact HB.out)) hb); clear HB; have HB := n0_; clear n0_; (try clear hb); (try clear hb2); (try clear hk); (try clear hi)))
  go_ret
  exact ⟨by first | rfl | (simp [errW_none, errW_some] <;> rfl) | (simp [*, errW_none, errW_some] <;> rfl), by repeat (first | (with_reducible first | exact HB.out | apply below_alloc | apply pw_below_drewN | apply below_drew1) | exact HB.out)⟩

-- NOT PRINTED: function 5 (laws_FnKubeMade)

end Go.Proofs.YtmkpkpkcoieeiaaDoor.XFnKubeMade
