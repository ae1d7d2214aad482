/- A selector asked: which value it requires, what it matches, whether it is empty. -/
import Derived.Test.YtccdnmachpepcaaDoorFsD
import Derived.Test.YtccdnmachpepcaaDoorFsL
import Derived.Deep.RegionWith
import Derived.Test.YtccdnmachpepcaaDoorFsH
set_option linter.unusedSimpArgs false
set_option linter.unusedVariables false
namespace Go.Proofs.YtccdnmachpepcaaDoor.FsE
open Go Go.RowKit Go.Maps Go.Proofs.YtccdnmachpepcaaDoor.FsK Go.Proofs.YtccdnmachpepcaaDoor.FsS Go.Proofs.YtccdnmachpepcaaDoor.FsM Go.Proofs.YtccdnmachpepcaaDoor.FsN Go.Proofs.YtccdnmachpepcaaDoor.FsL Go.Proofs.YtccdnmachpepcaaDoorW.PrintWords Go.Proofs.YtccdnmachpepcaaDoorW.PrintLast Go.Proofs.YtccdnmachpepcaaDoor.SetGen Go.Proofs.YtccdnmachpepcaaDoor.MapGen
theorem eqL {a b : ByteArray} (h : a.toList = b.toList) : a = b := ByteArray.ext (Array.ext' (by rwa [ByteArray.toList_eq, ByteArray.toList_eq] at h))
/-- The value that terms ask of a field. -/
def exactL : List Tm → ByteArray → Option ByteArray
  | [], _ => none
  | t :: l, k => if t.neg = false ∧ t.f = k then some t.v else exactL l k
theorem exactL_snoc (l : List Tm) (t : Tm) (k : ByteArray) (h : exactL l k = none) : exactL (l ++ [t]) k = if t.neg = false ∧ t.f = k then some t.v else none := by
  induction l with
  | nil => rfl
  | cons x l ih =>
    rw [List.cons_append]
    unfold exactL at h ⊢
    split at h
    · cases h
    · rename_i hn
      rw [if_neg hn]
      exact ih h
theorem exactL_mid (l r : List Tm) (t : Tm) (k : ByteArray) (h : exactL l k = none) (hn : t.neg = false) (hf : t.f = k) : exactL (l ++ t :: r) k = some t.v := by
  induction l with
  | nil => show (if _ then _ else _) = _; rw [if_pos ⟨hn, hf⟩]
  | cons x l ih =>
    rw [List.cons_append]
    unfold exactL at h ⊢
    split at h
    · cases h
    · rename_i hx
      rw [if_neg hx]
      exact ih h
/-- Whether fields match a term, terms. -/
def mt1 (f : ByteArray → Option ByteArray) (t : Tm) : Bool := decide ((f t.f).getD E0 = t.v) != t.neg
def mtL (f : ByteArray → Option ByteArray) (l : List Tm) : Bool := l.all (mt1 f)
theorem na_has_RequiresExactMatch (p : Option Addr) (w : World) : Sem.run Tryd.prog (nilAhead 266 83 (.pointer p) "RequiresExactMatch") w = .ok (some false) w := by kernel_rfl
theorem me_has_RequiresExactMatch (p : Option Addr) (w : World) : Sem.run Tryd.prog (method 266 83 (.pointer p) "RequiresExactMatch") w = .ok (107, .pointer p) w := by kernel_rfl
theorem na_has_Matches (p : Option Addr) (w : World) : Sem.run Tryd.prog (nilAhead 266 83 (.pointer p) "Matches") w = .ok (some false) w := by kernel_rfl
theorem me_has_Matches (p : Option Addr) (w : World) : Sem.run Tryd.prog (method 266 83 (.pointer p) "Matches") w = .ok (105, .pointer p) w := by kernel_rfl
theorem na_not_RequiresExactMatch (p : Option Addr) (w : World) : Sem.run Tryd.prog (nilAhead 266 80 (.pointer p) "RequiresExactMatch") w = .ok (some false) w := by kernel_rfl
theorem me_not_RequiresExactMatch (p : Option Addr) (w : World) : Sem.run Tryd.prog (method 266 80 (.pointer p) "RequiresExactMatch") w = .ok (98, .pointer p) w := by kernel_rfl
theorem na_not_Matches (p : Option Addr) (w : World) : Sem.run Tryd.prog (nilAhead 266 80 (.pointer p) "Matches") w = .ok (some false) w := by kernel_rfl
theorem me_not_Matches (p : Option Addr) (w : World) : Sem.run Tryd.prog (method 266 80 (.pointer p) "Matches") w = .ok (96, .pointer p) w := by kernel_rfl
theorem na_get (b : Option Nat) (w : World) : Sem.run Tryd.prog (nilAhead 266 59 (.map b) "Get") w = .ok (some false) w := by kernel_rfl
theorem me_get (b : Option Nat) (w : World) : Sem.run Tryd.prog (method 266 59 (.map b) "Get") w = .ok (122, .map b) w := by kernel_rfl
set_option maxHeartbeats 2000000 in
set_option maxRecDepth 100000 in
theorem ex_has (b : Nat) (f v k : ByteArray) (w : World) (h : At w b ⟨false, f, v⟩) :
    Calls Tryd.prog 107 #[.pointer (some ⟨b, 0, none⟩), .string k] w fun e w' => e = .returned (.tuple #[.string (if f = k then v else ⟨#[]⟩), .bool (decide (f = k))]) ∧ w' = w := by
  obtain ⟨z0, z1⟩ := at_c h
  clear h
  by_cases hfk : f = k
  · subst hfk
    rw [if_pos rfl, decide_eq_true rfl]
    go_enter Tryd.func107, Tryd.ntmps107
    go_wp2_with fail
    go_ret2
    exact ⟨rfl, rfl⟩
  · rw [if_neg hfk, decide_eq_false hfk]
    have e1 : (f.toList == k.toList) = false := beq_eq_false_iff_ne.mpr (fun e => hfk (eqL e))
    replace hfk := Aside0.mk hfk
    go_enter Tryd.func107, Tryd.ntmps107
    go_wp2_with fail
    go_ret2
    exact ⟨rfl, rfl⟩
theorem ex_not (b : Nat) (k : ByteArray) (w : World) :
    Calls Tryd.prog 98 #[.pointer (some ⟨b, 0, none⟩), .string k] w fun e w' => e = .returned (.tuple #[.string ⟨#[]⟩, .bool false]) ∧ w' = w := by
  go_enter Tryd.func98, Tryd.ntmps98
  go_wp2_with fail
  go_ret2
  exact ⟨rfl, rfl⟩
/-- What RequiresExactMatch tells. -/
def Ex (r : Option ByteArray) (e : Ending) : Prop := e = .returned (.tuple #[.string (r.getD ⟨#[]⟩), .bool r.isSome])
set_option maxHeartbeats 4000000 in
set_option maxRecDepth 100000 in
theorem ex_and (A : Option Addr) (l : List Tm) (c : Nat) (hl : l.length ≤ 4398046511104) (k : ByteArray) (w : World) (hA : A ≠ none ∨ c = 0) (hC : ksel.C w A l.length l) :
    Calls Tryd.prog 114 #[.slice A l.length c, .string k] w fun e w' => Ex (exactL l k) e ∧ Below w.heap.size w w' := by
  have hq := fun (W : World) => Lib.run_eql_slice_nil (P := Tryd.prog) W 86 52 A l.length c 0 0 Tryd.underlying86
  have hX := Aside0.mk (Below.refl w.heap.size w)
  have hlx := Aside0.mk hl
  by_cases h0 : l.length = 0
  · have e0 : ((l.length : Int) == 0) = true := by rw [h0]; rfl
    have hn := Aside0.mk (show exactL l k = none by rw [List.eq_nil_of_length_eq_zero h0]; rfl)
    replace h0 := Aside0.mk h0
    clear hC hA hl
    cases A with
    | none =>
      go_enter Tryd.func114, Tryd.ntmps114
      go_wp2_with fail
      go_ret2
      exact ⟨by rw [hn.out]; rfl, hX.out⟩
    | some ad =>
      go_enter Tryd.func114, Tryd.ntmps114
      go_wp2_with fail
      go_ret2
      exact ⟨by rw [hn.out]; rfl, hX.out⟩
  · have e0 : ((l.length : Int) == 0) = false := beq_eq_false_iff_ne.mpr (by omega)
    obtain ⟨ad, rfl⟩ : ∃ ad, A = some ad := by obtain ⟨ad, _, h, _⟩ := sel_at hC (k := 0) (by omega); exact ⟨ad, h⟩
    replace hC := Aside0.mk hC
    replace h0 := Aside0.mk h0
    clear hA hl
    go_enter Tryd.func114, Tryd.ntmps114
    go_wp2_with fail
    go_loopw [18] (fun i wr => ∃ (j : Nat), j ≤ l.length ∧ i = .int .i64 (j : Int) ∧ Aside0 (exactL (l.take j) k = none) ∧ Aside0 (wr = w)) (fun i _ => l.length - (intOf i).toNat)
    case atStart => exact ⟨0, by omega, rfl, ⟨rfl⟩, ⟨rfl⟩⟩
    case round =>
      obtain ⟨j, hj, rfl, hE, hW⟩ := hrel
      obtain rfl := hW.out
      clear hW hq
      by_cases hlt : j < l.length
      · obtain ⟨ad2, b, he2, hcell, hat⟩ := sel_at hC.out hlt
        obtain rfl : ad = ad2 := by injection he2
        have hts : l.take (j + 1) = l.take j ++ [l[j]] := by rw [List.take_succ_eq_append_getElem hlt]
        have hsp : l = l.take j ++ l[j] :: l.drop (j + 1) := by rw [← List.drop_eq_getElem_cons hlt, List.take_append_drop]
        have hsn := exactL_snoc (l.take j) l[j] k hE.out
        have hmid := exactL_mid (l.take j) (l.drop (j + 1)) l[j] k hE.out
        rw [← hts] at hsn
        rw [← hsp] at hmid
        obtain ⟨t, ht⟩ : ∃ t, l[j] = t := ⟨_, rfl⟩
        rw [ht] at hcell hat hsn hmid
        clear hts hsp ht he2 hE
        obtain ⟨ng, f, v⟩ := t
        have hk2 := Aside0.mk (show j + 1 ≤ l.length by omega)
        have q0 : (0 : Int) ≤ (j : Int) := Int.natCast_nonneg j
        have q1 : (j : Int) < (l.length : Int) := by omega
        have q2 : (j : Int) ≤ 4398046511104 := by have := hlx.out; omega
        rcases ng with _ | _
        · replace hcell : wr.cell? (ad.add j) = some (.iface 83 (.pointer (some ⟨b, 0, none⟩))) := hcell
          have a1 := na_has_RequiresExactMatch
          have a2 := me_has_RequiresExactMatch
          have hc := ex_has b f v k wr hat
          by_cases hfk : f = k
          · rw [if_pos hfk, decide_eq_true hfk] at hc
            have hm := Aside0.mk (hmid rfl hfk)
            replace hc := Aside0.mk hc
            replace hfk := Aside0.mk hfk
            clear hmid hsn hat
            go_wp2_with fail
            refine hc.out.mono ?_
            rintro e w6 ⟨rfl, rfl⟩
            go_wp2_with fail
            go_ret2
            exact ⟨by rw [hm.out]; rfl, hX.out⟩
          · rw [if_neg hfk, decide_eq_false hfk] at hc
            rw [if_neg (fun q => hfk q.2)] at hsn
            replace hsn := Aside0.mk hsn
            replace hc := Aside0.mk hc
            replace hfk := Aside0.mk hfk
            clear hmid hat
            go_wp2_with fail
            refine hc.out.mono ?_
            rintro e w6 ⟨rfl, rfl⟩
            go_wp2_with fail
            go_roundw
            case rel => exact ⟨j + 1, hk2.out, by go_num, hsn, ⟨by first | rfl | trivial⟩⟩
            case measure => simp [intOf]; omega
        · replace hcell : wr.cell? (ad.add j) = some (.iface 80 (.pointer (some ⟨b, 0, none⟩))) := hcell
          have a1 := na_not_RequiresExactMatch
          have a2 := me_not_RequiresExactMatch
          have hc := ex_not b k wr
          rw [if_neg (fun q => nomatch q.1)] at hsn
          replace hsn := Aside0.mk hsn
          replace hc := Aside0.mk hc
          clear hmid hat
          go_wp2_with fail
          refine hc.out.mono ?_
          rintro e w6 ⟨rfl, rfl⟩
          go_wp2_with fail
          go_roundw
          case rel => exact ⟨j + 1, hk2.out, by go_num, hsn, ⟨by first | rfl | trivial⟩⟩
          case measure => simp [intOf]; omega
      · obtain rfl : j = l.length := by omega
        rw [List.take_length] at hE
        go_wp2_with fail
        go_ret2
        exact ⟨by rw [hE.out]; rfl, hX.out⟩
set_option maxHeartbeats 4000000 in
set_option maxRecDepth 100000 in
theorem mt_has (b : Nat) (fd v : ByteArray) (hfd : fd.size ≤ maxLen) (mb N : Nat) (f : ByteArray → Option ByteArray) (w : World) (h : At w b ⟨false, fd, v⟩) (hM : M w mb N f) :
    Calls Tryd.prog 105 #[.pointer (some ⟨b, 0, none⟩), .iface 59 (.map (some mb))] w fun e w' => e = .returned (.bool (mt1 f ⟨false, fd, v⟩)) ∧ Below w.heap.size w w' := by
  obtain ⟨z0, z1⟩ := at_c h
  have hq := fun W (hb : Below w.heap.size w W) => get_calls mb N f fd hfd W (M_below hM hb)
  obtain ⟨u, hu⟩ : ∃ u, (f fd).getD E0 = u := ⟨_, rfl⟩
  have hr : mt1 f ⟨false, fd, v⟩ = decide (u = v) := by unfold mt1; simp only; rw [hu]; simp
  rw [hu] at hq
  rw [hr]
  obtain ⟨rb, hrb⟩ : ∃ rb, decide (u = v) = rb := ⟨_, rfl⟩
  have e1 : (u.toList == v.toList) = rb := by
    rw [← hrb]
    by_cases e : u = v
    · rw [e, decide_eq_true rfl]; exact beq_self_eq_true _
    · rw [decide_eq_false e]; exact beq_eq_false_iff_ne.mpr (fun q => e (eqL q))
  have e2 : (u.toList != v.toList) = !rb := by rw [bne, e1]
  rw [hrb]
  replace hq := Aside0.mk hq
  have hX := Aside0.mk (Below.refl w.heap.size w)
  have a1 := na_get
  have a2 := me_get
  clear hM h hu hr hrb
  go_enter Tryd.func105, Tryd.ntmps105
  go_wp2_with fail
  go_region_with (go_at_call 122; refine (hq.out _ ?_).mono ?_; (first | exact hX.out | exact below_drew hX.out | exact pw_below_drewN hX.out _); rintro e w6 ⟨rfl, rfl⟩)
  all_goals (go_wp2_with fail)
  all_goals
    go_ret
    exact ⟨rfl, by first | exact hX.out | exact below_drew hX.out | exact pw_below_drewN hX.out _⟩
set_option maxHeartbeats 4000000 in
set_option maxRecDepth 100000 in
theorem mt_not (b : Nat) (fd v : ByteArray) (hfd : fd.size ≤ maxLen) (mb N : Nat) (f : ByteArray → Option ByteArray) (w : World) (h : At w b ⟨true, fd, v⟩) (hM : M w mb N f) :
    Calls Tryd.prog 96 #[.pointer (some ⟨b, 0, none⟩), .iface 59 (.map (some mb))] w fun e w' => e = .returned (.bool (mt1 f ⟨true, fd, v⟩)) ∧ Below w.heap.size w w' := by
  obtain ⟨z0, z1⟩ := at_c h
  have hq := fun W (hb : Below w.heap.size w W) => get_calls mb N f fd hfd W (M_below hM hb)
  obtain ⟨u, hu⟩ : ∃ u, (f fd).getD E0 = u := ⟨_, rfl⟩
  have hr : mt1 f ⟨true, fd, v⟩ = !decide (u = v) := by unfold mt1; simp only; rw [hu]; simp
  rw [hu] at hq
  rw [hr]
  obtain ⟨rb, hrb⟩ : ∃ rb, decide (u = v) = rb := ⟨_, rfl⟩
  have e1 : (u.toList == v.toList) = rb := by
    rw [← hrb]
    by_cases e : u = v
    · rw [e, decide_eq_true rfl]; exact beq_self_eq_true _
    · rw [decide_eq_false e]; exact beq_eq_false_iff_ne.mpr (fun q => e (eqL q))
  have e2 : (u.toList != v.toList) = !rb := by rw [bne, e1]
  rw [hrb]
  replace hq := Aside0.mk hq
  have hX := Aside0.mk (Below.refl w.heap.size w)
  have a1 := na_get
  have a2 := me_get
  clear hM h hu hr hrb
  go_enter Tryd.func96, Tryd.ntmps96
  go_wp2_with fail
  go_region_with (go_at_call 122; refine (hq.out _ ?_).mono ?_; (first | exact hX.out | exact below_drew hX.out | exact pw_below_drewN hX.out _); rintro e w6 ⟨rfl, rfl⟩)
  all_goals (go_wp2_with fail)
  all_goals
    go_ret
    exact ⟨rfl, by first | exact hX.out | exact below_drew hX.out | exact pw_below_drewN hX.out _⟩
end Go.Proofs.YtccdnmachpepcaaDoor.FsE

set_option linter.unusedSimpArgs false
set_option linter.unusedVariables false
namespace Go.Proofs.YtccdnmachpepcaaDoor.FsG
open Go Go.RowKit Go.Maps Go.Proofs.YtccdnmachpepcaaDoor.FuM Go.Proofs.YtccdnmachpepcaaDoor.FsP Go.Proofs.YtccdnmachpepcaaDoor.FsK Go.Proofs.YtccdnmachpepcaaDoor.FsS Go.Proofs.YtccdnmachpepcaaDoor.FsM Go.Proofs.YtccdnmachpepcaaDoor.FsN Go.Proofs.YtccdnmachpepcaaDoor.FsL Go.Proofs.YtccdnmachpepcaaDoor.FsE Go.Proofs.YtccdnmachpepcaaDoor.FsQ Go.Proofs.YtccdnmachpepcaaDoor.FsR Go.Proofs.YtccdnmachpepcaaDoorW.PrintWords Go.Proofs.YtccdnmachpepcaaDoorW.PrintLast Go.Proofs.YtccdnmachpepcaaDoor.SetGen Go.Proofs.YtccdnmachpepcaaDoor.MapGen
theorem mtL_snoc (f : ByteArray → Option ByteArray) (l : List Tm) (t : Tm) : mtL f (l ++ [t]) = (mtL f l && mt1 f t) := by unfold mtL; simp
theorem mtL_false (f : ByteArray → Option ByteArray) (l : List Tm) (t : Tm) (ht : t ∈ l) (h : mt1 f t = false) : mtL f l = false := by
  unfold mtL
  rw [List.all_eq_false]
  exact ⟨t, ht, by rw [h]; decide⟩
theorem R_all {w : World} {base : Nat} {ok : Nat → Prop} {u : Value} {l : List Tm} (h : SR w base ok u l) : ∃ A c, u = .slice A l.length c ∧ (A ≠ none ∨ c = 0) ∧ ksel.C w A l.length l := by
  obtain ⟨A, c, rfl, hl, hC⟩ := Kd.R_reads h
  refine ⟨A, c, rfl, ?_, hC⟩
  obtain ⟨inner, ho⟩ := Kd.R_own h
  rcases ho.2 with ⟨hv, _⟩ | ⟨g, cap, cur, hv, _⟩
  · injection hv with e1 e2 e3; exact .inr e3
  · injection hv with e1 e2 e3; exact .inl (by rw [e1]; simp)
set_option maxHeartbeats 4000000 in
set_option maxRecDepth 100000 in
theorem empty_and (A : Option Addr) (l : List Tm) (c : Nat) (hl : l.length ≤ 4398046511104) (w : World) (hA : A ≠ none ∨ c = 0) (hC : ksel.C w A l.length l) :
    Calls Tryd.prog 111 #[.slice A l.length c] w fun e w' => e = .returned (.bool (decide (l.length = 0))) ∧ w' = w := by
  by_cases h0 : l.length = 0
  · rw [decide_eq_true h0, h0]
    exact empty_and_nil A c hA w
  · rw [decide_eq_false h0]
    have e0 : ((l.length : Int) == 0) = false := beq_eq_false_iff_ne.mpr (by omega)
    obtain ⟨ad, b, rfl, hcell, hat⟩ := sel_at hC (k := 0) (by omega)
    have hq := fun (W : World) => Lib.run_eql_slice_nil (P := Tryd.prog) W 86 52 (some ad) l.length c 0 0 Tryd.underlying86
    obtain ⟨t, ht⟩ : ∃ t, l[0] = t := ⟨_, rfl⟩
    rw [ht, show ad.add 0 = ad from by cases ad; simp [Addr.add]] at hcell
    have q3 : (0 : Int) < (l.length : Int) := by omega
    clear hat hA hC ht
    replace h0 := Aside0.mk h0
    have hlx := Aside0.mk hl
    clear hl
    go_enter Tryd.func111, Tryd.ntmps111
    go_wp2_with fail
    go_loopw [11] (fun i wr => i = .int .i64 0 ∧ Aside0 (wr = w)) (fun i _ => 1)
    case atStart => exact ⟨rfl, ⟨rfl⟩⟩
    case round =>
      obtain ⟨rfl, hW⟩ := hrel
      obtain rfl := hW.out
      clear hW hq
      obtain ⟨ng, f, v⟩ := t
      have q0 : ((0 : Int)) = ((0 : Nat) : Int) := rfl
      rcases ng with _ | _
      · replace hcell : wr.cell? ad = some (.iface 83 (.pointer (some ⟨b, 0, none⟩))) := hcell
        have a1 := na_has_Empty
        have a2 := me_has_Empty
        have hc := Aside0.mk (empty_has b wr)
        clear q0
        go_wp2_with fail
        refine hc.out.mono ?_
        rintro e w6 ⟨rfl, rfl⟩
        go_wp2_with fail
        go_ret
        exact ⟨rfl, rfl⟩
      · replace hcell : wr.cell? ad = some (.iface 80 (.pointer (some ⟨b, 0, none⟩))) := hcell
        have a1 := na_not_Empty
        have a2 := me_not_Empty
        have hc := Aside0.mk (empty_not b wr)
        clear q0
        go_wp2_with fail
        refine hc.out.mono ?_
        rintro e w6 ⟨rfl, rfl⟩
        go_wp2_with fail
        go_ret
        exact ⟨rfl, rfl⟩
set_option maxHeartbeats 4000000 in
set_option maxRecDepth 100000 in
theorem mt_and (A : Option Addr) (l : List Tm) (c : Nat) (hl : l.length ≤ 4398046511104) (hls : ∀ t ∈ l, t.f.size ≤ maxLen) (mb N : Nat) (f : ByteArray → Option ByteArray) (w : World) (hC : ksel.C w A l.length l) (hM : M w mb N f) :
    Calls Tryd.prog 112 #[.slice A l.length c, .iface 59 (.map (some mb))] w fun e w' => e = .returned (.bool (mtL f l)) ∧ Below w.heap.size w w' := by
  have hX := Aside0.mk (Below.refl w.heap.size w)
  have hlx := Aside0.mk hl
  have hlsx := Aside0.mk hls
  have hCx := Aside0.mk hC
  have hMx := Aside0.mk hM
  obtain ⟨rr, hrr⟩ : ∃ rr, mtL f l = rr := ⟨_, rfl⟩
  rw [hrr]
  replace hrr := Aside0.mk hrr
  clear hl hC hls hM
  go_enter Tryd.func112, Tryd.ntmps112
  go_wp2_with fail
  go_loopw [9] (fun i wr => ∃ (j : Nat), j ≤ l.length ∧ i = .int .i64 (j : Int) ∧ Aside0 (mtL f (l.take j) = true) ∧ Aside0 (Below w.heap.size w wr)) (fun i _ => l.length - (intOf i).toNat)
  case atStart => exact ⟨0, by omega, rfl, ⟨rfl⟩, hX⟩
  case round =>
    obtain ⟨j, hj, rfl, hE, hW⟩ := hrel
    by_cases hlt : j < l.length
    · obtain ⟨ad, b, rfl, hcell, hat⟩ := sel_at (Kd.C_below hCx.out hW.out) hlt
      have hts : l.take (j + 1) = l.take j ++ [l[j]] := by rw [List.take_succ_eq_append_getElem hlt]
      have hsn := mtL_snoc f (l.take j) l[j]
      have hno := mtL_false f l l[j] (List.getElem_mem _)
      have hsz := hlsx.out l[j] (List.getElem_mem _)
      rw [← hts, hE.out] at hsn
      obtain ⟨t, ht⟩ : ∃ t, l[j] = t := ⟨_, rfl⟩
      rw [ht] at hcell hat hsn hno hsz
      clear hts ht hE
      obtain ⟨ng, fd, v⟩ := t
      have hk2 := Aside0.mk (show j + 1 ≤ l.length by omega)
      have q0 : (0 : Int) ≤ (j : Int) := Int.natCast_nonneg j
      have q1 : (j : Int) < (l.length : Int) := by omega
      have q2 : (j : Int) ≤ 4398046511104 := by have := hlx.out; omega
      rcases ng with _ | _
      · replace hcell : wr.cell? (ad.add j) = some (.iface 83 (.pointer (some ⟨b, 0, none⟩))) := hcell
        have a1 := na_has_Matches
        have a2 := me_has_Matches
        have hc := mt_has b fd v hsz mb N f wr hat (M_below hMx.out hW.out)
        cases hm : mt1 f ⟨false, fd, v⟩ with
        | true =>
          rw [hm] at hsn hc
          have hsn2 := Aside0.mk hsn
          replace hc := Aside0.mk hc
          clear hsn hno hm hat hsz
          go_wp2_with fail
          refine hc.out.mono ?_
          rintro e w6 ⟨rfl, hb⟩
          replace hW := Aside0.mk (below_via hW.out hb)
          clear hb hc
          go_wp2_with fail
          go_roundw
          case rel => exact ⟨j + 1, hk2.out, by go_num, hsn2, hW⟩
          case measure => simp [intOf]; omega
        | false =>
          rw [hm] at hc
          have hno2 := Aside0.mk ((hno hm).symm.trans hrr.out)
          replace hc := Aside0.mk hc
          clear hsn hno hm hat hsz
          go_wp2_with fail
          refine hc.out.mono ?_
          rintro e w6 ⟨rfl, hb⟩
          replace hW := Aside0.mk (below_via hW.out hb)
          clear hb hc
          go_wp2_with fail
          go_ret
          exact ⟨by rw [← hno2.out]; rfl, hW.out⟩
      · replace hcell : wr.cell? (ad.add j) = some (.iface 80 (.pointer (some ⟨b, 0, none⟩))) := hcell
        have a1 := na_not_Matches
        have a2 := me_not_Matches
        have hc := mt_not b fd v hsz mb N f wr hat (M_below hMx.out hW.out)
        cases hm : mt1 f ⟨true, fd, v⟩ with
        | true =>
          rw [hm] at hsn hc
          have hsn2 := Aside0.mk hsn
          replace hc := Aside0.mk hc
          clear hsn hno hm hat hsz
          go_wp2_with fail
          refine hc.out.mono ?_
          rintro e w6 ⟨rfl, hb⟩
          replace hW := Aside0.mk (below_via hW.out hb)
          clear hb hc
          go_wp2_with fail
          go_roundw
          case rel => exact ⟨j + 1, hk2.out, by go_num, hsn2, hW⟩
          case measure => simp [intOf]; omega
        | false =>
          rw [hm] at hc
          have hno2 := Aside0.mk ((hno hm).symm.trans hrr.out)
          replace hc := Aside0.mk hc
          clear hsn hno hm hat hsz
          go_wp2_with fail
          refine hc.out.mono ?_
          rintro e w6 ⟨rfl, hb⟩
          replace hW := Aside0.mk (below_via hW.out hb)
          clear hb hc
          go_wp2_with fail
          go_ret
          exact ⟨by rw [← hno2.out]; rfl, hW.out⟩
    · obtain rfl : j = l.length := by omega
      rw [List.take_length] at hE
      have hno2 := Aside0.mk (hE.out.symm.trans hrr.out)
      go_wp2_with fail
      go_ret
      exact ⟨by rw [← hno2.out]; rfl, hW.out⟩
end Go.Proofs.YtccdnmachpepcaaDoor.FsG

set_option linter.unusedSimpArgs false
set_option linter.unusedVariables false
namespace Go.Proofs.YtccdnmachpepcaaDoor.FsX
open Go Go.RowKit Go.Maps Go.Proofs.YtccdnmachpepcaaDoor.FuM Go.Proofs.YtccdnmachpepcaaDoor.FsP Go.Proofs.YtccdnmachpepcaaDoor.FsK Go.Proofs.YtccdnmachpepcaaDoor.FsS Go.Proofs.YtccdnmachpepcaaDoor.FsC Go.Proofs.YtccdnmachpepcaaDoor.FsM Go.Proofs.YtccdnmachpepcaaDoor.FsN Go.Proofs.YtccdnmachpepcaaDoor.FsL Go.Proofs.YtccdnmachpepcaaDoor.FsE Go.Proofs.YtccdnmachpepcaaDoor.FsO Go.Proofs.YtccdnmachpepcaaDoor.FsQ Go.Proofs.YtccdnmachpepcaaDoor.FsR Go.Proofs.YtccdnmachpepcaaDoor.FsG Go.Proofs.YtccdnmachpepcaaDoorW.PrintWords Go.Proofs.YtccdnmachpepcaaDoorW.PrintLast Go.Proofs.YtccdnmachpepcaaDoor.SetGen Go.Proofs.YtccdnmachpepcaaDoor.MapGen
theorem sel_cases {w : World} {base : Nat} {ok : Nat → Prop} {ts : List Tm} {v : Value} (h : kwrap.M w base ok ts [v]) :
    (∃ f x b, ts = [⟨false, f, x⟩] ∧ v = .iface 83 (.pointer (some ⟨b, 0, none⟩)) ∧ At w b ⟨false, f, x⟩) ∨
    (∃ f x b, ts = [⟨true, f, x⟩] ∧ v = .iface 80 (.pointer (some ⟨b, 0, none⟩)) ∧ At w b ⟨true, f, x⟩) ∨
    (∃ A c, v = .iface 86 (.slice A ts.length c) ∧ (A ≠ none ∨ c = 0) ∧ ksel.C w A ts.length ts) := by
  rcases h with ⟨⟨ng, f, x⟩, rfl, b, hc, _, _, hat⟩ | ⟨u, hc, hR⟩
  · injection hc with hc _
    cases ng with
    | false => exact .inl ⟨f, x, b, rfl, hc, hat⟩
    | true => exact .inr (.inl ⟨f, x, b, rfl, hc, hat⟩)
  · injection hc with hc _
    obtain ⟨A, c, rfl, hA, hC⟩ := R_all hR
    exact .inr (.inr ⟨A, c, hc, hA, hC⟩)
theorem na_and_ex (A : Option Addr) (n c : Nat) (w : World) : Sem.run Tryd.prog (nilAhead 266 86 (.slice A n c) "RequiresExactMatch") w = .ok (some false) w := by kernel_rfl
theorem me_and_ex (A : Option Addr) (n c : Nat) (w : World) : Sem.run Tryd.prog (method 266 86 (.slice A n c) "RequiresExactMatch") w = .ok (114, .slice A n c) w := by kernel_rfl
theorem na_and_mt (A : Option Addr) (n c : Nat) (w : World) : Sem.run Tryd.prog (nilAhead 266 86 (.slice A n c) "Matches") w = .ok (some false) w := by kernel_rfl
theorem me_and_mt (A : Option Addr) (n c : Nat) (w : World) : Sem.run Tryd.prog (method 266 86 (.slice A n c) "Matches") w = .ok (112, .slice A n c) w := by kernel_rfl
theorem cut_fst (s : ByteArray) : ∀ (n i : Nat), (cutFrom s n i).1.size ≤ s.size := by
  intro n
  induction n with
  | zero => intro i; exact Nat.zero_le _
  | succ n ih =>
    intro i
    unfold cutFrom
    cases FsC.opAt s i with
    | none => exact ih (i + 1)
    | some op => simp only; rw [ByteArray.size_extract]; omega
theorem rawT_mem (l : List ByteArray) : ∀ out, rawT l = some out → ∀ t ∈ out, ∃ p ∈ l, t.f = (cutFrom p p.size 0).1 := by
  induction l with
  | nil => intro out h; cases h; intro t ht; cases ht
  | cons q l ih =>
    intro out h t ht
    unfold rawT at h
    cases hq : termOf q with
    | none => rw [hq] at h; cases h
    | some t1 =>
      rw [hq] at h
      cases t1 with
      | none =>
        obtain ⟨p, hp, e⟩ := ih out h t ht
        exact ⟨p, List.mem_cons_of_mem _ hp, e⟩
      | some t1 =>
        simp only at h
        cases hr : rawT l with
        | none => rw [hr] at h; cases h
        | some x =>
          rw [hr] at h; cases h
          rcases List.mem_cons.1 ht with rfl | ht
          · refine ⟨q, by simp, ?_⟩
            unfold termOf at hq
            split at hq
            · cases hq
            · split at hq
              · split at hq
                · cases hq
                · cases hq; rfl
              · cases hq
          · obtain ⟨p, hp, e⟩ := ih x hr t ht
            exact ⟨p, List.mem_cons_of_mem _ hp, e⟩
theorem terms_size (s : ByteArray) (ts : List Tm) (h : termsOf s = some ts) : (∀ t ∈ ts, t.f.size ≤ s.size) ∧ ts.length ≤ s.size + 1 := by
  unfold termsOf at h
  cases hr : rawT (srt (pieces s)) with
  | none => rw [hr] at h; cases h
  | some out =>
    rw [hr] at h
    cases h
    refine ⟨fun t ht => ?_, ?_⟩
    · obtain ⟨p, hp, e⟩ := rawT_mem _ out hr t (List.mem_filter.1 ht).1
      rw [e]
      exact Nat.le_trans (cut_fst p _ _) (pieces_size s p ((srt_mem _ p).1 hp))
    · have h1 := rawT_length _ out hr
      rw [srt_length] at h1
      have h2 := pieces_length s
      have h3 := keep_length out
      omega
/-- What FieldExact tells. -/
def exR (r : Option (List Tm)) (k : ByteArray) : ByteArray × Bool × Bool := match r with
  | none => (⟨#[]⟩, false, true)
  | some ts => ((exactL ts k).getD ⟨#[]⟩, (exactL ts k).isSome, false)
set_option maxHeartbeats 4000000 in
set_option maxRecDepth 100000 in
theorem exact_calls (s k : ByteArray) (hs : s.size ≤ 1099511627776) (hpt : pt s = true) (w : World) :
    Calls Tryd.prog 8 #[.string s, .string k] w fun e w' => e = .returned (.tuple #[.string (exR (termsOf s) k).1, .bool (exR (termsOf s) k).2.1, .bool (exR (termsOf s) k).2.2]) ∧ Below w.heap.size w w' := by
  have h := sel_calls s hs hpt w
  have hts := terms_size s
  cases hr : termsOf s with
  | none =>
    rw [hr] at h
    replace h := Aside0.mk h
    clear hr hts
    show Calls _ _ _ _ fun e w' => e = .returned (.tuple #[.string ⟨#[]⟩, .bool false, .bool true]) ∧ _
    go_enter Tryd.func8, Tryd.ntmps8
    go_wp2_with fail
    refine h.out.mono ?_
    rintro e w1 ⟨⟨t, p, rfl⟩, hb⟩
    replace hb := Aside0.mk hb
    go_wp2_with fail
    refine bodyPost_ret (results_list (rs := [.tmp 4, .tmp 5, .tmp 6]) rfl (by simp) (.tmp (.tmp (.tmp .nil)))) rfl ?_
    exact ⟨rfl, hb.out⟩
  | some ts =>
    rw [hr] at h
    have hlen := (hts ts hr).2
    obtain ⟨rv, hrv⟩ : ∃ rv, exactL ts k = rv := ⟨_, rfl⟩
    show Calls _ _ _ _ fun e w' => e = .returned (.tuple #[.string ((exactL ts k).getD ⟨#[]⟩), .bool (exactL ts k).isSome, .bool false]) ∧ _
    rw [hrv]
    replace h := Aside0.mk h
    replace hrv := Aside0.mk hrv
    replace hlen := Aside0.mk hlen
    have hsx := Aside0.mk hs
    clear hr hts hs
    go_enter Tryd.func8, Tryd.ntmps8
    go_wp2_with fail
    refine h.out.mono ?_
    rintro e w1 ⟨⟨v, rfl, hM⟩, hb⟩
    replace hb := Aside0.mk hb
    rcases sel_cases hM with ⟨f, x, b, rfl, rfl, hat⟩ | ⟨f, x, b, rfl, rfl, hat⟩ | ⟨A, c, rfl, hA, hC⟩
    · have a1 := na_has_RequiresExactMatch
      have a2 := me_has_RequiresExactMatch
      have hc := ex_has b f x k w1 hat
      have hv : rv.getD ⟨#[]⟩ = (if f = k then x else ⟨#[]⟩) ∧ rv.isSome = decide (f = k) := by
        rw [← hrv.out]
        by_cases e : f = k <;> simp [exactL, e]
      obtain ⟨y, hy⟩ : ∃ y, (if f = k then x else ⟨#[]⟩) = y := ⟨_, rfl⟩
      obtain ⟨rb, hrb⟩ : ∃ rb, decide (f = k) = rb := ⟨_, rfl⟩
      rw [hy, hrb] at hc hv
      replace hc := Aside0.mk hc
      replace hv := Aside0.mk hv
      clear hM hat hy hrb
      go_wp2_with fail
      refine hc.out.mono ?_
      rintro e w2 ⟨rfl, rfl⟩
      go_wp2_with fail
      refine bodyPost_ret (results_list (rs := [.tmp 4, .tmp 5, .tmp 6]) rfl (by simp) (.tmp (.tmp (.tmp .nil)))) rfl ?_
      exact ⟨by rw [hv.out.1, hv.out.2]; rfl, hb.out⟩
    · have a1 := na_not_RequiresExactMatch
      have a2 := me_not_RequiresExactMatch
      have hc := ex_not b k w1
      have hv : rv = none := by
        rw [← hrv.out]
        simp [exactL]
      replace hc := Aside0.mk hc
      replace hv := Aside0.mk hv
      clear hM hat
      go_wp2_with fail
      refine hc.out.mono ?_
      rintro e w2 ⟨rfl, rfl⟩
      go_wp2_with fail
      refine bodyPost_ret (results_list (rs := [.tmp 4, .tmp 5, .tmp 6]) rfl (by simp) (.tmp (.tmp (.tmp .nil)))) rfl ?_
      exact ⟨by rw [hv.out]; rfl, hb.out⟩
    · have a1 := na_and_ex
      have a2 := me_and_ex
      have hc := ex_and A ts c (by have := hlen.out; have := hsx.out; omega) k w1 hA hC
      rw [hrv.out] at hc
      replace hc := Aside0.mk hc
      clear hM hA hC
      go_wp2_with fail
      refine hc.out.mono ?_
      rintro e w2 ⟨he, hb2⟩
      obtain rfl := he
      replace hb := Aside0.mk (below_via hb.out hb2)
      clear hb2
      go_wp2_with fail
      refine bodyPost_ret (results_list (rs := [.tmp 4, .tmp 5, .tmp 6]) rfl (by simp) (.tmp (.tmp (.tmp .nil)))) rfl ?_
      exact ⟨rfl, hb.out⟩
/-- What FieldMatch tells. -/
def mtR (r : Option (List Tm)) (f : ByteArray → Option ByteArray) : Bool × Bool × Bool := match r with
  | none => (false, false, true)
  | some ts => (mtL f ts, decide (ts.length = 0), false)
set_option maxHeartbeats 4000000 in
set_option maxRecDepth 100000 in
theorem match_calls (s : ByteArray) (hs : s.size ≤ 1099511627776) (hpt : pt s = true) (A : Option Addr) (l : List Pr) (c : Nat) (hl : l.length ≤ 4294967296) (hok : ∀ p ∈ l, p.f0.size ≤ maxLen ∧ p.f1.size ≤ maxLen) (w : World) (hC : kp.C w A l.length l) :
    Calls Tryd.prog 10 #[.string s, .slice A l.length c] w fun e w' => e = .returned (.tuple #[.bool (mtR (termsOf s) (fn l)).1, .bool (mtR (termsOf s) (fn l)).2.1, .bool (mtR (termsOf s) (fn l)).2.2]) ∧ Below w.heap.size w w' := by
  have h := sel_calls s hs hpt w
  have hts := terms_size s
  cases hr : termsOf s with
  | none =>
    rw [hr] at h
    replace h := Aside0.mk h
    clear hr hts hok hC hl
    show Calls _ _ _ _ fun e w' => e = .returned (.tuple #[.bool false, .bool false, .bool true]) ∧ _
    go_enter Tryd.func10, Tryd.ntmps10
    go_wp2_with fail
    refine h.out.mono ?_
    rintro e w1 ⟨⟨t, p, rfl⟩, hb⟩
    replace hb := Aside0.mk hb
    go_wp2_with fail
    refine bodyPost_ret (results_list (rs := [.tmp 4, .tmp 5, .tmp 6]) rfl (by simp) (.tmp (.tmp (.tmp .nil)))) rfl ?_
    exact ⟨rfl, hb.out⟩
  | some ts =>
    rw [hr] at h
    have hlen := (hts ts hr).2
    have hsz : ∀ t ∈ ts, t.f.size ≤ maxLen := fun t ht => by have := (hts ts hr).1 t ht; unfold maxLen; omega
    obtain ⟨rv, hrv⟩ : ∃ rv, mtL (fn l) ts = rv := ⟨_, rfl⟩
    show Calls _ _ _ _ fun e w' => e = .returned (.tuple #[.bool (mtL (fn l) ts), .bool (decide (ts.length = 0)), .bool false]) ∧ _
    rw [hrv]
    have hfs := fun W (hb : Below w.heap.size w W) => fieldSet_calls A l c W (Kd.C_below hC hb) hl hok
    replace h := Aside0.mk h
    replace hrv := Aside0.mk hrv
    replace hlen := Aside0.mk hlen
    replace hsz := Aside0.mk hsz
    replace hfs := Aside0.mk hfs
    have hsx := Aside0.mk hs
    clear hr hts hs hC hok hl
    go_enter Tryd.func10, Tryd.ntmps10
    go_wp2_with fail
    refine h.out.mono ?_
    rintro e w1 ⟨⟨v, rfl, hM⟩, hb⟩
    replace hb := Aside0.mk hb
    rcases sel_cases hM with ⟨f, x, b, rfl, rfl, hat⟩ | ⟨f, x, b, rfl, rfl, hat⟩ | ⟨A2, c2, rfl, hA, hC2⟩
    · have a1 := na_has_Matches
      have a2 := me_has_Matches
      have a3 := na_has_Empty
      have a4 := me_has_Empty
      have hv : mt1 (fn l) ⟨false, f, x⟩ = rv := by
        rw [← hrv.out]
        simp [mtL]
      have hf := hsz.out _ (List.mem_singleton.2 rfl)
      replace hv := Aside0.mk hv
      replace hat := Aside0.mk hat
      replace hf := Aside0.mk hf
      clear hM
      go_wp2_with fail
      go_region_with (first
        | (go_at_call 20; go_loud (refine (hfs.out _ (by first | exact below_drew hb.out | exact hb.out | exact pw_below_drewN hb.out _)).mono ?_); rintro e w2 ⟨rfl, hMp, hb2⟩; have hat2 : Aside0 (At w2 b ⟨false, f, x⟩) := ⟨by first | exact at_below (show At w1.drew b _ from hat.out) hb2 | exact at_below hat.out hb2⟩; have hMp2 := Aside0.mk hMp; have hbb : Aside0 (Below w.heap.size w w2) := ⟨by first | exact below_via (below_drew hb.out) hb2 | exact below_via hb.out hb2⟩; clear hMp hb2)
        | (go_at_call 105; refine (mt_has b f x hf.out _ _ (fn l) _ hat2.out hMp2.out).mono ?_; rw [hv.out]; rintro e w3 ⟨rfl, hb3⟩; have hbc := Aside0.mk (below_via hbb.out hb3); clear hb3)
        | (go_at_call 104; refine (empty_has b _).mono ?_; rintro e w4 ⟨rfl, rfl⟩))
      all_goals (go_wp2_with fail)
      all_goals
        refine bodyPost_ret (results_list (rs := [.tmp 4, .tmp 5, .tmp 6]) rfl (by simp) (.tmp (.tmp (.tmp .nil)))) rfl ?_
        exact ⟨rfl, hbc.out⟩
    · have a1 := na_not_Matches
      have a2 := me_not_Matches
      have a3 := na_not_Empty
      have a4 := me_not_Empty
      have hv : mt1 (fn l) ⟨true, f, x⟩ = rv := by
        rw [← hrv.out]
        simp [mtL]
      have hf := hsz.out _ (List.mem_singleton.2 rfl)
      replace hv := Aside0.mk hv
      replace hat := Aside0.mk hat
      replace hf := Aside0.mk hf
      clear hM
      go_wp2_with fail
      go_region_with (first
        | (go_at_call 20; go_loud (refine (hfs.out _ (by first | exact below_drew hb.out | exact hb.out | exact pw_below_drewN hb.out _)).mono ?_); rintro e w2 ⟨rfl, hMp, hb2⟩; have hat2 : Aside0 (At w2 b ⟨true, f, x⟩) := ⟨by first | exact at_below (show At w1.drew b _ from hat.out) hb2 | exact at_below hat.out hb2⟩; have hMp2 := Aside0.mk hMp; have hbb : Aside0 (Below w.heap.size w w2) := ⟨by first | exact below_via (below_drew hb.out) hb2 | exact below_via hb.out hb2⟩; clear hMp hb2)
        | (go_at_call 96; refine (mt_not b f x hf.out _ _ (fn l) _ hat2.out hMp2.out).mono ?_; rw [hv.out]; rintro e w3 ⟨rfl, hb3⟩; have hbc := Aside0.mk (below_via hbb.out hb3); clear hb3)
        | (go_at_call 95; refine (empty_not b _).mono ?_; rintro e w4 ⟨rfl, rfl⟩))
      all_goals (go_wp2_with fail)
      all_goals
        refine bodyPost_ret (results_list (rs := [.tmp 4, .tmp 5, .tmp 6]) rfl (by simp) (.tmp (.tmp (.tmp .nil)))) rfl ?_
        exact ⟨rfl, hbc.out⟩
    · have a1 := na_and_mt
      have a2 := me_and_mt
      have a3 := na_and_Empty
      have a4 := me_and_Empty
      have hl2 : ts.length ≤ 4398046511104 := by have := hlen.out; have := hsx.out; omega
      replace hl2 := Aside0.mk hl2
      replace hA := Aside0.mk hA
      replace hC2 := Aside0.mk hC2
      obtain ⟨rb, hrb⟩ : ∃ rb, decide (ts.length = 0) = rb := ⟨_, rfl⟩
      have hem := fun (W : World) (hb : Below w1.heap.size w1 W) => empty_and A2 ts c2 hl2.out W hA.out (Kd.C_below hC2.out hb)
      rw [hrb] at hem
      replace hem := Aside0.mk hem
      replace hrb := Aside0.mk hrb
      have hY := Aside0.mk (Below.refl w1.heap.size w1)
      clear hM
      go_wp2_with fail
      go_region_with (first
        | (go_at_call 20; refine (hfs.out _ (by first | exact below_drew hb.out | exact hb.out | exact pw_below_drewN hb.out _)).mono ?_; rintro e w2 ⟨rfl, hMp, hb2⟩; have hY2 : Aside0 (Below w1.heap.size w1 w2) := ⟨by first | exact below_via (below_drew hY.out) hb2 | exact below_via hY.out hb2⟩; have hMp2 := Aside0.mk hMp; clear hMp hb2)
        | (go_at_call 112; refine (mt_and A2 ts c2 hl2.out hsz.out _ _ (fn l) _ (Kd.C_below hC2.out hY2.out) hMp2.out).mono ?_; rw [hrv.out]; rintro e w3 ⟨rfl, hb3⟩; have hY3 := Aside0.mk (below_via hY2.out hb3); clear hb3)
        | (go_at_call 111; refine (hem.out _ (by first | exact hY3.out | exact hY2.out | exact below_drew hY.out | exact hY.out | exact pw_below_drewN hY.out _)).mono ?_; rintro e w4 ⟨rfl, rfl⟩))
      all_goals (go_wp2_with fail)
      all_goals
        refine bodyPost_ret (results_list (rs := [.tmp 4, .tmp 5, .tmp 6]) rfl (by simp) (.tmp (.tmp (.tmp .nil)))) rfl ?_
        exact ⟨by rw [hrb.out]; rfl, below_via hb.out hY3.out⟩
end Go.Proofs.YtccdnmachpepcaaDoor.FsX
