/- Versions: a version's text is parsed as that version, in plain Lean. -/
import Derived.Test.YtmfgkidppchobaaDoorVerF
set_option linter.unusedSimpArgs false
set_option linter.unusedVariables false
namespace Go.Proofs.YtmfgkidppchobaaDoor.VerR
open Go.RowKit Go.Proofs.YtmfgkidppchobaaDoorW.PrintWords Go.Proofs.YtmfgkidppchobaaDoorW.PrintLast Go.Proofs.YtmfgkidppchobaaDoor.XFnVersionWays Go.Proofs.YtmfgkidppchobaaDoor.EvL Go.Proofs.YtmfgkidppchobaaDoor.Str Go.Proofs.YtmfgkidppchobaaDoor.VerP Go.Proofs.YtmfgkidppchobaaDoor.VerQ Go.Proofs.YtmfgkidppchobaaDoor.Ver1 Go.Proofs.YtmfgkidppchobaaDoor.Ver3 Go.Proofs.YtmfgkidppchobaaDoor.Ver4 Go.Proofs.YtmfgkidppchobaaDoor.Ver5 Go.Proofs.YtmfgkidppchobaaDoor.Ver6
def stop (p : UInt8 → Bool) : List UInt8 → Prop
 | [] => True
 | c :: _ => p c = false ∧ c ≠ 46
theorem stop_run {p : UInt8 → Bool} {r : List UInt8} (h : stop p r) : run p r = 0 := by
 cases r with
 | nil => rfl
 | cons c r => rw [run_cons, if_neg (by rw [h.1]; simp), if_neg (fun e => h.2 e.1)]
theorem cnt_app {p : UInt8 → Bool} {m r : List UInt8} (h : cnt p m ≠ 0) : cnt p (m ++ r) ≠ 0 := by
 cases m with
 | nil => exact absurd rfl h
 | cons c m =>
  rw [List.cons_append, cnt_cons]
  rw [cnt_cons] at h
  split at h
  ·rename_i hc; rw [if_pos hc]; omega
  ·omega
theorem run_app {p : UInt8 → Bool} {m r : List UInt8} (h : run p m = m.length) (hr : stop p r) : run p (m ++ r) = m.length := by
 induction m with
 | nil => exact stop_run hr
 | cons c m ih =>
  rw [List.cons_append, run_cons]
  rw [run_cons, List.length_cons] at h
  rw [List.length_cons]
  split at h
  ·rename_i hc; rw [if_pos hc, ih (by omega)]
  ·rename_i hc
   rw [if_neg hc]
   split at h
   ·rename_i h2
    rw [if_pos ⟨h2.1, cnt_app h2.2⟩, ih (by omega)]
   ·omega
theorem run_join {p : UInt8 → Bool} {m r : List UInt8} (hp : p 46 = false) (h : run p m = m.length) (h0 : cnt p r ≠ 0) (hr : run p r = r.length) : run p (m ++ 46 :: r) = (m ++ 46 :: r).length := by
 induction m with
 | nil =>
  rw [List.nil_append, run_cons, if_neg (by rw [hp]; simp), if_pos ⟨rfl, h0⟩, hr, List.length_cons]
 | cons c m ih =>
  rw [List.cons_append, run_cons]
  rw [run_cons, List.length_cons] at h
  rw [List.length_cons]
  split at h
  ·rename_i hc; rw [if_pos hc, ih (by omega)]
  ·rename_i hc
   rw [if_neg hc]
   split at h
   ·rename_i h2
    rw [if_pos ⟨h2.1, cnt_app h2.2⟩, ih (by omega)]
   ·omega
def Wd (l : List UInt8) : Prop := l ≠ [] → wlen l = l.length
theorem wd_of {l : List UInt8} (h : Wd l) (hn : l ≠ []) : cnt wd l ≠ 0 ∧ run wd l = l.length := by
 have h1 := h hn
 unfold wlen at h1
 split at h1
 ·cases l with
  | nil => exact absurd rfl hn
  | cons c l => simp at h1
 ·rename_i h2; exact ⟨h2, h1⟩
theorem wlen_app {m r : List UInt8} (h : Wd m) (hn : m ≠ []) (hr : stop wd r) : wlen (m ++ r) = m.length := by
 obtain ⟨h1, h2⟩ := wd_of h hn
 unfold wlen
 rw [if_neg (cnt_app h1), run_app h2 hr]
theorem run_mem {p : UInt8 → Bool} {l : List UInt8} (h : run p l = l.length) : ∀ c ∈ l, p c = true ∨ c = 46 := by
 induction l with
 | nil => intro c hc; cases hc
 | cons a l ih =>
  intro c hc
  rw [run_cons, List.length_cons] at h
  split at h
  ·rename_i ha
   rcases List.mem_cons.1 hc with rfl | hc
   ·exact .inl ha
   ·exact ih (by omega) c hc
  ·split at h
   ·rename_i h2
    rcases List.mem_cons.1 hc with rfl | hc
    ·exact .inr h2.1
    ·exact ih (by omega) c hc
   ·omega
theorem wd_mem {l : List UInt8} (h : Wd l) : ∀ c ∈ l, wd c = true ∨ c = 46 := by
 intro c hc
 exact run_mem (wd_of h (fun e => by rw [e] at hc; cases hc)).2 c hc
theorem spl_cons (c a : UInt8) (r : List UInt8) : spl c (a :: r) = if a = c then [] :: spl c r else match spl c r with
  | [] => [[a]]
  | h :: t => (a :: h) :: t := rfl
theorem spl_app (c : UInt8) (a b : List UInt8) : spl c (a ++ c :: b) = spl c a ++ spl c b := by
 induction a with
 | nil => rw [List.nil_append, spl_cons, if_pos rfl]; rfl
 | cons x a ih =>
  rw [List.cons_append, spl_cons, spl_cons]
  by_cases h : x = c
  ·rw [if_pos h, if_pos h, ih]; rfl
  ·rw [if_neg h, if_neg h, ih]
   cases hq : spl c a with
   | nil => exact absurd hq (spl_ne c a)
   | cons y t => rfl
theorem dg_of {n : Nat} (h : n < 10) : dg (UInt8.ofNat (48 + n)) = true := by
 unfold dg
 rw [decide_eq_true_eq, show (UInt8.ofNat (48 + n)).toNat = 48 + n from by simp; omega]
 omega
theorem dd_dg (u : Nat) : ∀ c ∈ Lib.decDigits u, dg c = true := by
 induction u using Nat.strongRecOn with
 | _ u ih =>
  intro c hc
  rw [Lib.decDigits] at hc
  split at hc
  ·rename_i h
   rw [List.mem_singleton.1 hc]; exact dg_of h
  ·rename_i h
   rcases List.mem_append.1 hc with hc | hc
   ·exact ih (u / 10) (by omega) c hc
   ·rw [List.mem_singleton.1 hc]; exact dg_of (by omega)
theorem val_snoc (acc : Nat) (l : List UInt8) (c : UInt8) : Num.val acc (l ++ [c]) = Num.val acc l * 10 + (c.toNat - 48) := by
 induction l generalizing acc with
 | nil => rfl
 | cons a l ih => exact ih _
theorem dd_val (u : Nat) : Num.val 0 (Lib.decDigits u) = u := by
 induction u using Nat.strongRecOn with
 | _ u ih =>
  rw [Lib.decDigits]
  split
  ·rename_i h
   show 0 * 10 + ((UInt8.ofNat (48 + u)).toNat - 48) = u
   rw [show (UInt8.ofNat (48 + u)).toNat = 48 + u from by simp; omega]; omega
  ·rename_i h
   rw [val_snoc, ih (u / 10) (by omega), show (UInt8.ofNat (48 + u % 10)).toNat = 48 + u % 10 from by simp; omega]
   omega
theorem dd_ne (u : Nat) : Lib.decDigits u ≠ [] := fun h => by
 have := dd_pos u
 rw [h] at this; exact absurd this (by simp)
theorem dd_head (u : Nat) (h : 0 < u) : (Lib.decDigits u).head? ≠ some 48 := by
 induction u using Nat.strongRecOn with
 | _ u ih =>
  rw [Lib.decDigits]
  split
  ·rename_i h9
   intro e
   have e1 : UInt8.ofNat (48 + u) = 48 := by simpa using e
   have e2 := congrArg UInt8.toNat e1
   rw [show (UInt8.ofNat (48 + u)).toNat = 48 + u from by simp; omega] at e2
   rw [show (48 : UInt8).toNat = 48 from rfl] at e2
   omega
  ·rename_i h9
   have := ih (u / 10) (by omega) (by omega)
   rw [List.head?_append]
   cases hq : Lib.decDigits (u / 10) with
   | nil => exact absurd hq (dd_ne _)
   | cons a l => rw [hq] at this; exact this
theorem numU_dd {u : Nat} (h : u < 18446744073709551616) : numU (mk (Lib.decDigits u)) = some u := by
 unfold numU Lib.parseUintB
 rw [show (mk (Lib.decDigits u)).data.toList = Lib.decDigits u from L_mk' _, if_neg (dd_ne u),
  Num.pum_ok (by decide) _ 0 (fun c hc => by have := dd_dg u c hc; unfold dg at this; exact of_decide_eq_true this) (by rw [dd_val, show (2 : Nat) ^ 64 = 18446744073709551616 from rfl]; omega), dd_val]
theorem bad0_dd (u : Nat) : bad0 (mk (Lib.decDigits u)) = false := by
 unfold bad0
 rw [show (mk (Lib.decDigits u)).data.toList = Lib.decDigits u from L_mk' _, toList_L, L_mk']
 rcases Nat.eq_zero_or_pos u with rfl | h
 ·rw [Lib.decDigits_one (by decide)]; rfl
 ·have := dd_head u h
  cases hq : Lib.decDigits u with
  | nil => exact absurd hq (dd_ne u)
  | cons a l =>
   rw [hq] at this
   have ha : ¬ a = 48 := by simpa using this
   have : Lib.hasPrefix (a :: l) [48] = false := by
    show ((48 : UInt8) == a && _) = false
    rw [beq_eq_false_iff_ne.2 (fun e => ha e.symm)]; rfl
   rw [this]; rfl
def ntp (ns : List Int) : List ByteArray := ns.map fun n => mk (Lib.decDigits n.toNat)
theorem comps_ntp (sv first : Bool) (ns : List Int) (h : U64 ns) : compsP sv first (ntp ns) = some ns := by
 induction ns generalizing first with
 | nil => rfl
 | cons n ns ih =>
  have h1 := h n (by simp)
  show (compP sv first (mk (Lib.decDigits n.toNat))).bind _ = _
  unfold compP
  rw [bad0_dd, Bool.and_false, if_neg (by simp), numU_dd (by omega)]
  show (compsP sv false (ntp ns)).map _ = _
  rw [ih false (fun x hx => h x (by simp [hx]))]
  show some (((n.toNat : Nat) : Int) :: ns) = _
  rw [Int.toNat_of_nonneg h1.1]
theorem run_all {p : UInt8 → Bool} {l : List UInt8} (h : ∀ c ∈ l, p c = true) : run p l = l.length := by
 induction l with
 | nil => rfl
 | cons c l ih => rw [run_cons, if_pos (h c (by simp)), ih (fun x hx => h x (by simp [hx])), List.length_cons]
theorem cnt_ne {p : UInt8 → Bool} {l : List UInt8} (hn : l ≠ []) (h : ∀ c ∈ l, p c = true) : cnt p l ≠ 0 := by
 cases l with
 | nil => exact absurd rfl hn
 | cons c l => rw [cnt_cons, if_pos (h c (by simp))]; omega
theorem dg_46 : dg 46 = false := by decide
theorem nt_facts (ns : List Int) : ns ≠ [] → cnt dg (nt ns) ≠ 0 ∧ run dg (nt ns) = (nt ns).length ∧ (spl 46 (nt ns)).map mk = ntp ns := by
 refine snoc_ind (P := fun ns => ns ≠ [] → cnt dg (nt ns) ≠ 0 ∧ run dg (nt ns) = (nt ns).length ∧ (spl 46 (nt ns)).map mk = ntp ns) (fun h => absurd rfl h) ?_ ns
 intro l n ih _
 have hd := dd_dg n.toNat
 have h46 : (46 : UInt8) ∉ Lib.decDigits n.toNat := fun h => by have := hd _ h; rw [dg_46] at this; cases this
 have c1 := cnt_ne (dd_ne n.toNat) hd
 have c2 := run_all hd
 rw [nt_snoc]
 by_cases hl : l = []
 ·subst hl
  rw [if_pos (show nt [] = [] from rfl), List.nil_append]
  refine ⟨c1, c2, ?_⟩
  rw [spl_none h46]; rfl
 ·have hne : nt l ≠ [] := fun e => hl ((nt_nil l).1 e)
  obtain ⟨i1, i2, i3⟩ := ih hl
  rw [if_neg hne]
  rw [show nt l ++ [46] ++ Lib.decDigits n.toNat = nt l ++ 46 :: Lib.decDigits n.toNat from by simp]
  refine ⟨cnt_app i1, run_join dg_46 i2 c1 c2, ?_⟩
  rw [spl_app, List.map_append, i3, spl_none h46]
  unfold ntp
  rw [List.map_append]; rfl
def restB (pre bld : ByteArray) : List UInt8 := (if pre.toList = [] then [] else [45] ++ pre.data.toList) ++ (if bld.toList = [] then [] else [43] ++ bld.data.toList)
theorem textB_eq (ns : List Int) (pre bld : ByteArray) : textB ns pre bld = nt ns ++ restB pre bld := by unfold textB restB; rw [List.append_assoc]
theorem L_text (ns : List Int) (pre bld : ByteArray) : L (text ns pre bld) = nt ns ++ restB pre bld := by rw [← textB_eq]; exact L_mk _
theorem wd_ne10 {c : UInt8} (h : wd c = true ∨ c = 46) : ¬ c = 10 := by
 rintro rfl
 rcases h with h | h
 ·exact absurd h (by decide)
 ·exact absurd h (by decide)
theorem rest_no10 {pre bld : ByteArray} (hp : Wd (L pre)) (hb : Wd (L bld)) : (10 : UInt8) ∉ restB pre bld := by
 unfold restB
 rw [toList_L, toList_L]
 intro h
 rcases List.mem_append.1 h with h | h
 ·split at h
  ·cases h
  ·rcases List.mem_append.1 h with h | h
   ·exact absurd (List.mem_singleton.1 h) (by decide)
   ·exact wd_ne10 (wd_mem hp _ h) rfl
 ·split at h
  ·cases h
  ·rcases List.mem_append.1 h with h | h
   ·exact absurd (List.mem_singleton.1 h) (by decide)
   ·exact wd_ne10 (wd_mem hb _ h) rfl
theorem rest_stop (pre bld : ByteArray) : stop dg (restB pre bld) := by
 unfold restB
 split
 ·split
  ·trivial
  ·exact ⟨by decide, by decide⟩
 ·exact ⟨by decide, by decide⟩
theorem dg_head {l : List UInt8} (h : cnt dg l ≠ 0) : cnt wh l = 0 ∧ l.head? ≠ some 118 := by
 cases l with
 | nil => exact absurd rfl h
 | cons c l =>
  rw [cnt_cons] at h
  split at h
  ·rename_i hc
   have hc : 48 ≤ c.toNat ∧ c.toNat ≤ 57 := by unfold dg at hc; exact of_decide_eq_true hc
   refine ⟨?_, ?_⟩
   ·rw [cnt_cons, if_neg (by unfold wh; rw [decide_eq_true_eq]; omega)]
   ·intro e
    have e : c = 118 := by simpa using e
    rw [e] at hc
    exact absurd hc (by decide)
  ·omega
theorem verL_text {ns : List Int} {pre bld : ByteArray} (hn : ns ≠ []) (hp : Wd (L pre)) (hb : Wd (L bld)) : verL (text ns pre bld) = [text ns pre bld, mk (nt ns), mk (restB pre bld)] := by
 obtain ⟨h1, h2, _⟩ := nt_facts ns hn
 have hL := L_text ns pre bld
 have c1 : cnt dg (L (text ns pre bld)) ≠ 0 := by rw [hL]; exact cnt_app h1
 obtain ⟨d1, d2⟩ := dg_head c1
 have a0 : at0 (L (text ns pre bld)) = 0 := by
  unfold at0
  rw [d1, List.drop_zero, if_neg d2]
 unfold verL
 rw [a0, List.drop_zero, if_neg c1, hL, run_app h2 (rest_stop pre bld), Nat.zero_add, List.drop_left, if_neg (rest_no10 hp hb)]
 congr 2
 ·exact mk_eq (by rw [L_upto, hL, List.take_left])
 ·congr 1
  exact mk_eq (by rw [L_from, hL, List.drop_left])
theorem L_eq_nil {s : ByteArray} (h : L s = []) : s = E0 := L_inj h
theorem extL_rest {pre bld : ByteArray} (hp : Wd (L pre)) (hb : Wd (L bld)) : extL (mk (restB pre bld)) = [mk (restB pre bld), pre, bld] := by
 have h43 : wd 43 = false := by decide
 have st : stop wd (if L bld = [] then [] else [43] ++ L bld) := by
  split
  ·trivial
  ·exact ⟨h43, by decide⟩
 have hr : L (mk (restB pre bld)) = (if L pre = [] then [] else [45] ++ L pre) ++ (if L bld = [] then [] else [43] ++ L bld) := by rw [L_mk']; unfold restB; rw [toList_L, toList_L]; rfl
 obtain ⟨r, hq⟩ : ∃ r, mk (restB pre bld) = r := ⟨_, rfl⟩
 rw [hq] at hr ⊢
 have f1 : sAt 45 0 (L r) = (if L pre = [] then [] else [45] ++ L pre : List UInt8).length ∧ sTx 45 0 r = pre := by
  by_cases h0 : L pre = []
  ·rw [if_pos h0, List.nil_append] at hr
   rw [if_pos h0]
   have s0 : sgn 45 ((L r).drop 0) = 0 := by
    rw [List.drop_zero, hr]
    by_cases h1 : L bld = []
    ·rw [if_pos h1]; rfl
    ·rw [if_neg h1]; rfl
   unfold sAt sTx
   rw [if_pos s0, if_pos s0]
   exact ⟨rfl, (L_eq_nil h0).symm⟩
  ·rw [if_neg h0] at hr
   rw [if_neg h0]
   have s0 : sgn 45 ((L r).drop 0) = (L pre).length := by
    rw [List.drop_zero, hr]
    show (if (45 : UInt8) = 45 then wlen (L pre ++ _) else 0) = _
    rw [if_pos rfl, wlen_app hp h0 st]
   have sp : (L pre).length ≠ 0 := fun e => h0 (List.eq_nil_of_length_eq_zero e)
   unfold sAt sTx
   rw [s0, if_neg sp, if_neg sp]
   refine ⟨by simp; omega, ?_⟩
   refine L_inj ?_
   rw [L_extract, hr]
   show ((L pre ++ _).take (0 + 1 + (L pre).length - (0 + 1))) = _
   rw [show 0 + 1 + (L pre).length - (0 + 1) = (L pre).length from by omega, List.take_left]
 obtain ⟨f1, f2⟩ := f1
 have hd : (L r).drop (sAt 45 0 (L r)) = (if L bld = [] then [] else [43] ++ L bld) := by rw [f1, hr, List.drop_left]
 have hlen : (L r).length = sAt 45 0 (L r) + (if L bld = [] then [] else [43] ++ L bld : List UInt8).length := by
  have e := congrArg List.length hr
  rw [List.length_append] at e
  rw [f1, e]
 obtain ⟨i, hi⟩ : ∃ i, sAt 45 0 (L r) = i := ⟨_, rfl⟩
 rw [hi] at hd hlen
 have f3 : sAt 43 i (L r) = (L r).length ∧ sTx 43 i r = bld := by
  by_cases h0 : L bld = []
  ·rw [if_pos h0] at hd hlen
   have s0 : sgn 43 ((L r).drop i) = 0 := by rw [hd]; rfl
   unfold sAt sTx
   rw [if_pos s0, if_pos s0]
   exact ⟨by rw [hlen]; rfl, (L_eq_nil h0).symm⟩
  ·rw [if_neg h0] at hd hlen
   have s0 : sgn 43 ((L r).drop i) = (L bld).length := by
    rw [hd]
    show (if (43 : UInt8) = 43 then wlen (L bld) else 0) = _
    rw [if_pos rfl, hb h0]
   have sp : (L bld).length ≠ 0 := fun e => h0 (List.eq_nil_of_length_eq_zero e)
   unfold sAt sTx
   rw [s0, if_neg sp, if_neg sp]
   refine ⟨by rw [hlen]; simp; omega, ?_⟩
   refine L_inj ?_
   rw [L_extract, ← List.drop_drop, hd]
   show ((L bld).take (i + 1 + (L bld).length - (i + 1))) = _
   rw [show i + 1 + (L bld).length - (i + 1) = (L bld).length from by omega, List.take_length]
 obtain ⟨f3, f4⟩ := f3
 unfold extL
 rw [hi, f3, f2, f4, List.drop_length, if_neg (by simp [cnt])]
structure Good (sv : Bool) (ns : List Int) (pre bld : ByteArray) : Prop where
 two : 2 ≤ ns.length
 big : ns.length ≤ 2147483648
 u64 : U64 ns
 wpre : Wd (L pre)
 wbld : Wd (L bld)
 gen : sv = false → pre = E0 ∧ bld = E0
 sem : sv = true → ns.length = 3
 ids : (pieces pre).any badId = false
theorem good_gen {ns : List Int} (h2 : 2 ≤ ns.length) (hb : ns.length ≤ 2147483648) (hu : U64 ns) : Good false ns E0 E0 :=
 ⟨h2, hb, hu, fun h => absurd rfl h, fun h => absurd rfl h, fun _ => ⟨rfl, rfl⟩, (fun h => nomatch h), by decide⟩
theorem ntp_len (ns : List Int) : (ntp ns).length = ns.length := by unfold ntp; rw [List.length_map]
theorem pieces_nt {ns : List Int} (h : ns ≠ []) : pieces (mk (nt ns)) = ntp ns := by unfold pieces; rw [L_mk']; exact (nt_facts ns h).2.2
theorem parse_back {sv : Bool} {ns : List Int} {pre bld : ByteArray} (g : Good sv ns pre bld) : parseL sv (text ns pre bld) = some (ns, pre, bld) := by
 have hn : ns ≠ [] := fun e => by have := g.two; rw [e] at this; simp at this
 unfold parseL
 rw [verL_text hn g.wpre g.wbld, if_neg (by simp), rd1, rd2, pieces_nt hn]
 unfold restL
 have hc := comps_ntp
 cases sv with
 | false =>
  obtain ⟨rfl, rfl⟩ := g.gen rfl
  rw [if_pos rfl, if_neg (by rw [ntp_len]; have := g.two; omega), comps_ntp false true ns g.u64]
  rfl
 | true =>
  rw [if_neg (by simp), if_neg (by rw [ntp_len, g.sem rfl]; simp), comps_ntp true true ns g.u64]
  by_cases h0 : (mk (restB pre bld)).toList = []
  ·rw [if_pos h0]
   rw [toList_L, L_mk'] at h0
   unfold restB at h0
   rw [toList_L, toList_L] at h0
   obtain ⟨p0, b0⟩ := List.append_eq_nil_iff.1 h0
   have p1 : L pre = [] := by
    by_cases h : L pre = []
    ·exact h
    ·rw [if_neg h] at p0; simp at p0
   have b1 : L bld = [] := by
    by_cases h : L bld = []
    ·exact h
    ·rw [if_neg h] at b0; simp at b0
   rw [L_eq_nil p1, L_eq_nil b1]; rfl
  ·rw [if_neg h0, extL_rest g.wpre g.wbld, if_neg (by simp), rd1, rd2]
   show tl _ _ _ _ = _
   unfold tl
   rw [if_neg (by rw [g.ids]; simp)]
theorem parse_odd {ns : List Int} (g : Good false ns E0 E0) (h3 : ns.length ≠ 3) : parseL true (text ns E0 E0) = none := by
 have hn : ns ≠ [] := fun e => by have := g.two; rw [e] at this; simp at this
 unfold parseL
 rw [verL_text hn g.wpre g.wbld, if_neg (by simp), rd1, rd2, pieces_nt hn]
 unfold restL
 rw [if_neg (by simp), if_pos (by rw [ntp_len]; exact h3)]
end Go.Proofs.YtmfgkidppchobaaDoor.VerR

