/- ParseSelector walked: the terms of a text, or an error. -/
import Derived.Test.YtccdnmachpepcaaDoorFsD
import Derived.Test.YtccdnmachpepcaaDoorFsJ
set_option linter.unusedSimpArgs false
set_option linter.unusedVariables false
namespace Go.Proofs.YtccdnmachpepcaaDoor.FsQ
open Go Go.RowKit Go.Proofs.YtccdnmachpepcaaDoor.FuM Go.Proofs.YtccdnmachpepcaaDoor.FuV Go.Proofs.YtccdnmachpepcaaDoor.FsP Go.Proofs.YtccdnmachpepcaaDoor.FsK Go.Proofs.YtccdnmachpepcaaDoor.FsS Go.Proofs.YtccdnmachpepcaaDoor.FsT Go.Proofs.YtccdnmachpepcaaDoor.FsC Go.Proofs.YtccdnmachpepcaaDoor.FsO Go.Proofs.YtccdnmachpepcaaDoor.FsM Go.Proofs.YtccdnmachpepcaaDoor.FsN Go.Proofs.YtccdnmachpepcaaDoorW.PrintWords Go.Proofs.YtccdnmachpepcaaDoorW.PrintLast
/-- What a piece says: nothing (it is empty), a term, or an error. -/
def termOf (p : ByteArray) : Option (Option Tm) :=
  if p.size = 0 then some none else if (cutFrom p p.size 0).2.2.2 = true then
    (match uv (cutFrom p p.size 0).2.2.1 (cutFrom p p.size 0).2.2.1.size 0 false [] with
     | none => none
     | some x => some (some ⟨decide ((cutFrom p p.size 0).2.1 = ⟨#[33, 61]⟩), (cutFrom p p.size 0).1, ⟨x.toArray⟩⟩)) else none
def rawT : List ByteArray → Option (List Tm)
  | [] => some []
  | p :: l => match termOf p with
    | none => none
    | some none => rawT l
    | some (some t) => (rawT l).map (t :: ·)
theorem rawT_snoc (l : List ByteArray) (p : ByteArray) : rawT (l ++ [p]) = (rawT l).bind fun out => (termOf p).map fun t => out ++ t.toList := by
  induction l with
  | nil =>
    show rawT [p] = _
    unfold rawT
    cases termOf p with
    | none => rfl
    | some t => cases t <;> rfl
  | cons q l ih =>
    rw [List.cons_append]
    unfold rawT
    cases hq : termOf q with
    | none => rfl
    | some t =>
      cases t with
      | none => simp only [ih]
      | some t =>
        simp only [ih]
        cases rawT l with
        | none => rfl
        | some out => cases termOf p <;> rfl
theorem rawT_none (l r : List ByteArray) (h : rawT l = none) : rawT (l ++ r) = none := by
  induction l with
  | nil => cases h
  | cons q l ih =>
    rw [List.cons_append]
    unfold rawT at h ⊢
    cases hq : termOf q with
    | none => rfl
    | some t =>
      rw [hq] at h
      cases t with
      | none => exact ih h
      | some t =>
        simp only at h ⊢
        cases hr : rawT l with
        | none => rw [ih hr]; rfl
        | some x => rw [hr] at h; cases h
theorem rawT_length (l : List ByteArray) : ∀ out, rawT l = some out → out.length ≤ l.length := by
  induction l with
  | nil => intro out h; cases h; simp
  | cons q l ih =>
    intro out h
    unfold rawT at h
    cases hq : termOf q with
    | none => rw [hq] at h; cases h
    | some t =>
      rw [hq] at h
      cases t with
      | none => have := ih out h; simp; omega
      | some t =>
        simp only at h
        cases hr : rawT l with
        | none => rw [hr] at h; cases h
        | some x => rw [hr] at h; cases h; have := ih x hr; simp; omega
/-- The terms of a text. -/
def termsOf (s : ByteArray) : Option (List Tm) := (rawT (srt (pieces s))).map keep
theorem errNew (s : ByteArray) (w : World) : Calls Tryd.prog 28 #[.string s] w fun e w' => ∃ p, e = .returned (.iface 89 p) ∧ Below w.heap.size w w' := by
  go_enter Tryd.func28, Tryd.ntmps28
  go_wp2
  go_ret
  exact ⟨_, rfl, below_alloc (Below.refl _ _) _⟩
/-- What ParseSelector tells. -/
def PRes (r : Option (List Tm)) (base : Nat) (e : Ending) (w' : World) : Prop := match r with
  | none => ∃ t p, e = .returned (.tuple #[.nilIface, .iface t p])
  | some ts => ∃ v, e = .returned (.tuple #[v, .nilIface]) ∧ kwrap.M w' base (fun _ => True) ts [v]
/-- The three operators. -/
theorem cut_op (s : ByteArray) : ∀ (n i : Nat), (cutFrom s n i).2.2.2 = true → (cutFrom s n i).2.1 = ⟨#[33, 61]⟩ ∨ (cutFrom s n i).2.1 = ⟨#[61, 61]⟩ ∨ (cutFrom s n i).2.1 = ⟨#[61]⟩ := by
  intro n
  induction n with
  | zero => intro i h; cases h
  | succ n ih =>
    intro i h
    unfold cutFrom at h ⊢
    cases ho : FsC.opAt s i with
    | none => rw [ho] at h; exact ih (i + 1) h
    | some op =>
      simp only
      unfold FsC.opAt at ho
      split at ho
      · exact .inl (Option.some.inj ho).symm
      · split at ho
        · exact .inr (.inl (Option.some.inj ho).symm)
        · split at ho
          · exact .inr (.inr (Option.some.inj ho).symm)
          · cases ho
/-- The value behind the operator is of UTF-8, and no longer than the piece. -/
theorem cut_val (s : ByteArray) (hs : pt s = true) : ∀ (n i : Nat), n + i = s.size → (cutFrom s n i).2.2.2 = true → pt (cutFrom s n i).2.2.1 = true ∧ (cutFrom s n i).2.2.1.size ≤ s.size := by
  intro n
  induction n with
  | zero => intro i _ h; cases h
  | succ n ih =>
    intro i hi h
    unfold cutFrom at h ⊢
    cases ho : FsC.opAt s i with
    | none => rw [ho] at h; exact ih (i + 1) (by omega) h
    | some op =>
      simp only
      have hv := vl_of_pt hs
      have hl : i < (L s).length := by rw [L_length]; omega
      have e0 : L s = (L s).take i ++ (L s).drop i := (List.take_append_drop i _).symm
      have hex : L (s.extract (i + op.size) s.size) = ((L s).drop i).drop op.size := by
        rw [List.drop_drop]; exact Lib.extract_to_end s (i + op.size)
      refine ⟨?_, by simp⟩
      refine pt_of_vl ?_
      rw [hex]
      have key : ∀ (x y : UInt8) (r : List UInt8), x.toNat < 128 → y.toNat < 128 → (L s).drop i = x :: y :: r → VL r := by
        intro x y r hx hy e
        rw [e0, e] at hv
        exact (VL.split (a := []) hy (VL.split hx hv).2).2
      have key1 : ∀ (x : UInt8) (r : List UInt8), x.toNat < 128 → (L s).drop i = x :: r → VL r := by
        intro x r hx e
        rw [e0, e] at hv
        exact (VL.split hx hv).2
      have htwo : ∀ x y : UInt8, ((L s).drop i).take 2 = [x, y] → ∃ r, (L s).drop i = x :: y :: r := by
        intro x y e
        match hd : (L s).drop i, e with
        | [], e => simp at e
        | [_], e => simp at e
        | p :: q :: r, e => simp at e; exact ⟨r, by rw [e.1, e.2]⟩
      unfold FsC.opAt at ho
      split at ho
      · rename_i h2
        obtain rfl := Option.some.inj ho
        obtain ⟨r, hr⟩ := htwo _ _ h2
        have := key _ _ r (by decide) (by decide) hr
        rw [hr]; exact this
      · split at ho
        · rename_i h2
          obtain rfl := Option.some.inj ho
          obtain ⟨r, hr⟩ := htwo _ _ h2
          have := key _ _ r (by decide) (by decide) hr
          rw [hr]; exact this
        · split at ho
          · rename_i h2
            obtain rfl := Option.some.inj ho
            match hd : (L s).drop i, h2 with
            | [], h2 => simp at h2
            | p :: r, h2 =>
              have hp : p = 61 := by simpa using h2
              have := key1 p r (by rw [hp]; decide) hd
              exact this
          · cases ho
end Go.Proofs.YtccdnmachpepcaaDoor.FsQ

set_option linter.unusedSimpArgs false
set_option linter.unusedVariables false
namespace Go.Proofs.YtccdnmachpepcaaDoor.FsR
open Go Go.RowKit Go.Proofs.YtccdnmachpepcaaDoor.FuM Go.Proofs.YtccdnmachpepcaaDoor.FuV Go.Proofs.YtccdnmachpepcaaDoor.FsP Go.Proofs.YtccdnmachpepcaaDoor.FsK Go.Proofs.YtccdnmachpepcaaDoor.FsS Go.Proofs.YtccdnmachpepcaaDoor.FsT Go.Proofs.YtccdnmachpepcaaDoor.FsC Go.Proofs.YtccdnmachpepcaaDoor.FsO Go.Proofs.YtccdnmachpepcaaDoor.FsM Go.Proofs.YtccdnmachpepcaaDoor.FsN Go.Proofs.YtccdnmachpepcaaDoor.FsQ Go.Proofs.YtccdnmachpepcaaDoorW.PrintWords Go.Proofs.YtccdnmachpepcaaDoorW.PrintLast
theorem termOf_ne (p : ByteArray) (h0 : ¬ p.size = 0) : termOf p = if (cutFrom p p.size 0).2.2.2 = true then
    (match uv (cutFrom p p.size 0).2.2.1 (cutFrom p p.size 0).2.2.1.size 0 false [] with
     | none => none
     | some x => some (some ⟨decide ((cutFrom p p.size 0).2.1 = ⟨#[33, 61]⟩), (cutFrom p p.size 0).1, ⟨x.toArray⟩⟩)) else none := by
  unfold termOf; exact (if_neg h0).trans rfl
theorem below_via {w w2 w3 : World} (h : Below w.heap.size w w2) (h2 : Below w2.heap.size w2 w3) : Below w.heap.size w w3 := below_then h h.size h2
theorem R_index {w : World} {A : Option Addr} {l : List ByteArray} (h : Kd.string.C w A l.length l) {k : Nat} (hk : k < l.length) : ∃ ad, A = some ad ∧ w.cell? (ad.add k) = some (.string l[k]) := by
  obtain ⟨ad, e, hc⟩ := Kd.at_string h (k : Int) (Int.natCast_nonneg k) (by omega)
  refine ⟨ad, e, ?_⟩
  rw [Int.toNat_natCast] at hc
  rw [hc]
  unfold rdOf
  rw [Int.toNat_natCast, List.getD_eq_getElem?_getD, List.getElem?_eq_getElem hk]
  rfl
set_option maxHeartbeats 8000000 in
set_option maxRecDepth 100000 in
theorem parse_calls (s : ByteArray) (hs : s.size ≤ 1099511627776) (hpt : pt s = true) (w : World) :
    Calls Tryd.prog 23 #[.string s, fnv] w fun e w' => PRes (termsOf s) w.heap.size e w' ∧ Below w.heap.size w w' := by
  have h1 := Aside0.mk (split_calls s hs w)
  have hlen := Aside0.mk (pieces_length s)
  have hptx := Aside0.mk (pieces_pt hpt)
  have hszx := Aside0.mk (pieces_size s)
  have hsx := Aside0.mk hs
  clear hpt
  obtain ⟨l, hl⟩ : ∃ l, srt (pieces s) = l := ⟨_, rfl⟩
  have hll : l.length ≤ 1099511627777 := by rw [← hl, srt_length]; have := hlen.out; have := hsx.out; omega
  have hlm : ∀ p ∈ l, pt p = true ∧ p.size ≤ 1099511627776 := fun p hp => by
    rw [← hl] at hp
    have hp2 := (srt_mem _ p).1 hp
    exact ⟨hptx.out p hp2, Nat.le_trans (hszx.out p hp2) hsx.out⟩
  have hterms : termsOf s = (rawT l).map keep := by unfold termsOf; rw [hl]
  rw [hterms]
  replace hll := Aside0.mk hll
  replace hlm := Aside0.mk hlm
  replace hl := Aside0.mk hl
  clear hterms hptx hszx
  go_enter Tryd.func23, Tryd.ntmps23
  go_wp2_with fail
  refine h1.out.mono ?_
  rintro e w2 ⟨v, rfl, hR, hB⟩
  have h2 := Aside0.mk (sort_calls v (pieces s) (by have := hlen.out; have := hsx.out; omega) _ _ w2 hR)
  have hown := Aside0.mk (fun k hk => own_base (Kd.own_of_R hR) k hk)
  replace hB := Aside0.mk hB
  rw [hl.out] at h2
  clear hR hl h1 hlen
  go_wp2_with fail
  refine h2.out.mono ?_
  rintro e w3 ⟨rfl, hR, hg⟩
  obtain ⟨A, c, rfl, hlc, hC⟩ := Kd.R_reads hR
  have hB3 := Aside0.mk (Below.grown hB.out hg hB.out.size hown.out)
  replace hC := Aside0.mk hC
  replace hlc := Aside0.mk hlc
  clear hR hg h2 hown hB
  go_wp2_with fail
  go_loopw [7, 22] (fun v i wr => ∃ (k : Nat) (out : List Tm), k ≤ l.length ∧ i = .int .i64 (k : Int) ∧ Aside0 (rawT (l.take k) = some out) ∧ Aside0 (Below w3.heap.size w3 wr) ∧ Aside0 (SR wr w3.heap.size (fun _ => True) v out)) (fun _ i _ => l.length - (intOf i).toNat)
  case atStart => exact ⟨0, [], by omega, rfl, ⟨rfl⟩, ⟨Below.refl _ _⟩, ⟨Kd.R_nil _ _ _ _ _⟩⟩
  case round =>
    obtain ⟨k, out, hk, rfl, hT, hW, hR⟩ := hrel
    obtain ⟨A2, c2, rfl⟩ := Kd.R_slice hR.out
    have hol := Aside0.mk (show out.length ≤ 1099511627777 by have := rawT_length _ _ hT.out; rw [List.length_take] at this; have := hll.out; omega)
    by_cases hlt : k < l.length
    · obtain ⟨ad, rfl, hcell⟩ := R_index (Kd.C_below hC.out hW.out) hlt
      have hts : l.take (k + 1) = l.take k ++ [l[k]] := by rw [List.take_succ_eq_append_getElem hlt]
      have hsp : l = (l.take k ++ [l[k]]) ++ l.drop (k + 1) := by rw [← hts, List.take_append_drop]
      have hpm := hlm.out l[k] (List.getElem_mem _)
      obtain ⟨p, hp⟩ : ∃ p, l[k] = p := ⟨_, rfl⟩
      rw [hp] at hcell hts hsp hpm
      clear hp
      have hsn := rawT_snoc (l.take k) p
      rw [hT.out] at hsn
      simp only [Option.bind_some] at hsn
      have hk2 := Aside0.mk (show k + 1 ≤ l.length by omega)
      have q0 : (0 : Int) ≤ (k : Int) := Int.natCast_nonneg k
      have q1 : (k : Int) < (l.length : Int) := by omega
      have q2 : (k : Int) ≤ 1099511627777 := by have := hll.out; omega
      by_cases h0 : p.size = 0
      · have ht : termOf p = some none := by unfold termOf; rw [if_pos h0]
        rw [ht] at hsn
        have hsn2 := Aside0.mk (show rawT (l.take (k + 1)) = some out by rw [hts, hsn]; simp)
        have e1 : p.toList = [] := by rw [ByteArray.toList_eq]; exact List.eq_nil_of_length_eq_zero (by simpa using h0)
        have e2 : p.toList.isEmpty = true := by rw [e1]; rfl
        clear hsn ht hts hsp hpm h0
        go_wp2_with fail
        go_roundw
        case rel => exact ⟨k + 1, out, hk2.out, by go_num, hsn2, hW, hR⟩
        case measure => simp [intOf]; omega
      · have e1 : ¬ p.toList = [] := by rw [ByteArray.toList_eq]; intro e; apply h0; have := congrArg List.length e; simpa using this
        have e2 : p.toList.isEmpty = false := by rw [List.isEmpty_eq_false_iff]; exact e1
        have hcv := cut_val p hpm.1 p.size 0 (by omega)
        have hop := cut_op p p.size 0
        have hst := fun W => st_calls p (by have := hpm.2; omega) W
        have ht := termOf_ne p h0
        obtain ⟨⟨f, op, v, okk⟩, hc⟩ : ∃ x, cutFrom p p.size 0 = x := ⟨_, rfl⟩
        rw [hc] at hcv hop hst ht
        simp only at hcv hop hst ht
        replace hst := Aside0.mk hst
        have hps := Aside0.mk hpm.2
        clear hc hpm h0
        cases okk with
        | false =>
          rw [if_neg (by decide)] at ht
          rw [ht] at hsn
          have hno := Aside0.mk (show rawT l = none by rw [hsp]; exact rawT_none _ _ (by rw [hsn]; rfl))
          clear hsn ht hts hsp hcv hop
          go_wp2_with fail
          refine (hst.out _).mono ?_
          rintro e w4 ⟨rfl, hb⟩
          replace hW := Aside0.mk (below_via hW.out hb)
          clear hb hst
          go_wp2_with fail
          refine (errNew _ _).mono ?_
          rintro e w5 ⟨q, rfl, hb⟩
          replace hW := Aside0.mk (below_via hW.out hb)
          clear hb
          go_wp2_with fail
          go_ret2
          exact ⟨by rw [hno.out]; exact ⟨_, _, rfl⟩, below_via hB3.out hW.out⟩
        | true =>
          rw [if_pos rfl] at ht
          obtain ⟨hv1, hv2⟩ := hcv rfl
          have hop2 := hop rfl
          have hun := fun W => FuU.unescape_calls v (by have := hps.out; omega) hv1 W
          replace hun := Aside0.mk hun
          clear hcv hop hv1 hv2
          cases hu : uv v v.size 0 false [] with
          | none =>
            rw [hu] at ht hun
            simp only at ht
            rw [ht] at hsn
            have hno := Aside0.mk (show rawT l = none by rw [hsp]; exact rawT_none _ _ (by rw [hsn]; rfl))
            clear hsn ht hts hsp hu hop2
            go_wp2_with fail
            refine (hst.out _).mono ?_
            rintro e w4 ⟨rfl, hb⟩
            replace hW := Aside0.mk (below_via hW.out hb)
            clear hb hst
            go_wp2_with fail
            refine (hun.out _).mono ?_
            rintro e w5 ⟨⟨t, q, rfl⟩, hb⟩
            replace hW := Aside0.mk (below_via hW.out hb)
            clear hb hun
            go_wp2_with fail
            go_ret2
            exact ⟨by rw [hno.out]; exact ⟨_, _, rfl⟩, below_via hB3.out hW.out⟩
          | some x =>
            rw [hu] at ht hun
            simp only at ht
            rw [ht] at hsn
            obtain ⟨y, hy⟩ : ∃ y : ByteArray, (⟨x.toArray⟩ : ByteArray) = y := ⟨_, rfl⟩
            have hun2 : Aside0 (∀ W, Calls Tryd.prog 29 #[.string v] W fun e w' => e = .returned (.tuple #[.string y, .nilIface]) ∧ Below W.heap.size W w') := ⟨fun W => by rw [← hy]; exact hun.out W⟩
            rw [hy] at hsn
            clear hun ht hu hy hsp
            rcases hop2 with rfl | rfl | rfl
            · have hsn2 := Aside0.mk (show rawT (l.take (k + 1)) = some (out ++ [⟨true, f, y⟩]) by rw [hts, hsn]; rfl)
              clear hsn hts
              go_wp2_with fail
              refine (hst.out _).mono ?_
              rintro e w4 ⟨rfl, hb⟩
              replace hW := Aside0.mk (below_via hW.out hb)
              replace hR := Aside0.mk (Kd.R_below hR.out hb)
              clear hb hst
              go_wp2_with fail
              refine (hun2.out _).mono ?_
              rintro e w5 ⟨rfl, hb⟩
              replace hW := Aside0.mk (below_via hW.out hb)
              replace hR := Aside0.mk (Kd.R_below hR.out hb)
              clear hb hun2
              have hat : At (w5.alloc (.cells #[.string f, .string y] 82)) w5.heap.size ⟨true, f, y⟩ := heap_alloc_new w5 _
              have hW6 : Below w3.heap.size w3 (w5.alloc (.cells #[.string f, .string y] 82)) := below_alloc hW.out _
              have hR6 : SR (w5.alloc (.cells #[.string f, .string y] 82)) w3.heap.size (fun _ => True) (.slice A2 out.length c2) out := Kd.R_below hR.out (below_alloc (Below.refl _ _) _)
              have hne := Aside0.mk (Kd.R_ne hR6 hat (show 52 ≠ ty true by unfold ty; decide))
              have hbg := Aside0.mk hW.out.size
              replace hat := Aside0.mk hat
              replace hW6 := Aside0.mk hW6
              replace hR6 := Aside0.mk hR6
              go_wp2_with (first | ((with_reducible refine gate_builtin (b := .append) (xs := #[.tmp 50, .tmp 56]) rfl ?_); at_builtin; go_loud (refine Kd.R_append ksel (w0 := w3) w3.heap.size rfl (.tmp 50) (.tmp 56) 76 52 .nilIface 16 rfl Tryd.underlying76 (by kernel_rfl) rfl (by decide) (by omega) (.slice A2 out.length c2) out ⟨true, f, y⟩ [.iface 80 (.pointer (some ⟨w5.heap.size, 0, none⟩))] (fun _ => True) (fun k => k = w5.heap.size) rfl (by rw [World.size_alloc]; rfl) ?aP ?aX ?aF ?aO ?aB ?aS ?aL ?_); (case aP => exact ⟨w5.heap.size, rfl, rfl, hbg.out, hat.out⟩); (case aX => exact (fun k hk => ⟨trivial, hk ▸ hne.out⟩)); (case aB => exact hW6.out); (case aF => exact (fun _ _ => trivial)); (case aO => exact hR6.out); (case aS => exact below_size hW6.out); (case aL => have := hol.out; omega); intro v2 w7 ho hb hg hatt))
              replace ho := Aside0.mk ho
              replace hb := Aside0.mk hb
              clear hg hatt
              go_wp2_with fail
              go_roundw
              case rel => exact ⟨k + 1, _, hk2.out, by go_num, hsn2, hb, ho⟩
              case measure => simp [intOf]; omega
            · have hsn2 := Aside0.mk (show rawT (l.take (k + 1)) = some (out ++ [⟨false, f, y⟩]) by rw [hts, hsn]; rfl)
              clear hsn hts
              go_wp2_with fail
              refine (hst.out _).mono ?_
              rintro e w4 ⟨rfl, hb⟩
              replace hW := Aside0.mk (below_via hW.out hb)
              replace hR := Aside0.mk (Kd.R_below hR.out hb)
              clear hb hst
              go_wp2_with fail
              refine (hun2.out _).mono ?_
              rintro e w5 ⟨rfl, hb⟩
              replace hW := Aside0.mk (below_via hW.out hb)
              replace hR := Aside0.mk (Kd.R_below hR.out hb)
              clear hb hun2
              have hat : At (w5.alloc (.cells #[.string f, .string y] 84)) w5.heap.size ⟨false, f, y⟩ := heap_alloc_new w5 _
              have hW6 : Below w3.heap.size w3 (w5.alloc (.cells #[.string f, .string y] 84)) := below_alloc hW.out _
              have hR6 : SR (w5.alloc (.cells #[.string f, .string y] 84)) w3.heap.size (fun _ => True) (.slice A2 out.length c2) out := Kd.R_below hR.out (below_alloc (Below.refl _ _) _)
              have hne := Aside0.mk (Kd.R_ne hR6 hat (show 52 ≠ ty false by unfold ty; decide))
              have hbg := Aside0.mk hW.out.size
              replace hat := Aside0.mk hat
              replace hW6 := Aside0.mk hW6
              replace hR6 := Aside0.mk hR6
              go_wp2_with (first | ((with_reducible refine gate_builtin (b := .append) (xs := #[.tmp 60, .tmp 66]) rfl ?_); at_builtin; go_loud (refine Kd.R_append ksel (w0 := w3) w3.heap.size rfl (.tmp 60) (.tmp 66) 76 52 .nilIface 16 rfl Tryd.underlying76 (by kernel_rfl) rfl (by decide) (by omega) (.slice A2 out.length c2) out ⟨false, f, y⟩ [.iface 83 (.pointer (some ⟨w5.heap.size, 0, none⟩))] (fun _ => True) (fun k => k = w5.heap.size) rfl (by rw [World.size_alloc]; rfl) ?aP ?aX ?aF ?aO ?aB ?aS ?aL ?_); (case aP => exact ⟨w5.heap.size, rfl, rfl, hbg.out, hat.out⟩); (case aX => exact (fun k hk => ⟨trivial, hk ▸ hne.out⟩)); (case aB => exact hW6.out); (case aF => exact (fun _ _ => trivial)); (case aO => exact hR6.out); (case aS => exact below_size hW6.out); (case aL => have := hol.out; omega); intro v2 w7 ho hb hg hatt))
              replace ho := Aside0.mk ho
              replace hb := Aside0.mk hb
              clear hg hatt
              go_wp2_with fail
              go_roundw
              case rel => exact ⟨k + 1, _, hk2.out, by go_num, hsn2, hb, ho⟩
              case measure => simp [intOf]; omega
            · have hsn2 := Aside0.mk (show rawT (l.take (k + 1)) = some (out ++ [⟨false, f, y⟩]) by rw [hts, hsn]; rfl)
              clear hsn hts
              go_wp2_with fail
              refine (hst.out _).mono ?_
              rintro e w4 ⟨rfl, hb⟩
              replace hW := Aside0.mk (below_via hW.out hb)
              replace hR := Aside0.mk (Kd.R_below hR.out hb)
              clear hb hst
              go_wp2_with fail
              refine (hun2.out _).mono ?_
              rintro e w5 ⟨rfl, hb⟩
              replace hW := Aside0.mk (below_via hW.out hb)
              replace hR := Aside0.mk (Kd.R_below hR.out hb)
              clear hb hun2
              have hat : At (w5.alloc (.cells #[.string f, .string y] 84)) w5.heap.size ⟨false, f, y⟩ := heap_alloc_new w5 _
              have hW6 : Below w3.heap.size w3 (w5.alloc (.cells #[.string f, .string y] 84)) := below_alloc hW.out _
              have hR6 : SR (w5.alloc (.cells #[.string f, .string y] 84)) w3.heap.size (fun _ => True) (.slice A2 out.length c2) out := Kd.R_below hR.out (below_alloc (Below.refl _ _) _)
              have hne := Aside0.mk (Kd.R_ne hR6 hat (show 52 ≠ ty false by unfold ty; decide))
              have hbg := Aside0.mk hW.out.size
              replace hat := Aside0.mk hat
              replace hW6 := Aside0.mk hW6
              replace hR6 := Aside0.mk hR6
              go_wp2_with (first | ((with_reducible refine gate_builtin (b := .append) (xs := #[.tmp 70, .tmp 76]) rfl ?_); at_builtin; go_loud (refine Kd.R_append ksel (w0 := w3) w3.heap.size rfl (.tmp 70) (.tmp 76) 76 52 .nilIface 16 rfl Tryd.underlying76 (by kernel_rfl) rfl (by decide) (by omega) (.slice A2 out.length c2) out ⟨false, f, y⟩ [.iface 83 (.pointer (some ⟨w5.heap.size, 0, none⟩))] (fun _ => True) (fun k => k = w5.heap.size) rfl (by rw [World.size_alloc]; rfl) ?aP ?aX ?aF ?aO ?aB ?aS ?aL ?_); (case aP => exact ⟨w5.heap.size, rfl, rfl, hbg.out, hat.out⟩); (case aX => exact (fun k hk => ⟨trivial, hk ▸ hne.out⟩)); (case aB => exact hW6.out); (case aF => exact (fun _ _ => trivial)); (case aO => exact hR6.out); (case aS => exact below_size hW6.out); (case aL => have := hol.out; omega); intro v2 w7 ho hb hg hatt))
              replace ho := Aside0.mk ho
              replace hb := Aside0.mk hb
              clear hg hatt
              go_wp2_with fail
              go_roundw
              case rel => exact ⟨k + 1, _, hk2.out, by go_num, hsn2, hb, ho⟩
              case measure => simp [intOf]; omega
    · obtain rfl : k = l.length := by omega
      rw [List.take_length] at hT
      have hfin := Aside0.mk (show (rawT l).map keep = some (keep out) by rw [hT.out]; rfl)
      clear hT
      by_cases h1 : out.length = 1
      · have e1 : ((out.length : Int) == 1) = true := by rw [h1]; rfl
        have q3 : (0 : Int) < (out.length : Int) := by omega
        obtain ⟨g, cap, hv, hbase, hglt, cells, hcells⟩ := Kd.R_form hR.out (by omega)
        obtain ⟨rfl, rfl⟩ : A2 = some ⟨g, 0, none⟩ ∧ c2 = cap := by injection hv with e1 e2 e3; exact ⟨e1, e3⟩
        obtain ⟨A9, c9, hv2, hl9, hC9⟩ := Kd.R_reads hR.out
        obtain rfl : some ⟨g, 0, none⟩ = A9 := by injection hv2
        obtain ⟨ad2, b, he2, hcell, hat⟩ := sel_at hC9 (k := 0) (by omega)
        obtain rfl : ad2 = ⟨g, 0, none⟩ := (Option.some.inj he2).symm
        have hkp : keep out = if emp out[0] then [] else [out[0]] := by
          obtain ⟨t, ht⟩ := List.length_eq_one_iff.1 h1
          subst ht
          have := keep_snoc [] t
          simpa [keep] using this
        obtain ⟨t, ht⟩ : ∃ t, out[0] = t := ⟨_, rfl⟩
        rw [ht] at hkp hcell hat
        obtain ⟨ng, f, v⟩ := t
        rw [hkp] at hfin
        replace hat := Aside0.mk hat
        clear hv hv2 hbase hglt hcells hl9 hC9 he2 ht hkp
        replace h1 := Aside0.mk h1
        rcases ng with _ | _
        · replace hcell : wr.cell? ⟨g, 0, none⟩ = some (.iface 83 (.pointer (some ⟨b, 0, none⟩))) := by have h := hcell; simp only [Addr.add, Nat.add_zero] at h; exact h
          have a1 := na_has_Transform
          have a2 := me_has_Transform
          cases he : emp ⟨false, f, v⟩ with
          | true =>
            rw [he] at hfin
            have hc := Aside0.mk (tr_has_drop b f v wr hat.out he)
            clear he
            go_wp2_with fail
            refine hc.out.mono ?_
            rintro e w6 ⟨u, rfl, hu, hb⟩
            replace hu := Aside0.mk hu
            have hW2 := Aside0.mk (below_via hW.out hb)
            have hle := Aside0.mk (Nat.le_trans hB3.out.size hW.out.size)
            clear hb hc
            go_wp2_with fail
            go_ret2
            exact ⟨by rw [hfin.out]; exact ⟨_, rfl, .inr ⟨u, rfl, Kd.R_lower hu.out hle.out⟩⟩, below_via hB3.out hW2.out⟩
          | false =>
            rw [he] at hfin
            have hc := Aside0.mk (tr_has_keep b f v wr hat.out he)
            clear he
            go_wp2_with fail
            refine hc.out.mono ?_
            rintro e w6 ⟨b', rfl, hbg, hat', hb⟩
            replace hat' := Aside0.mk hat'
            have hW2 := Aside0.mk (below_via hW.out hb)
            have hle := Aside0.mk (Nat.le_trans (Nat.le_trans hB3.out.size hW.out.size) hbg)
            clear hb hc hbg
            go_wp2_with fail
            go_ret2
            exact ⟨by rw [hfin.out]; exact ⟨_, rfl, .inl ⟨⟨false, f, v⟩, rfl, ⟨b', rfl, trivial, hle.out, hat'.out⟩⟩⟩, below_via hB3.out hW2.out⟩
        · replace hcell : wr.cell? ⟨g, 0, none⟩ = some (.iface 80 (.pointer (some ⟨b, 0, none⟩))) := by have h := hcell; simp only [Addr.add, Nat.add_zero] at h; exact h
          have a1 := na_not_Transform
          have a2 := me_not_Transform
          cases he : emp ⟨true, f, v⟩ with
          | true =>
            rw [he] at hfin
            have hc := Aside0.mk (tr_not_drop b f v wr hat.out he)
            clear he
            go_wp2_with fail
            refine hc.out.mono ?_
            rintro e w6 ⟨u, rfl, hu, hb⟩
            replace hu := Aside0.mk hu
            have hW2 := Aside0.mk (below_via hW.out hb)
            have hle := Aside0.mk (Nat.le_trans hB3.out.size hW.out.size)
            clear hb hc
            go_wp2_with fail
            go_ret2
            exact ⟨by rw [hfin.out]; exact ⟨_, rfl, .inr ⟨u, rfl, Kd.R_lower hu.out hle.out⟩⟩, below_via hB3.out hW2.out⟩
          | false =>
            rw [he] at hfin
            have hc := Aside0.mk (tr_not_keep b f v wr hat.out he)
            clear he
            go_wp2_with fail
            refine hc.out.mono ?_
            rintro e w6 ⟨b', rfl, hbg, hat', hb⟩
            replace hat' := Aside0.mk hat'
            have hW2 := Aside0.mk (below_via hW.out hb)
            have hle := Aside0.mk (Nat.le_trans (Nat.le_trans hB3.out.size hW.out.size) hbg)
            clear hb hc hbg
            go_wp2_with fail
            go_ret2
            exact ⟨by rw [hfin.out]; exact ⟨_, rfl, .inl ⟨⟨true, f, v⟩, rfl, ⟨b', rfl, trivial, hle.out, hat'.out⟩⟩⟩, below_via hB3.out hW2.out⟩
      · have e1 : ((out.length : Int) == 1) = false := beq_eq_false_iff_ne.mpr (by omega)
        obtain ⟨A9, c9, hv2, hl9, hC9⟩ := Kd.R_reads hR.out
        obtain ⟨rfl, rfl⟩ : A2 = A9 ∧ c2 = c9 := by injection hv2 with e1 e2 e3; exact ⟨e1, e3⟩
        have hc := Aside0.mk (tr_and A2 out c2 (by have := hol.out; omega) wr hC9)
        replace h1 := Aside0.mk h1
        clear hv2 hl9 hC9
        go_wp2_with fail
        refine hc.out.mono ?_
        rintro e w6 ⟨u, rfl, hu, hb⟩
        replace hu := Aside0.mk hu
        have hW2 := Aside0.mk (below_via hW.out hb)
        have hle := Aside0.mk (Nat.le_trans hB3.out.size hW.out.size)
        clear hb hc
        go_wp2_with fail
        go_ret2
        exact ⟨by rw [hfin.out]; exact ⟨_, rfl, .inr ⟨u, rfl, Kd.R_lower hu.out hle.out⟩⟩, below_via hB3.out hW2.out⟩
theorem sel_calls (s : ByteArray) (hs : s.size ≤ 1099511627776) (hpt : pt s = true) (w : World) :
    Calls Tryd.prog 19 #[.string s] w fun e w' => PRes (termsOf s) w.heap.size e w' ∧ Below w.heap.size w w' := by
  have h := parse_calls s hs hpt w
  cases hr : termsOf s with
  | none =>
    rw [hr] at h
    replace h := Aside0.mk h
    clear hr
    go_enter Tryd.func19, Tryd.ntmps19
    go_wp2_with fail
    refine h.out.mono ?_
    rintro e w1 ⟨⟨t, p, rfl⟩, hb⟩
    replace hb := Aside0.mk hb
    go_wp2_with fail
    go_ret2
    exact ⟨⟨t, p, rfl⟩, hb.out⟩
  | some ts =>
    rw [hr] at h
    replace h := Aside0.mk h
    clear hr
    go_enter Tryd.func19, Tryd.ntmps19
    go_wp2_with fail
    refine h.out.mono ?_
    rintro e w1 ⟨⟨v, rfl, hM⟩, hb⟩
    replace hb := Aside0.mk hb
    replace hM := Aside0.mk hM
    go_wp2_with fail
    go_ret2
    exact ⟨⟨v, rfl, hM.out⟩, hb.out⟩
end Go.Proofs.YtccdnmachpepcaaDoor.FsR

set_option linter.unusedSimpArgs false
set_option linter.unusedVariables false
namespace Go.Proofs.YtccdnmachpepcaaDoor.FsV
open Go Go.RowKit Go.Proofs.YtccdnmachpepcaaDoor.FuM Go.Proofs.YtccdnmachpepcaaDoor.FsP Go.Proofs.YtccdnmachpepcaaDoor.FsK Go.Proofs.YtccdnmachpepcaaDoor.FsS Go.Proofs.YtccdnmachpepcaaDoor.FsC Go.Proofs.YtccdnmachpepcaaDoor.FsM Go.Proofs.YtccdnmachpepcaaDoor.FsN Go.Proofs.YtccdnmachpepcaaDoor.FsO Go.Proofs.YtccdnmachpepcaaDoor.FsQ Go.Proofs.YtccdnmachpepcaaDoor.FsR Go.Proofs.YtccdnmachpepcaaDoorW.PrintWords Go.Proofs.YtccdnmachpepcaaDoorW.PrintLast
theorem R_all {w : World} {base : Nat} {ok : Nat → Prop} {u : Value} {l : List Tm} (h : SR w base ok u l) : ∃ A c, u = .slice A l.length c ∧ (A ≠ none ∨ c = 0) ∧ ksel.C w A l.length l := by
  obtain ⟨A, c, rfl, hl, hC⟩ := Kd.R_reads h
  refine ⟨A, c, rfl, ?_, hC⟩
  obtain ⟨inner, ho⟩ := Kd.R_own h
  rcases ho.2 with ⟨hv, _⟩ | ⟨g, cap, cur, hv, _⟩
  · injection hv with e1 e2 e3; exact .inr e3
  · injection hv with e1 e2 e3; exact .inl (by rw [e1]; simp)
theorem sel_cases {w : World} {base : Nat} {ok : Nat → Prop} {ts : List Tm} {v : Value} (h : kwrap.M w base ok ts [v]) :
    (∃ f x b, ts = [⟨false, f, x⟩] ∧ v = .iface 83 (.pointer (some ⟨b, 0, none⟩)) ∧ At w b ⟨false, f, x⟩) ∨
    (∃ f x b, ts = [⟨true, f, x⟩] ∧ v = .iface 80 (.pointer (some ⟨b, 0, none⟩)) ∧ At w b ⟨true, f, x⟩) ∨
    (∃ A c, v = .iface 86 (.slice A ts.length c) ∧ (A ≠ none ∨ c = 0) ∧ ksel.C w A ts.length ts) := by
  rcases h with ⟨⟨ng, f, x⟩, rfl, b, hc, _, _, hat⟩ | ⟨u, hc, hR⟩
  · injection hc with hc _
    cases ng with
    | false => exact .inl ⟨f, x, b, rfl, hc, hat⟩
    | true => exact .inr (.inl ⟨f, x, b, rfl, hc, hat⟩)
  · injection hc with hc _
    obtain ⟨A, c, rfl, hA, hC⟩ := R_all hR
    exact .inr (.inr ⟨A, c, hc, hA, hC⟩)
theorem cut_fst (s : ByteArray) : ∀ (n i : Nat), (cutFrom s n i).1.size ≤ s.size := by
  intro n
  induction n with
  | zero => intro i; exact Nat.zero_le _
  | succ n ih =>
    intro i
    unfold cutFrom
    cases FsC.opAt s i with
    | none => exact ih (i + 1)
    | some op => simp only; rw [ByteArray.size_extract]; omega
theorem rawT_mem (l : List ByteArray) : ∀ out, rawT l = some out → ∀ t ∈ out, ∃ p ∈ l, t.f = (cutFrom p p.size 0).1 := by
  induction l with
  | nil => intro out h; cases h; intro t ht; cases ht
  | cons q l ih =>
    intro out h t ht
    unfold rawT at h
    cases hq : termOf q with
    | none => rw [hq] at h; cases h
    | some t1 =>
      rw [hq] at h
      cases t1 with
      | none =>
        obtain ⟨p, hp, e⟩ := ih out h t ht
        exact ⟨p, List.mem_cons_of_mem _ hp, e⟩
      | some t1 =>
        simp only at h
        cases hr : rawT l with
        | none => rw [hr] at h; cases h
        | some x =>
          rw [hr] at h; cases h
          rcases List.mem_cons.1 ht with rfl | ht
          · refine ⟨q, by simp, ?_⟩
            unfold termOf at hq
            split at hq
            · cases hq
            · split at hq
              · split at hq
                · cases hq
                · cases hq; rfl
              · cases hq
          · obtain ⟨p, hp, e⟩ := ih x hr t ht
            exact ⟨p, List.mem_cons_of_mem _ hp, e⟩
theorem terms_size (s : ByteArray) (ts : List Tm) (h : termsOf s = some ts) : (∀ t ∈ ts, t.f.size ≤ s.size) ∧ ts.length ≤ s.size + 1 := by
  unfold termsOf at h
  cases hr : rawT (srt (pieces s)) with
  | none => rw [hr] at h; cases h
  | some out =>
    rw [hr] at h
    cases h
    refine ⟨fun t ht => ?_, ?_⟩
    · obtain ⟨p, hp, e⟩ := rawT_mem _ out hr t (List.mem_filter.1 ht).1
      rw [e]
      exact Nat.le_trans (cut_fst p _ _) (pieces_size s p ((srt_mem _ p).1 hp))
    · have h1 := rawT_length _ out hr
      rw [srt_length] at h1
      have h2 := pieces_length s
      have h3 := keep_length out
      omega
end Go.Proofs.YtccdnmachpepcaaDoor.FsV
