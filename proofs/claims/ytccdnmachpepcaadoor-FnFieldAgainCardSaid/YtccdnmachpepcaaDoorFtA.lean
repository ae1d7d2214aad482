/- append of a row whose type has another name. -/
import Derived.Test.YtccdnmachpepcaaDoorWMore
import Derived.Test.YtccdnmachpepcaaDoorFsH
import Derived.Lib.SliceRun
set_option linter.unusedSimpArgs false
set_option linter.unusedVariables false
namespace Go.Proofs.YtccdnmachpepcaaDoor.FsZ
open Go Go.RowKit Go.Proofs.YtccdnmachpepcaaDoorW.PrintWords Go.Proofs.YtccdnmachpepcaaDoorW.PrintLast
theorem append_types {P : Program} (W : World) (t t' e ty : TypeId) (b : Option Addr) (n k : Nat) (x : Value) (ht : P.underlying t = some (.slice e)) (ht' : P.underlying t' = some (.slice e)) (i0 : TypeInfo) (hi : P.info? e = some i0) :
    (Builtin.append_ #[t, t'] ty #[.slice b n k, x]).run P W = (Builtin.append_ #[t, t] ty #[.slice b n k, x]).run P W := by
  simp [Builtin.append_, run_underlying ht, run_underlying ht', sizeOf, typeInfo, hi]
section
open Go.Proofs.YtccdnmachpepcaaDoorW.PrintWords.Kd
variable {P : Program} {ops : Array Oper} {rest : List Oper} {o : Oper} {a : Act} {Q : Exit → Act → World → Prop} {α : Type}
theorem R_append_rows2 (d : Kd α) {Rr : α → List Value → Prop} {w0 W : World} (base : Nat) (hgd : o.guard = none) (s x : Operand) (t t' e : TypeId) (z : Value) (bytes : Nat)
    (ho : o.op = .call { callee := .builtin .append, args := #[s, x], argTypes := #[t, t'] })
    (ht : P.underlying t = some (.slice e)) (ht' : P.underlying t' = some (.slice e)) (hinfo : (P.info? e).map (fun i => (i.zero, i.size, i.bytes)) = some (some z, d.sz, bytes)) (hz : z.cells.size = d.sz) (hs0 : 0 < d.sz) (hb0 : 0 < bytes)
    (v : Value) (xs ys : List α) (A : Option Addr) (m c : Nat) (ok okp : Nat → Prop) (hs : a.eval s = v) (hx : a.eval x = .slice A m c)
    (HO : d.R e W base ok v xs) (HR : ReadsRow Rr d.sz W A m ys) (hKM : ∀ x cs, Rr x cs → d.M W base okp x cs) (hokp : ∀ k, okp k → ok k ∧ some k ≠ v.ownBlock) (hfresh : ∀ k, W.heap.size ≤ k → ok k)
    (HB : Below base w0 W) (hbase : base ≤ W.heap.size) (hl : (xs.length + m) * bytes ≤ 140737488355328)
    (h : ∀ v1 w1, d.R e w1 base ok v1 (xs ++ ys) → Below base w0 w1 → W.grownBy w1 v.ownBlock → (v1.ownBlock = v.ownBlock ∨ ∃ b, v1.ownBlock = some b ∧ W.heap.size ≤ b) → wpList P ops Q rest (a.put o.dst v1) w1) :
    wpList P ops Q (o :: rest) a W := by
  obtain ⟨i0, hi, hzz⟩ := Option.map_eq_some_iff.1 hinfo
  simp only [Prod.mk.injEq] at hzz
  obtain ⟨hz0, hz1, hz2⟩ := hzz
  have hm : ys.length = m := HR.1
  have hlen : xs.length + m ≤ 140737488355328 := Nat.le_trans (Nat.le_mul_of_pos_right _ hb0) hl
  obtain ⟨hok, inner, hown, hr⟩ := HO
  have hrun : ∃ v1 w1, (Builtin.append_ #[t, t] o.type #[v, .slice A m c]).run P W = .ok v1 w1 ∧ d.R e w1 base ok v1 (xs ++ ys) ∧ W.grownBy w1 v.ownBlock ∧ (v1.ownBlock = v.ownBlock ∨ ∃ b, v1.ownBlock = some b ∧ W.heap.size ≤ b) := by
    rcases A with _ | ad
    · have h0 : m = 0 := by
        rcases Nat.eq_zero_or_pos m with h0 | h0
        · exact h0
        · obtain ⟨ad, h, _⟩ := HR.2.2 h0
          cases h
      subst h0
      obtain rfl : ys = [] := List.eq_nil_of_length_eq_zero hm
      refine ⟨v, W, ?_, by rw [List.append_nil]; exact ⟨hok, inner, hown, hr⟩, World.grownBy.refl W _, .inl rfl⟩
      rcases hown.2 with ⟨rfl, hn⟩ | ⟨g, cap, cur, rfl, _, _, hnc, _⟩
      · simp [Builtin.append_, run_underlying ht, sizeOf, typeInfo, hi, Builtin.lenOf, Builtin.firstCells]
      · simp [Builtin.append_, run_underlying ht, sizeOf, typeInfo, hi, Builtin.lenOf, Builtin.firstCells, hnc, storeCells]
    · obtain ⟨news, hnr, hnc⟩ := ReadsRow.inner_ HR
      have hnM : Reps (d.M W base okp) d.sz ys news := hnr.imp_ (fun p c hp => hKM p c hp)
      have hone : ∀ u ∈ news, u.oneCell' = true := by
        intro u hu
        obtain ⟨q, hq, rfl⟩ := List.mem_iff_getElem.1 hu
        have hql : q / d.sz < ys.length := by
          rw [Nat.div_lt_iff_lt_mul hs0]
          rw [← hnM.1]
          exact hq
        have hc := hnM.2 (q / d.sz) _ (List.getElem?_eq_getElem hql)
        refine d.K_one (d.K_of_M hc) _ ?_
        rw [List.mem_iff_getElem?]
        refine ⟨q % d.sz, ?_⟩
        rw [List.getElem?_take, if_pos (Nat.mod_lt _ hs0), List.getElem?_drop, Nat.mul_comm, Nat.div_add_mod, List.getElem?_eq_getElem hq]
      obtain ⟨v1, w1, hrun, h2, hg, _, hat⟩ := run_append_own_at (P := P) W base t o.type e i0 z d.sz bytes ht hi hz0 hz1 hz2 hz hs0 v xs.length inner hown ad m c news (by rw [hnM.1, hm]) hnc hone (by simp only [maxLen]; omega) hl hbase
      have hat' : v1.ownBlock = v.ownBlock ∨ ∃ b, v1.ownBlock = some b ∧ W.heap.size ≤ b := by
        rcases hat with hat | hat
        · exact .inl hat
        · exact .inr ⟨_, hat, Nat.le_refl _⟩
      have hne : ∀ k, some k ≠ v.ownBlock → k < W.heap.size → some k ≠ v1.ownBlock := by
        intro k hk hlt
        rcases hat' with hat | ⟨b, hb, hle⟩
        · rw [hat]; exact hk
        · rw [hb]
          intro he
          injection he with he
          omega
      have step : ∀ {q : α} {c : List Value} {o : Nat → Prop}, d.M W base o q c → (∀ k, o k → ok k ∧ some k ≠ v.ownBlock) → d.M w1 base (fun k => ok k ∧ some k ≠ v1.ownBlock) q c := by
        intro q c o hq ho
        have h1 := d.M_move (w1 := w1) (fun k hk => hg.block k hk.2.2.1 (ho k hk.1).2) (d.M_bound hq)
        exact d.M_mono (fun k hk => ⟨(ho k hk.1).1, hne k (ho k hk.1).2 hk.2.2.1⟩) h1
      refine ⟨v1, w1, hrun, ⟨fun k hk => ?_, inner ++ news, by rw [List.length_append, hm]; exact h2, reps_append (hr.imp_ (fun _ _ hq => step hq (fun _ hk => hk))) (hnM.imp_ (fun _ _ hq => step hq hokp))⟩, hg, hat'⟩
      rcases hat' with hat | ⟨b, hb, hle⟩
      · exact hok k (hat ▸ hk)
      · rw [hb] at hk
        injection hk with hk
        exact hfresh k (by omega)
  obtain ⟨v1, w1, hr1, h1, hg, hat⟩ := hrun
  obtain ⟨vb, vn, vk, hv0⟩ : ∃ vb vn vk, v = .slice vb vn vk := by rcases hown.2 with ⟨rfl, _⟩ | ⟨g, cap, cur, rfl, _⟩ <;> exact ⟨_, _, _, rfl⟩
  have hr2 : (Builtin.append_ #[t, t'] o.type #[v, .slice A m c]).run P W = .ok v1 w1 := by rw [hv0]; exact (append_types W t t' e o.type vb vn vk (.slice A m c) ht ht' i0 hi).trans (by rw [← hv0]; exact hr1)
  refine wpList_plain hgd fun K hK => ?_
  unfold Oper.wp execOp
  simp only [ho, resolve, invoke, builtin, Sem.run_bind, Sem.run_pure, Result.andThen_ok, List.map_toArray, List.map_cons, List.map_nil, hs, hx, hr2]
  exact hK _ _ (h v1 w1 h1 (HB.grown hg hbase (own_base hown)) hg hat)
end
end Go.Proofs.YtccdnmachpepcaaDoor.FsZ

set_option linter.unusedSimpArgs false
set_option linter.unusedVariables false
namespace Go.Proofs.YtccdnmachpepcaaDoor.FtR
open Go Go.RowKit Go.Proofs.YtccdnmachpepcaaDoor.FsK Go.Proofs.YtccdnmachpepcaaDoor.FsS Go.Proofs.YtccdnmachpepcaaDoor.FsM Go.Proofs.YtccdnmachpepcaaDoor.FsN Go.Proofs.YtccdnmachpepcaaDoorW.PrintWords Go.Proofs.YtccdnmachpepcaaDoorW.PrintLast
/-- A term's operator. -/
def opOf (t : Tm) : ByteArray := if t.neg then ⟨#[33, 61]⟩ else ⟨#[61]⟩
/-- A requirement: operator, field, value. -/
def kreq : Kd Tm := Kd.iso (Kd.pair Kd.string (Kd.pair Kd.string Kd.string)) (fun t : Tm => (opOf t, t.f, t.v))
theorem kreq_M (w : World) (base : Nat) (ok : Nat → Prop) (t : Tm) : kreq.M w base ok t [.string (opOf t), .string t.f, .string t.v] := ⟨[_], [_, _], rfl, rfl, [_], [_], rfl, rfl, rfl⟩
theorem kreq_open {w : World} {x : Tm} {cs : List Value} (h : kreq.K w x cs) : cs = [.string (opOf x), .string x.f, .string x.v] := by
  obtain ⟨_, _, rfl, rfl, _, _, rfl, rfl, rfl⟩ := h
  rfl
theorem kreq_MK {w W : World} {base : Nat} {ok : Nat → Prop} {x : Tm} {cs : List Value} (h : kreq.K w x cs) : kreq.M W base ok x cs := by
  rw [kreq_open h]; exact kreq_M _ _ _ _
abbrev QR (w : World) (base : Nat) (v : Value) (l : List Tm) : Prop := kreq.R 73 w base (fun _ => True) v l
theorem R_one1 {W : World} {g base : Nat} {t : Tm} (hh : W.heap[g]? = some (.cells #[.string (opOf t), .string t.f, .string t.v] 73 (0, 0))) (hb : base ≤ g) : QR W base (.slice (some ⟨g, 0, none⟩) 1 1) [t] := by
  refine ⟨fun k hk => trivial, [.string (opOf t), .string t.f, .string t.v], ⟨rfl, .inr ⟨g, 1, _, rfl, hb, hh, Nat.le_refl _, by decide, rfl, rfl⟩⟩, rfl, ?_⟩
  intro j p hj
  rcases j with _ | j
  · obtain rfl : t = p := by simpa using hj
    exact kreq_M _ _ _ _
  · simp at hj
theorem R_room3 (w : World) (z : Array Value) (n : Nat) (hn : n ≤ maxLen) :
    QR (w.alloc (.cells (madeCells z (n * 3)) 73)) w.heap.size (.slice (some ⟨w.heap.size, 0, none⟩) 0 n) [] :=
  ⟨fun k hk => trivial, [], ⟨by simp, .inr ⟨w.heap.size, n, madeCells z (n * 3), rfl, Nat.le_refl _, heap_alloc_new w _, Nat.zero_le _, hn, by rw [size_madeCells]; rfl, by simp⟩⟩, Reps.none _ _⟩
theorem info_rq : (Tryd.prog.info? 73).map (fun i => (i.zero, i.size, i.bytes)) = some (some (.agg #[(.string ⟨#[]⟩), (.string ⟨#[]⟩), (.string ⟨#[]⟩)]), 3, 48) := by kernel_rfl
theorem na_has_Requirements (p : Option Addr) (w : World) : Sem.run Tryd.prog (nilAhead 266 83 (.pointer p) "Requirements") w = .ok (some false) w := by kernel_rfl
theorem me_has_Requirements (p : Option Addr) (w : World) : Sem.run Tryd.prog (method 266 83 (.pointer p) "Requirements") w = .ok (106, .pointer p) w := by kernel_rfl
set_option maxHeartbeats 2000000 in
set_option maxRecDepth 100000 in
theorem rq_has (b : Nat) (f v : ByteArray) (w : World) (h : At w b ⟨false, f, v⟩) :
    Calls Tryd.prog 106 #[.pointer (some ⟨b, 0, none⟩)] w fun e w' => ∃ u, e = .returned u ∧ QR w' w.heap.size u [⟨false, f, v⟩] ∧ Below w.heap.size w w' := by
  obtain ⟨z0, z1⟩ := at_c h
  clear h
  go_enter Tryd.func106, Tryd.ntmps106
  go_wp2_with fail
  go_region
  all_goals (go_wp2_with fail)
  all_goals
    go_ret
    exact ⟨_, rfl, R_one1 (t := ⟨false, f, v⟩) (heap_alloc_new _ _) (Nat.le_refl _), below_alloc (pw_below_drewN (Below.refl _ _) _) _⟩
theorem na_not_Requirements (p : Option Addr) (w : World) : Sem.run Tryd.prog (nilAhead 266 80 (.pointer p) "Requirements") w = .ok (some false) w := by kernel_rfl
theorem me_not_Requirements (p : Option Addr) (w : World) : Sem.run Tryd.prog (method 266 80 (.pointer p) "Requirements") w = .ok (97, .pointer p) w := by kernel_rfl
set_option maxHeartbeats 2000000 in
set_option maxRecDepth 100000 in
theorem rq_not (b : Nat) (f v : ByteArray) (w : World) (h : At w b ⟨true, f, v⟩) :
    Calls Tryd.prog 97 #[.pointer (some ⟨b, 0, none⟩)] w fun e w' => ∃ u, e = .returned u ∧ QR w' w.heap.size u [⟨true, f, v⟩] ∧ Below w.heap.size w w' := by
  obtain ⟨z0, z1⟩ := at_c h
  clear h
  go_enter Tryd.func97, Tryd.ntmps97
  go_wp2_with fail
  go_region
  all_goals (go_wp2_with fail)
  all_goals
    go_ret
    exact ⟨_, rfl, R_one1 (t := ⟨true, f, v⟩) (heap_alloc_new _ _) (Nat.le_refl _), below_alloc (pw_below_drewN (Below.refl _ _) _) _⟩
set_option maxHeartbeats 6400000 in
set_option maxRecDepth 100000 in
theorem rq_and (A : Option Addr) (l : List Tm) (c : Nat) (hl : l.length ≤ 1099511627776) (w : World) (hC : ksel.C w A l.length l) :
    Calls Tryd.prog 113 #[.slice A l.length c] w fun e w' => ∃ u, e = .returned u ∧ QR w' w.heap.size u l ∧ Below w.heap.size w w' := by
  have hmk : (Instr.makeSlice 68 (.int .i64 0) (.int .i64 (l.length : Int))).run Tryd.prog w = .ok (.slice (some ⟨w.heap.size, 0, none⟩) 0 l.length) (w.alloc (.cells (madeCells #[(.string ⟨#[]⟩), (.string ⟨#[]⟩), (.string ⟨#[]⟩)] (l.length * 3)) 73)) := by
    obtain ⟨i0, hi, hzz⟩ := Option.map_eq_some_iff.1 info_rq
    simp only [Prod.mk.injEq] at hzz
    obtain ⟨hz0, hz1, hz2⟩ := hzz
    have h := run_make w 68 73 i0 _ Tryd.underlying68 hi hz0 .i64 .i64 0 (l.length : Int) (Int.le_refl _) (by omega) (by rw [hz2]; omega) (by omega)
    rw [hz1] at h
    exact h
  obtain ⟨w1, hw1⟩ : ∃ w1, w1 = w.alloc (.cells (madeCells #[(.string ⟨#[]⟩), (.string ⟨#[]⟩), (.string ⟨#[]⟩)] (l.length * 3)) 73) := ⟨_, rfl⟩
  have hR1 : QR w1 w.heap.size (.slice (some ⟨w.heap.size, 0, none⟩) 0 l.length) [] := by
    rw [hw1]
    exact R_room3 _ _ l.length (by unfold maxLen; omega)
  have hB1 : Below w.heap.size w w1 := by rw [hw1]; exact below_alloc (Below.refl _ _) _
  rw [← hw1] at hmk
  clear hw1
  replace hR1 := Aside0.mk hR1
  replace hB1 := Aside0.mk hB1
  have hCx := Aside0.mk hC
  have hlx := Aside0.mk hl
  clear hC
  go_enter Tryd.func113, Tryd.ntmps113
  go_wp2_with fail
  clear hmk
  go_loopw [3, 12] (fun v i wr => ∃ (k : Nat), k ≤ l.length ∧ i = .int .i64 (k : Int) ∧ Aside0 (Below w.heap.size w wr) ∧ Aside0 (QR wr w.heap.size v (l.take k))) (fun _ i _ => l.length - (intOf i).toNat)
  case atStart => exact ⟨0, by omega, rfl, hB1, hR1⟩
  case round =>
    obtain ⟨k, hk, rfl, hB, hR⟩ := hrel
    obtain ⟨xs, hxs⟩ : ∃ xs, l.take k = xs := ⟨_, rfl⟩
    rw [hxs] at hR
    have hxl := Aside0.mk (show xs.length ≤ l.length by rw [← hxs]; rw [List.length_take]; omega)
    obtain ⟨A2, c2, rfl⟩ := Kd.R_slice hR.out
    by_cases hlt : k < l.length
    · obtain ⟨ad, b, rfl, hcell, hat⟩ := sel_at (Kd.C_below hCx.out hB.out) hlt
      have hts : l.take (k + 1) = xs ++ [l[k]] := by rw [List.take_succ_eq_append_getElem hlt, hxs]
      obtain ⟨t, ht⟩ : ∃ t, l[k] = t := ⟨_, rfl⟩
      rw [ht] at hcell hat hts
      clear ht hxs
      replace hts := Aside0.mk hts
      obtain ⟨ng, f, v⟩ := t
      replace hat := Aside0.mk hat
      have hk2 := Aside0.mk (show k + 1 ≤ l.length by omega)
      have q0 : (0 : Int) ≤ (k : Int) := Int.natCast_nonneg k
      have q1 : (k : Int) < (l.length : Int) := by omega
      rcases ng with _ | _
      · replace hcell : wr.cell? (ad.add k) = some (.iface 83 (.pointer (some ⟨b, 0, none⟩))) := hcell
        have a1 := na_has_Requirements
        have a2 := me_has_Requirements
        have hc := Aside0.mk (rq_has b f v wr hat.out)
        go_wp2_with fail
        refine hc.out.mono ?_
        rintro e w6 ⟨u, rfl, hu, hb⟩
        obtain ⟨A3, c3, rfl, hl3, hC3⟩ := Kd.R_reads hu
        have hR2 := Aside0.mk (Kd.R_below hR.out hb)
        have hB2 := Aside0.mk (below_then hB.out hB.out.size hb)
        replace hC3 := Aside0.mk hC3
        clear hu hb hc
        go_wp2_with (first | ((with_reducible refine gate_builtin (b := .append) (xs := #[.tmp 18, .tmp 19]) rfl ?_); at_builtin; go_loud (refine FsZ.R_append_rows2 kreq (Rr := kreq.K w6) (w0 := w) w.heap.size rfl (.tmp 18) (.tmp 19) 68 69 73 (.agg #[(.string ⟨#[]⟩), (.string ⟨#[]⟩), (.string ⟨#[]⟩)]) 48 rfl Tryd.underlying68 Tryd.underlying69 info_rq rfl (by decide) (by omega) (.slice A2 xs.length c2) xs [⟨false, f, v⟩] A3 1 c3 (fun _ => True) (fun _ => False) rfl rfl ?aO ?aR (fun _ _ h => kreq_MK h) (fun _ h => h.elim) (fun _ _ => trivial) ?aB ?aS ?aL ?_); (case aO => exact hR2.out); (case aR => exact hC3.out); (case aB => exact hB2.out); (case aS => exact below_size hB2.out); (case aL => have := hlx.out; have := hxl.out; omega); intro v2 w2 ho hb hg hatt))
        replace ho := Aside0.mk ho
        replace hb := Aside0.mk hb
        clear hg hatt
        go_wp2_with fail
        go_roundw
        case rel => exact ⟨k + 1, hk2.out, by go_num, hb, ⟨by rw [hts.out]; exact ho.out⟩⟩
        case measure => simp [intOf]; omega
      · replace hcell : wr.cell? (ad.add k) = some (.iface 80 (.pointer (some ⟨b, 0, none⟩))) := hcell
        have a1 := na_not_Requirements
        have a2 := me_not_Requirements
        have hc := Aside0.mk (rq_not b f v wr hat.out)
        go_wp2_with fail
        refine hc.out.mono ?_
        rintro e w6 ⟨u, rfl, hu, hb⟩
        obtain ⟨A3, c3, rfl, hl3, hC3⟩ := Kd.R_reads hu
        have hR2 := Aside0.mk (Kd.R_below hR.out hb)
        have hB2 := Aside0.mk (below_then hB.out hB.out.size hb)
        replace hC3 := Aside0.mk hC3
        clear hu hb hc
        go_wp2_with (first | ((with_reducible refine gate_builtin (b := .append) (xs := #[.tmp 18, .tmp 19]) rfl ?_); at_builtin; go_loud (refine FsZ.R_append_rows2 kreq (Rr := kreq.K w6) (w0 := w) w.heap.size rfl (.tmp 18) (.tmp 19) 68 69 73 (.agg #[(.string ⟨#[]⟩), (.string ⟨#[]⟩), (.string ⟨#[]⟩)]) 48 rfl Tryd.underlying68 Tryd.underlying69 info_rq rfl (by decide) (by omega) (.slice A2 xs.length c2) xs [⟨true, f, v⟩] A3 1 c3 (fun _ => True) (fun _ => False) rfl rfl ?aO ?aR (fun _ _ h => kreq_MK h) (fun _ h => h.elim) (fun _ _ => trivial) ?aB ?aS ?aL ?_); (case aO => exact hR2.out); (case aR => exact hC3.out); (case aB => exact hB2.out); (case aS => exact below_size hB2.out); (case aL => have := hlx.out; have := hxl.out; omega); intro v2 w2 ho hb hg hatt))
        replace ho := Aside0.mk ho
        replace hb := Aside0.mk hb
        clear hg hatt
        go_wp2_with fail
        go_roundw
        case rel => exact ⟨k + 1, hk2.out, by go_num, hb, ⟨by rw [hts.out]; exact ho.out⟩⟩
        case measure => simp [intOf]; omega
    · obtain rfl : k = l.length := by omega
      rw [List.take_length] at hxs
      subst hxs
      go_wp2_with fail
      go_ret
      exact ⟨_, rfl, hR.out, hB.out⟩
end Go.Proofs.YtccdnmachpepcaaDoor.FtR

set_option linter.unusedSimpArgs false
set_option linter.unusedVariables false
namespace Go.Proofs.YtccdnmachpepcaaDoor.FtT
open Go Go.RowKit Go.Proofs.YtccdnmachpepcaaDoor.FsK Go.Proofs.YtccdnmachpepcaaDoor.FsS Go.Proofs.YtccdnmachpepcaaDoor.FsM Go.Proofs.YtccdnmachpepcaaDoor.FsN Go.Proofs.YtccdnmachpepcaaDoor.FsV Go.Proofs.YtccdnmachpepcaaDoor.FtR Go.Proofs.YtccdnmachpepcaaDoorW.PrintWords Go.Proofs.YtccdnmachpepcaaDoorW.PrintLast
/-- A requirement as data: field, operator, value. -/
def kt : Kd Tm := Kd.iso (Kd.pair Kd.string (Kd.pair Kd.string Kd.string)) (fun t : Tm => (t.f, opOf t, t.v))
theorem kt_M (w : World) (base : Nat) (ok : Nat → Prop) (t : Tm) : kt.M w base ok t [.string t.f, .string (opOf t), .string t.v] := ⟨[_], [_, _], rfl, rfl, [_], [_], rfl, rfl, rfl⟩
abbrev DR (w : World) (base : Nat) (v : Value) (l : List Tm) : Prop := kt.R 50 w base (fun _ => True) v l
theorem info_tm : (Tryd.prog.info? 50).map (fun i => (i.zero, i.size, i.bytes)) = some (some (.agg #[(.string ⟨#[]⟩), (.string ⟨#[]⟩), (.string ⟨#[]⟩)]), 3, 48) := by kernel_rfl
def zt : Tm := ⟨false, ⟨#[]⟩, ⟨#[]⟩⟩
def rdt (xs : List Tm) (i : Int) : Tm := xs.getD i.toNat zt
theorem at_kr {w : World} {A : Option Addr} {n : Nat} {xs : List Tm} (h : Kd.C kreq w A n xs) (i : Int) (h0 : 0 ≤ i) (h1 : i < n) : ∃ ad, A = some ad ∧ w.cell? (ad.add (i.toNat * 3)) = some (.string (opOf (rdt xs i))) ∧ w.cell? ⟨(ad.add (i.toNat * 3)).block, (ad.add (i.toNat * 3)).off + 1, none⟩ = some (.string (rdt xs i).f) ∧ w.cell? ⟨(ad.add (i.toNat * 3)).block, (ad.add (i.toNat * 3)).off + 2, none⟩ = some (.string (rdt xs i).v) := by
  obtain ⟨ad, c, e, _, hK, hc0⟩ := Kd.C_get h zt i h0 h1
  have hc : ∀ j u, c[j]? = some u → w.cell? (ad.add (i.toNat * 3 + j)) = some u := hc0
  obtain rfl := kreq_open hK
  exact ⟨ad, e, hc 0 _ rfl, by rw [← add_field _ _ 1 (by omega)]; exact hc 1 _ rfl, by rw [← add_field _ _ 2 (by omega)]; exact hc 2 _ rfl⟩
theorem at_oft {l : List Tm} {k : Nat} {x : Tm} (h : rdt l (k : Int) = x) (hk : k < l.length) : l[k]? = some x := by
  rw [← h]
  simp [rdt, hk]
theorem na_and_Requirements (A : Option Addr) (n c : Nat) (w : World) : Sem.run Tryd.prog (nilAhead 266 86 (.slice A n c) "Requirements") w = .ok (some false) w := by kernel_rfl
theorem me_and_Requirements (A : Option Addr) (n c : Nat) (w : World) : Sem.run Tryd.prog (method 266 86 (.slice A n c) "Requirements") w = .ok (113, .slice A n c) w := by kernel_rfl
set_option maxHeartbeats 6400000 in
set_option maxRecDepth 100000 in
theorem terms_calls (ts : List Tm) (hts : ts.length ≤ 1099511627776) (v : Value) (base : Nat) (ok : Nat → Prop) (w : World) (hM : kwrap.M w base ok ts [v]) :
    Calls Tryd.prog 21 #[v] w fun e w' => ∃ u, e = .returned u ∧ DR w' w.heap.size u ts ∧ Below w.heap.size w w' := by
  have hlx := Aside0.mk hts
  rcases sel_cases hM with ⟨f, x, b, rfl, rfl, hat⟩ | ⟨f, x, b, rfl, rfl, hat⟩ | ⟨A, c, rfl, hA, hC⟩
  · have a1 := na_has_Requirements
    have a2 := me_has_Requirements
    have hc := Aside0.mk (rq_has b f x w hat)
    clear hM hts
    go_enter Tryd.func21, Tryd.ntmps21
    go_wp2_with fail
    refine hc.out.mono ?_
    rintro e w1 ⟨u, rfl, hu, hb⟩
    obtain ⟨A3, c3, rfl, hl3, hC3⟩ := Kd.R_reads hu
    have hB1 := Aside0.mk hb
    have hR1 : Aside0 (DR w1 w1.heap.size (.slice none 0 0) []) := ⟨Kd.R_nil _ _ _ _ _⟩
    replace hC3 := Aside0.mk hC3
    clear hu hb hc
    obtain ⟨l, hl⟩ : ∃ l, [(⟨false, f, x⟩ : Tm)] = l := ⟨_, rfl⟩
    rw [hl] at hC3 hlx ⊢
    replace hl := Aside0.mk hl
    have hll := hlx.out
    have hu73 := Tryd.underlying73
    go_wp2_with fail
    go_loopw [3, 9] (fun v i wr => ∃ (k : Nat), k ≤ l.length ∧ i = .int .i64 (k : Int) ∧ Aside0 (Below w1.heap.size w1 wr) ∧ Aside0 (DR wr w1.heap.size v (l.take k))) (fun _ i _ => l.length - (intOf i).toNat)
    case atStart => exact ⟨0, by omega, rfl, ⟨Below.refl _ _⟩, hR1⟩
    case round =>
      obtain ⟨k, hk, rfl, hY, hR⟩ := hrel
      obtain ⟨xs, hxs⟩ : ∃ xs, l.take k = xs := ⟨_, rfl⟩
      rw [hxs] at hR
      have hxl := Aside0.mk (show xs.length ≤ l.length by rw [← hxs]; rw [List.length_take]; omega)
      obtain ⟨A2, c2, rfl⟩ := Kd.R_slice hR.out
      by_cases hlt : (k : Int) < (l.length : Int)
      · obtain ⟨x, hx⟩ : ∃ x, rdt l (k : Int) = x := ⟨_, rfl⟩
        have hxk : l[k]? = some x := at_oft hx (by omega)
        have p := Int.natCast_nonneg k
        obtain ⟨ad, e1, hcell, hcell2, hcell3⟩ := at_kr (Kd.C_below hC3.out hY.out) (k : Int) p hlt
        rw [hx, Int.toNat_natCast] at hcell hcell2 hcell3
        cases e1
        have hts := Aside0.mk (show l.take (k + 1) = xs ++ [x] by rw [List.take_add_one, hxk, hxs]; rfl)
        have c3b := decide_eq_true hlt
        have hk2 := Aside0.mk (show k + 1 ≤ l.length by omega)
        obtain ⟨op, hop⟩ : ∃ op, opOf x = op := ⟨_, rfl⟩
        rw [hop] at hcell
        have hKM := kt_M (wr.alloc (.cells #[.string op, .string x.f, .string x.v] 73)) w1.heap.size (fun _ => False) x
        rw [hop] at hKM
        replace hKM := Aside0.mk hKM
        obtain ⟨ng, f, v⟩ := x
        simp only at hcell2 hcell3 hKM
        replace p := eq_true p
        replace hlt := eq_true hlt
        have hRx := Aside0.mk (Kd.R_alloc hR.out (.cells #[.string op, .string f, .string v] 73))
        have hYx := Aside0.mk (below_alloc hY.out (.cells #[.string op, .string f, .string v] 73))
        clear hxk hxs hx hop
        go_wp2_with (first | ((with_reducible refine gate_builtin (b := .append) (xs := #[.tmp 13, .tmp 21]) rfl ?_); at_builtin; go_loud (refine Kd.R_append kt (w0 := w1) w1.heap.size rfl (.tmp 13) (.tmp 21) 25 50 (.agg #[(.string ⟨#[]⟩), (.string ⟨#[]⟩), (.string ⟨#[]⟩)]) 48 rfl Tryd.underlying25 info_tm rfl (by decide) (by omega) (.slice A2 xs.length c2) xs ⟨ng, f, v⟩ [.string f, .string op, .string v] (fun _ => True) (fun _ => False) rfl ?aX ?aP (fun _ hk => hk.elim) ?aF ?aO ?aB ?aS ?aL ?_); (case aX => first | rfl | (rw [World.size_alloc]; rfl)); (case aP => exact hKM.out); (case aB => exact hYx.out); (case aF => exact (fun _ _ => trivial)); (case aO => exact hRx.out); (case aS => exact below_size hYx.out); (case aL => have := hxl.out; have := hlx.out; omega); intro v2 w2 ho hb hg hatt))
        replace ho := Aside0.mk ho
        replace hb := Aside0.mk hb
        clear hg hatt
        go_wp2_with fail
        go_roundw
        case rel => exact ⟨k + 1, hk2.out, by go_num, hb, ⟨by rw [hts.out]; exact ho.out⟩⟩
        case measure => have := hk2.out; simp [intOf]; omega
      · obtain rfl : k = l.length := by omega
        rw [List.take_length] at hxs
        subst hxs
        have c3b := decide_eq_false hlt
        go_wp2_with fail
        go_ret
        refine ⟨_, rfl, ?_, below_then hB1.out hB1.out.size hY.out⟩
        rw [hl.out]
        exact Kd.R_lower hR.out hB1.out.size
  · have a1 := na_not_Requirements
    have a2 := me_not_Requirements
    have hc := Aside0.mk (rq_not b f x w hat)
    clear hM hts
    go_enter Tryd.func21, Tryd.ntmps21
    go_wp2_with fail
    refine hc.out.mono ?_
    rintro e w1 ⟨u, rfl, hu, hb⟩
    obtain ⟨A3, c3, rfl, hl3, hC3⟩ := Kd.R_reads hu
    have hB1 := Aside0.mk hb
    have hR1 : Aside0 (DR w1 w1.heap.size (.slice none 0 0) []) := ⟨Kd.R_nil _ _ _ _ _⟩
    replace hC3 := Aside0.mk hC3
    clear hu hb hc
    obtain ⟨l, hl⟩ : ∃ l, [(⟨true, f, x⟩ : Tm)] = l := ⟨_, rfl⟩
    rw [hl] at hC3 hlx ⊢
    replace hl := Aside0.mk hl
    have hll := hlx.out
    have hu73 := Tryd.underlying73
    go_wp2_with fail
    go_loopw [3, 9] (fun v i wr => ∃ (k : Nat), k ≤ l.length ∧ i = .int .i64 (k : Int) ∧ Aside0 (Below w1.heap.size w1 wr) ∧ Aside0 (DR wr w1.heap.size v (l.take k))) (fun _ i _ => l.length - (intOf i).toNat)
    case atStart => exact ⟨0, by omega, rfl, ⟨Below.refl _ _⟩, hR1⟩
    case round =>
      obtain ⟨k, hk, rfl, hY, hR⟩ := hrel
      obtain ⟨xs, hxs⟩ : ∃ xs, l.take k = xs := ⟨_, rfl⟩
      rw [hxs] at hR
      have hxl := Aside0.mk (show xs.length ≤ l.length by rw [← hxs]; rw [List.length_take]; omega)
      obtain ⟨A2, c2, rfl⟩ := Kd.R_slice hR.out
      by_cases hlt : (k : Int) < (l.length : Int)
      · obtain ⟨x, hx⟩ : ∃ x, rdt l (k : Int) = x := ⟨_, rfl⟩
        have hxk : l[k]? = some x := at_oft hx (by omega)
        have p := Int.natCast_nonneg k
        obtain ⟨ad, e1, hcell, hcell2, hcell3⟩ := at_kr (Kd.C_below hC3.out hY.out) (k : Int) p hlt
        rw [hx, Int.toNat_natCast] at hcell hcell2 hcell3
        cases e1
        have hts := Aside0.mk (show l.take (k + 1) = xs ++ [x] by rw [List.take_add_one, hxk, hxs]; rfl)
        have c3b := decide_eq_true hlt
        have hk2 := Aside0.mk (show k + 1 ≤ l.length by omega)
        obtain ⟨op, hop⟩ : ∃ op, opOf x = op := ⟨_, rfl⟩
        rw [hop] at hcell
        have hKM := kt_M (wr.alloc (.cells #[.string op, .string x.f, .string x.v] 73)) w1.heap.size (fun _ => False) x
        rw [hop] at hKM
        replace hKM := Aside0.mk hKM
        obtain ⟨ng, f, v⟩ := x
        simp only at hcell2 hcell3 hKM
        replace p := eq_true p
        replace hlt := eq_true hlt
        have hRx := Aside0.mk (Kd.R_alloc hR.out (.cells #[.string op, .string f, .string v] 73))
        have hYx := Aside0.mk (below_alloc hY.out (.cells #[.string op, .string f, .string v] 73))
        clear hxk hxs hx hop
        go_wp2_with (first | ((with_reducible refine gate_builtin (b := .append) (xs := #[.tmp 13, .tmp 21]) rfl ?_); at_builtin; go_loud (refine Kd.R_append kt (w0 := w1) w1.heap.size rfl (.tmp 13) (.tmp 21) 25 50 (.agg #[(.string ⟨#[]⟩), (.string ⟨#[]⟩), (.string ⟨#[]⟩)]) 48 rfl Tryd.underlying25 info_tm rfl (by decide) (by omega) (.slice A2 xs.length c2) xs ⟨ng, f, v⟩ [.string f, .string op, .string v] (fun _ => True) (fun _ => False) rfl ?aX ?aP (fun _ hk => hk.elim) ?aF ?aO ?aB ?aS ?aL ?_); (case aX => first | rfl | (rw [World.size_alloc]; rfl)); (case aP => exact hKM.out); (case aB => exact hYx.out); (case aF => exact (fun _ _ => trivial)); (case aO => exact hRx.out); (case aS => exact below_size hYx.out); (case aL => have := hxl.out; have := hlx.out; omega); intro v2 w2 ho hb hg hatt))
        replace ho := Aside0.mk ho
        replace hb := Aside0.mk hb
        clear hg hatt
        go_wp2_with fail
        go_roundw
        case rel => exact ⟨k + 1, hk2.out, by go_num, hb, ⟨by rw [hts.out]; exact ho.out⟩⟩
        case measure => have := hk2.out; simp [intOf]; omega
      · obtain rfl : k = l.length := by omega
        rw [List.take_length] at hxs
        subst hxs
        have c3b := decide_eq_false hlt
        go_wp2_with fail
        go_ret
        refine ⟨_, rfl, ?_, below_then hB1.out hB1.out.size hY.out⟩
        rw [hl.out]
        exact Kd.R_lower hR.out hB1.out.size
  · have a1 := na_and_Requirements
    have a2 := me_and_Requirements
    have hc := Aside0.mk (rq_and A ts c hts w hC)
    clear hM hts
    go_enter Tryd.func21, Tryd.ntmps21
    go_wp2_with fail
    refine hc.out.mono ?_
    rintro e w1 ⟨u, rfl, hu, hb⟩
    obtain ⟨A3, c3, rfl, hl3, hC3⟩ := Kd.R_reads hu
    have hB1 := Aside0.mk hb
    have hR1 : Aside0 (DR w1 w1.heap.size (.slice none 0 0) []) := ⟨Kd.R_nil _ _ _ _ _⟩
    replace hC3 := Aside0.mk hC3
    clear hu hb hc
    obtain ⟨l, hl⟩ : ∃ l, ts = l := ⟨_, rfl⟩
    rw [hl] at hC3 hlx ⊢
    replace hl := Aside0.mk hl
    have hll := hlx.out
    have hu73 := Tryd.underlying73
    go_wp2_with fail
    go_loopw [3, 9] (fun v i wr => ∃ (k : Nat), k ≤ l.length ∧ i = .int .i64 (k : Int) ∧ Aside0 (Below w1.heap.size w1 wr) ∧ Aside0 (DR wr w1.heap.size v (l.take k))) (fun _ i _ => l.length - (intOf i).toNat)
    case atStart => exact ⟨0, by omega, rfl, ⟨Below.refl _ _⟩, hR1⟩
    case round =>
      obtain ⟨k, hk, rfl, hY, hR⟩ := hrel
      obtain ⟨xs, hxs⟩ : ∃ xs, l.take k = xs := ⟨_, rfl⟩
      rw [hxs] at hR
      have hxl := Aside0.mk (show xs.length ≤ l.length by rw [← hxs]; rw [List.length_take]; omega)
      obtain ⟨A2, c2, rfl⟩ := Kd.R_slice hR.out
      by_cases hlt : (k : Int) < (l.length : Int)
      · obtain ⟨x, hx⟩ : ∃ x, rdt l (k : Int) = x := ⟨_, rfl⟩
        have hxk : l[k]? = some x := at_oft hx (by omega)
        have p := Int.natCast_nonneg k
        obtain ⟨ad, e1, hcell, hcell2, hcell3⟩ := at_kr (Kd.C_below hC3.out hY.out) (k : Int) p hlt
        rw [hx, Int.toNat_natCast] at hcell hcell2 hcell3
        cases e1
        have hts := Aside0.mk (show l.take (k + 1) = xs ++ [x] by rw [List.take_add_one, hxk, hxs]; rfl)
        have c3b := decide_eq_true hlt
        have hk2 := Aside0.mk (show k + 1 ≤ l.length by omega)
        obtain ⟨op, hop⟩ : ∃ op, opOf x = op := ⟨_, rfl⟩
        rw [hop] at hcell
        have hKM := kt_M (wr.alloc (.cells #[.string op, .string x.f, .string x.v] 73)) w1.heap.size (fun _ => False) x
        rw [hop] at hKM
        replace hKM := Aside0.mk hKM
        obtain ⟨ng, f, v⟩ := x
        simp only at hcell2 hcell3 hKM
        replace p := eq_true p
        replace hlt := eq_true hlt
        have hRx := Aside0.mk (Kd.R_alloc hR.out (.cells #[.string op, .string f, .string v] 73))
        have hYx := Aside0.mk (below_alloc hY.out (.cells #[.string op, .string f, .string v] 73))
        clear hxk hxs hx hop
        go_wp2_with (first | ((with_reducible refine gate_builtin (b := .append) (xs := #[.tmp 13, .tmp 21]) rfl ?_); at_builtin; go_loud (refine Kd.R_append kt (w0 := w1) w1.heap.size rfl (.tmp 13) (.tmp 21) 25 50 (.agg #[(.string ⟨#[]⟩), (.string ⟨#[]⟩), (.string ⟨#[]⟩)]) 48 rfl Tryd.underlying25 info_tm rfl (by decide) (by omega) (.slice A2 xs.length c2) xs ⟨ng, f, v⟩ [.string f, .string op, .string v] (fun _ => True) (fun _ => False) rfl ?aX ?aP (fun _ hk => hk.elim) ?aF ?aO ?aB ?aS ?aL ?_); (case aX => first | rfl | (rw [World.size_alloc]; rfl)); (case aP => exact hKM.out); (case aB => exact hYx.out); (case aF => exact (fun _ _ => trivial)); (case aO => exact hRx.out); (case aS => exact below_size hYx.out); (case aL => have := hxl.out; have := hlx.out; omega); intro v2 w2 ho hb hg hatt))
        replace ho := Aside0.mk ho
        replace hb := Aside0.mk hb
        clear hg hatt
        go_wp2_with fail
        go_roundw
        case rel => exact ⟨k + 1, hk2.out, by go_num, hb, ⟨by rw [hts.out]; exact ho.out⟩⟩
        case measure => have := hk2.out; simp [intOf]; omega
      · obtain rfl : k = l.length := by omega
        rw [List.take_length] at hxs
        subst hxs
        have c3b := decide_eq_false hlt
        go_wp2_with fail
        go_ret
        refine ⟨_, rfl, ?_, below_then hB1.out hB1.out.size hY.out⟩
        rw [hl.out]
        exact Kd.R_lower hR.out hB1.out.size
end Go.Proofs.YtccdnmachpepcaaDoor.FtT
