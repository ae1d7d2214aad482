/- A selector's terms written: EscapeValue, String; their requirements. -/
import Derived.Test.YtccdnmachpepcaaDoorFsH
import Derived.Test.YtccdnmachpepcaaDoorXHpx1
import Derived.Test.YtccdnmachpepcaaDoorShelfJ
import Derived.Test.YtccdnmachpepcaaDoorStr
import Derived.Test.YtccdnmachpepcaaDoorEv
import Derived.Lib.SliceRun
import Derived.Test.YtccdnmachpepcaaDoorFtA
set_option linter.unusedSimpArgs false
set_option linter.unusedVariables false
namespace Go.Proofs.YtccdnmachpepcaaDoor.FsW0
open Go Go.RowKit Go.Proofs.YtccdnmachpepcaaDoor.XHp Go.Proofs.YtccdnmachpepcaaDoorW.PrintWords Go.Proofs.YtccdnmachpepcaaDoorW.PrintLast Go.Proofs.YtccdnmachpepcaaDoor.EvL Go.Proofs.YtccdnmachpepcaaDoor.Str
def ns (l : List UInt8) : List Int := l.map fun b => (b.toNat : Int)
theorem str_ns (l : List UInt8) : strOfNums (ns l) = ⟨l.toArray⟩ := by
  apply L_inj
  rw [L_mk]
  unfold strOfNums L ns
  rw [List.map_map]
  exact (List.map_congr_left (g := id) (fun a _ => by simp)).trans (List.map_id _)
theorem es_l0 (s : ByteArray) (hs : s.size ≤ 2147483647) : ∀ (n i : Nat) (acc : List UInt8), s.size - i ≤ n → i ≤ s.size → acc.length ≤ 2 * i → Ev (fun k => fields_EscapeValue.l0 k s (ns acc) (i : Int)) (⟨(acc ++ FuM.esc ((L s).drop i)).toArray⟩ : ByteArray) := by
  intro n
  have hz := size_L s
  induction n with
  | zero =>
    intro i acc hn hi ha
    rw [List.drop_of_length_le (by omega)]
    refine Ev.step (fun k => fields_EscapeValue.l0.eq_2 ..) (ifn (by omega) (now ?_))
    rw [str_ns]
    simp [FuM.esc]
  | succ n ih =>
    intro i acc hn hi ha
    by_cases hlt : i < (L s).length
    · have w1 : wrap64 ((i : Int) + 1) = ((i + 1 : Nat) : Int) := w64 (by omega) (by omega)
      have hb := bt_L s i hlt
      have hd : (L s).drop i = (L s)[i] :: (L s).drop (i + 1) := List.drop_eq_getElem_cons hlt
      rw [hd]
      generalize (L s)[i] = b at *
      have hl : (ns acc).length = acc.length := by simp [ns]
      have two : FuM.sg b.toNat = true → Ev (fun k => if (ns acc).length < 140737488355328 then ((some (ns acc ++ [92] : List Int)).bind fun y109 => (if y109.length < 140737488355328 then (fields_EscapeValue.l0 k s (y109 ++ [bt s i]) (wrap64 ((i : Int) + 1))) else (none))) else (none)) (⟨(acc ++ FuM.esc (b :: (L s).drop (i + 1))).toArray⟩ : ByteArray) := by
        intro hsg
        refine ifp (by omega) (sb (ifp (by simp; omega) ?_))
        have := ih (i + 1) (acc ++ [92, b]) (by omega) (by omega) (by simp; omega)
        rw [hb, w1]
        have e1 : ns (acc ++ [92, b]) = ns acc ++ [92] ++ [(b.toNat : Int)] := by simp [ns]
        rw [e1] at this
        have e2 : FuM.esc (b :: (L s).drop (i + 1)) = 92 :: b :: FuM.esc ((L s).drop (i + 1)) := by simp [FuM.esc, hsg]
        rw [e2]
        rw [show acc ++ [92, b] ++ FuM.esc ((L s).drop (i + 1)) = acc ++ 92 :: b :: FuM.esc ((L s).drop (i + 1)) by simp] at this
        exact this
      refine Ev.step (fun k => fields_EscapeValue.l0.eq_2 ..) (ifp (by omega) (ifp (by omega) ?_))
      by_cases h92 : b.toNat = 92
      · exact ifp (by rw [hb]; omega) (two (by rw [h92]; rfl))
      · refine ifn (by rw [hb]; omega) ?_
        by_cases h44 : b.toNat = 44
        · exact ifp (by rw [hb]; omega) (two (by rw [h44]; rfl))
        · refine ifn (by rw [hb]; omega) ?_
          by_cases h61 : b.toNat = 61
          · exact ifp (by rw [hb]; omega) (two (by rw [h61]; rfl))
          · refine ifn (by rw [hb]; omega) (ifp (by omega) ?_)
            have := ih (i + 1) (acc ++ [b]) (by omega) (by omega) (by simp; omega)
            rw [hb, w1]
            have e1 : ns (acc ++ [b]) = ns acc ++ [(b.toNat : Int)] := by simp [ns]
            rw [e1] at this
            have hsg : FuM.sg b.toNat = false := by simp [FuM.sg, h92, h44, h61]
            have e2 : FuM.esc (b :: (L s).drop (i + 1)) = b :: FuM.esc ((L s).drop (i + 1)) := by simp [FuM.esc, hsg]
            rw [e2]
            rw [show acc ++ [b] ++ FuM.esc ((L s).drop (i + 1)) = acc ++ b :: FuM.esc ((L s).drop (i + 1)) by simp] at this
            exact this
    · rw [List.drop_of_length_le (by omega)]
      refine Ev.step (fun k => fields_EscapeValue.l0.eq_2 ..) (ifn (by omega) (now ?_))
      rw [str_ns]
      simp [FuM.esc]
theorem esc_len : ∀ l : List UInt8, l.length ≤ (FuM.esc l).length
  | [] => Nat.le_refl _
  | b :: t => by
    have := esc_len t
    simp only [FuM.esc]
    split <;> simp <;> omega

end Go.Proofs.YtccdnmachpepcaaDoor.FsW0
namespace Go.Proofs.YtccdnmachpepcaaDoor.FsW
open Go Go.RowKit Go.Proofs.YtccdnmachpepcaaDoor.FuM Go.Proofs.YtccdnmachpepcaaDoor.FsK Go.Proofs.YtccdnmachpepcaaDoor.FsS Go.Proofs.YtccdnmachpepcaaDoor.FsM Go.Proofs.YtccdnmachpepcaaDoor.FsN Go.Proofs.YtccdnmachpepcaaDoor.FsR Go.Proofs.YtccdnmachpepcaaDoor.FsV Go.Proofs.YtccdnmachpepcaaDoor.XHp Go.Proofs.YtccdnmachpepcaaDoorW.PrintWords Go.Proofs.YtccdnmachpepcaaDoorW.PrintLast
open Go.Proofs.YtccdnmachpepcaaDoor.FsT (B Row)
theorem esc_calls (v : ByteArray) (hv : v.size ≤ 2147483647) (w : World) : Calls Tryd.prog 101 #[.string v] w fun e w' => e = .returned (.string (B (esc (L v)))) ∧ Below w.heap.size w w' := by
  have h := FsW0.es_l0 v hv v.size 0 [] (by omega) (by omega) (Nat.le_refl _)
  obtain ⟨k, hk⟩ := h.rounds
  exact fields_EscapeValue.calls k v _ w (by
    unfold fields_EscapeValue.f
    have e : (⟨([] ++ esc ((Str.L v).drop 0)).toArray⟩ : ByteArray) = B (esc (L v)) := rfl
    rw [e] at hk
    exact hk)
/-- A term as it is written. -/
def str1 (t : Tm) : ByteArray := (t.f ++ (if t.neg then ⟨#[33, 61]⟩ else ⟨#[61]⟩)) ++ B (esc (L t.v))
theorem esc_two : ∀ l : List UInt8, (esc l).length ≤ 2 * l.length
  | [] => by simp [esc]
  | b :: l => by
    have ih := esc_two l
    unfold esc
    split
    · simp; omega
    · simp; omega
set_option maxHeartbeats 4000000 in
set_option maxRecDepth 100000 in
theorem st_has (b : Nat) (f v : ByteArray) (hf : f.size ≤ 2147483647) (hv : v.size ≤ 2147483647) (w : World) (h : At w b ⟨false, f, v⟩) :
    Calls Tryd.prog 108 #[.pointer (some ⟨b, 0, none⟩)] w fun e w' => e = .returned (.string (str1 ⟨false, f, v⟩)) ∧ Below w.heap.size w w' := by
  obtain ⟨z0, z1⟩ := at_c h
  have hq := fun W => esc_calls v hv W
  have hsz : (B (esc (L v))).size ≤ 4294967294 := by
    have h1 := esc_two (L v)
    rw [L_length] at h1
    show (esc (L v)).toArray.size ≤ _
    simp
    omega
  have hres : str1 ⟨false, f, v⟩ = (f ++ ⟨#[61]⟩) ++ B (esc (L v)) := rfl
  rw [hres]
  obtain ⟨u, hu⟩ : ∃ u, B (esc (L v)) = u := ⟨_, rfl⟩
  rw [hu] at hq hsz ⊢
  have s1 : (⟨#[61]⟩ : ByteArray).size ≤ 2 := by decide
  have c1 : (9223372036854775807 < f.size + (⟨#[61]⟩ : ByteArray).size) = False := eq_false (by omega)
  have c2 : (9223372036854775807 < (f ++ ⟨#[61]⟩).size + u.size) = False := eq_false (by rw [ByteArray.size_append]; omega)
  have c3 : (9223372036854775807 < f.size + (⟨#[61]⟩ : ByteArray).size + u.size) = False := eq_false (by omega)
  have c4 : (9223372036854775807 < f.size + 1) = False := eq_false (by omega)
  have c5 : (9223372036854775807 < f.size + 1 + u.size) = False := eq_false (by omega)
  replace hq := Aside0.mk hq
  replace hsz := Aside0.mk hsz
  have hX := Aside0.mk (Below.refl w.heap.size w)
  clear h hf hv hres hu s1
  go_enter Tryd.func108, Tryd.ntmps108
  go_wp2_with fail
  go_region_with (go_at_call 101; refine (hq.out _).mono ?_; rintro e w6 ⟨rfl, hb⟩; have hbb : Aside0 (Below w.heap.size w w6) := ⟨by first | exact below_via hX.out hb | exact below_via (below_drew hX.out) hb | exact below_via (pw_below_drewN hX.out _) hb⟩; have k0 := hb.cell (p := ⟨b, 0, none⟩) (World.block_lt_of_cell? w (u := .string f) _ z0); have k1 := hb.cell (p := ⟨b, 1, none⟩) (World.block_lt_of_cell? w (u := .string f) ⟨b, 0, none⟩ z0); clear hb)
  all_goals (go_wp2_with fail)
  all_goals
    go_ret
    exact ⟨rfl, hbb.out⟩
set_option maxHeartbeats 4000000 in
set_option maxRecDepth 100000 in
theorem st_not (b : Nat) (f v : ByteArray) (hf : f.size ≤ 2147483647) (hv : v.size ≤ 2147483647) (w : World) (h : At w b ⟨true, f, v⟩) :
    Calls Tryd.prog 99 #[.pointer (some ⟨b, 0, none⟩)] w fun e w' => e = .returned (.string (str1 ⟨true, f, v⟩)) ∧ Below w.heap.size w w' := by
  obtain ⟨z0, z1⟩ := at_c h
  have hq := fun W => esc_calls v hv W
  have hsz : (B (esc (L v))).size ≤ 4294967294 := by
    have h1 := esc_two (L v)
    rw [L_length] at h1
    show (esc (L v)).toArray.size ≤ _
    simp
    omega
  have hres : str1 ⟨true, f, v⟩ = (f ++ ⟨#[33, 61]⟩) ++ B (esc (L v)) := rfl
  rw [hres]
  obtain ⟨u, hu⟩ : ∃ u, B (esc (L v)) = u := ⟨_, rfl⟩
  rw [hu] at hq hsz ⊢
  have s1 : (⟨#[33, 61]⟩ : ByteArray).size ≤ 2 := by decide
  have c1 : (9223372036854775807 < f.size + (⟨#[33, 61]⟩ : ByteArray).size) = False := eq_false (by omega)
  have c2 : (9223372036854775807 < (f ++ ⟨#[33, 61]⟩).size + u.size) = False := eq_false (by rw [ByteArray.size_append]; omega)
  have c3 : (9223372036854775807 < f.size + (⟨#[33, 61]⟩ : ByteArray).size + u.size) = False := eq_false (by omega)
  have c4 : (9223372036854775807 < f.size + 2) = False := eq_false (by omega)
  have c5 : (9223372036854775807 < f.size + 2 + u.size) = False := eq_false (by omega)
  replace hq := Aside0.mk hq
  replace hsz := Aside0.mk hsz
  have hX := Aside0.mk (Below.refl w.heap.size w)
  clear h hf hv hres hu s1
  go_enter Tryd.func99, Tryd.ntmps99
  go_wp2_with fail
  go_region_with (go_at_call 101; refine (hq.out _).mono ?_; rintro e w6 ⟨rfl, hb⟩; have hbb : Aside0 (Below w.heap.size w w6) := ⟨by first | exact below_via hX.out hb | exact below_via (below_drew hX.out) hb | exact below_via (pw_below_drewN hX.out _) hb⟩; have k0 := hb.cell (p := ⟨b, 0, none⟩) (World.block_lt_of_cell? w (u := .string f) _ z0); have k1 := hb.cell (p := ⟨b, 1, none⟩) (World.block_lt_of_cell? w (u := .string f) ⟨b, 0, none⟩ z0); clear hb)
  all_goals (go_wp2_with fail)
  all_goals
    go_ret
    exact ⟨rfl, hbb.out⟩
end Go.Proofs.YtccdnmachpepcaaDoor.FsW

set_option linter.unusedSimpArgs false
set_option linter.unusedVariables false
namespace Go.Proofs.YtccdnmachpepcaaDoor.FtS
open Go Go.RowKit Go.Proofs.YtccdnmachpepcaaDoor.FsK Go.Proofs.YtccdnmachpepcaaDoor.FsS Go.Proofs.YtccdnmachpepcaaDoor.FsM Go.Proofs.YtccdnmachpepcaaDoor.FsN Go.Proofs.YtccdnmachpepcaaDoor.FsW Go.Proofs.YtccdnmachpepcaaDoorW.PrintWords Go.Proofs.YtccdnmachpepcaaDoorW.PrintLast
abbrev TR (w : World) (base : Nat) (v : Value) (l : List ByteArray) : Prop := Kd.string.R 9 w base (fun _ => True) v l
def joinB (xs : List ByteArray) : ByteArray := ⟨(Lib.join (xs.map (·.data.toList)) [44]).toArray⟩
/-- The text of terms. -/
def strL (ts : List Tm) : ByteArray := joinB (ts.map str1)
theorem info_str : (Tryd.prog.info? 9).map (fun i => (i.zero, i.size, i.bytes)) = some (some (.string ⟨#[]⟩), 1, 16) := by kernel_rfl
theorem join_calls (xs : List ByteArray) (v : Value) (w0 W : World) (base : Nat) (hR : TR W base v xs) (hN : xs.length ≤ 140737488355328) (hlen : (Lib.join (xs.map (·.data.toList)) [44]).length ≤ 140737488355328) :
    Calls Tryd.prog 83 #[v, .string ⟨#[44]⟩] W fun e w' => e = .returned (.string (joinB xs)) ∧ Below W.heap.size W w' := by
  rcases Nat.eq_zero_or_pos xs.length with h0 | h0
  · obtain rfl : xs = [] := List.eq_nil_of_length_eq_zero h0
    obtain ⟨A, c, rfl⟩ := Kd.R_slice hR
    refine (Tryd.strings_Join_none A c ⟨#[44]⟩ W).mono ?_
    rintro e w' ⟨rfl, rfl⟩
    exact ⟨rfl, Below.refl _ _⟩
  · obtain ⟨g, cap, rfl, _, hg, _⟩ := Kd.R_form hR h0
    obtain ⟨_, hcap, hC⟩ := Kd.R_reads' hR
    obtain ⟨ad, he, hc⟩ := hC.2.2 h0
    injection he with he
    subst he
    refine (Tryd.strings_Join g 0 cap xs ⟨#[44]⟩ W ?_ hg hN hcap hlen).mono (fun e w' h => h)
    intro j x hx
    obtain ⟨c, _, rfl, hcell⟩ := hc j x hx
    have := hcell 0 (.string x) rfl
    have e : (⟨g, 0, none⟩ : Addr).add (j * Kd.string.sz + 0) = ⟨g, 0 + j, none⟩ := by
      rw [show j * Kd.string.sz + 0 = j from by show j * 1 + 0 = j; omega]
      cases j <;> simp [Addr.add]
    rw [e] at this
    exact this
theorem na_has_String (p : Option Addr) (w : World) : Sem.run Tryd.prog (nilAhead 266 83 (.pointer p) "String") w = .ok (some false) w := by kernel_rfl
theorem me_has_String (p : Option Addr) (w : World) : Sem.run Tryd.prog (method 266 83 (.pointer p) "String") w = .ok (108, .pointer p) w := by kernel_rfl
theorem na_not_String (p : Option Addr) (w : World) : Sem.run Tryd.prog (nilAhead 266 80 (.pointer p) "String") w = .ok (some false) w := by kernel_rfl
theorem me_not_String (p : Option Addr) (w : World) : Sem.run Tryd.prog (method 266 80 (.pointer p) "String") w = .ok (99, .pointer p) w := by kernel_rfl
theorem na_and_String (A : Option Addr) (n c : Nat) (w : World) : Sem.run Tryd.prog (nilAhead 266 86 (.slice A n c) "String") w = .ok (some false) w := by kernel_rfl
theorem me_and_String (A : Option Addr) (n c : Nat) (w : World) : Sem.run Tryd.prog (method 266 86 (.slice A n c) "String") w = .ok (115, .slice A n c) w := by kernel_rfl
set_option maxHeartbeats 6400000 in
set_option maxRecDepth 100000 in
theorem st_and (A : Option Addr) (l : List Tm) (c : Nat) (hl : l.length ≤ 1099511627776) (hfv : ∀ t ∈ l, t.f.size ≤ 2147483647 ∧ t.v.size ≤ 2147483647) (hlen : (Lib.join ((l.map str1).map (·.data.toList)) [44]).length ≤ 140737488355328) (w : World) (hC : ksel.C w A l.length l) :
    Calls Tryd.prog 115 #[.slice A l.length c] w fun e w' => e = .returned (.string (strL l)) ∧ Below w.heap.size w w' := by
  have hCx := Aside0.mk hC
  have hlx := Aside0.mk hl
  have hfx := Aside0.mk hfv
  have hlenx := Aside0.mk hlen
  have hB1 := Aside0.mk (Below.refl w.heap.size w)
  have hR1 : Aside0 (TR w w.heap.size (.slice none 0 0) []) := ⟨Kd.R_nil _ _ _ _ _⟩
  clear hC hfv hlen
  go_enter Tryd.func115, Tryd.ntmps115
  go_wp2_with fail
  go_loopw [3, 8] (fun v i wr => ∃ (k : Nat), k ≤ l.length ∧ i = .int .i64 (k : Int) ∧ Aside0 (Below w.heap.size w wr) ∧ Aside0 (TR wr w.heap.size v ((l.take k).map str1))) (fun _ i _ => l.length - (intOf i).toNat)
  case atStart => exact ⟨0, by omega, rfl, hB1, hR1⟩
  case round =>
    obtain ⟨k, hk, rfl, hB, hR⟩ := hrel
    obtain ⟨xs, hxs⟩ : ∃ xs, (l.take k).map str1 = xs := ⟨_, rfl⟩
    rw [hxs] at hR
    have hxl := Aside0.mk (show xs.length ≤ l.length by rw [← hxs, List.length_map, List.length_take]; omega)
    obtain ⟨A2, c2, rfl⟩ := Kd.R_slice hR.out
    by_cases hlt : k < l.length
    · obtain ⟨ad, b, rfl, hcell, hat⟩ := sel_at (Kd.C_below hCx.out hB.out) hlt
      have hts : (l.take (k + 1)).map str1 = xs ++ [str1 l[k]] := by rw [List.take_succ_eq_append_getElem hlt, List.map_append, hxs]; rfl
      have hfv := Aside0.mk (hfx.out l[k] (List.getElem_mem hlt))
      obtain ⟨t, ht⟩ : ∃ t, l[k] = t := ⟨_, rfl⟩
      rw [ht] at hcell hat hts hfv
      clear ht hxs
      obtain ⟨ng, f, v⟩ := t
      replace hat := Aside0.mk hat
      have hk2 := Aside0.mk (show k + 1 ≤ l.length by omega)
      have q0 : (0 : Int) ≤ (k : Int) := Int.natCast_nonneg k
      have q1 : (k : Int) < (l.length : Int) := by omega
      rcases ng with _ | _
      · replace hcell : wr.cell? (ad.add k) = some (.iface 83 (.pointer (some ⟨b, 0, none⟩))) := hcell
        have a1 := na_has_String
        have a2 := me_has_String
        have hc := Aside0.mk (st_has b f v hfv.out.1 hfv.out.2 wr hat.out)
        go_wp2_with fail
        refine hc.out.mono ?_
        rintro e w6 ⟨rfl, hb⟩
        have hR2 := Aside0.mk (Kd.R_below hR.out hb)
        have hB2 := Aside0.mk (below_then hB.out hB.out.size hb)
        obtain ⟨s, hs⟩ : ∃ s, str1 ⟨false, f, v⟩ = s := ⟨_, rfl⟩
        rw [hs] at hts ⊢
        replace hts := Aside0.mk hts
        clear hs hb hc
        go_wp2_with (first | ((with_reducible refine gate_builtin (b := .append) (xs := #[.tmp 12, .tmp 15]) rfl ?_); at_builtin; go_loud (refine Kd.R_append Kd.string (w0 := w) w.heap.size rfl (.tmp 12) (.tmp 15) 43 9 (.string ⟨#[]⟩) 16 rfl Tryd.underlying43 info_str rfl (by decide) (by omega) (.slice A2 xs.length c2) xs s [.string s] (fun _ => True) (fun _ => False) rfl ?aX ?aP (fun _ hk => hk.elim) ?aF ?aO ?aB ?aS ?aL ?_); (case aX => first | rfl | (rw [World.size_alloc]; rfl)); (case aP => rfl); (case aB => exact hB2.out); (case aF => exact (fun _ _ => trivial)); (case aO => exact hR2.out); (case aS => exact below_size hB2.out); (case aL => have := hxl.out; omega); intro v2 w2 ho hb hg hatt))
        replace ho := Aside0.mk ho
        replace hb := Aside0.mk hb
        clear hg hatt
        go_wp2_with fail
        go_roundw
        case rel => exact ⟨k + 1, hk2.out, by go_num, hb, ⟨by rw [hts.out]; exact ho.out⟩⟩
        case measure => simp [intOf]; omega
      · replace hcell : wr.cell? (ad.add k) = some (.iface 80 (.pointer (some ⟨b, 0, none⟩))) := hcell
        have a1 := na_not_String
        have a2 := me_not_String
        have hc := Aside0.mk (st_not b f v hfv.out.1 hfv.out.2 wr hat.out)
        go_wp2_with fail
        refine hc.out.mono ?_
        rintro e w6 ⟨rfl, hb⟩
        have hR2 := Aside0.mk (Kd.R_below hR.out hb)
        have hB2 := Aside0.mk (below_then hB.out hB.out.size hb)
        obtain ⟨s, hs⟩ : ∃ s, str1 ⟨true, f, v⟩ = s := ⟨_, rfl⟩
        rw [hs] at hts ⊢
        replace hts := Aside0.mk hts
        clear hs hb hc
        go_wp2_with (first | ((with_reducible refine gate_builtin (b := .append) (xs := #[.tmp 12, .tmp 15]) rfl ?_); at_builtin; go_loud (refine Kd.R_append Kd.string (w0 := w) w.heap.size rfl (.tmp 12) (.tmp 15) 43 9 (.string ⟨#[]⟩) 16 rfl Tryd.underlying43 info_str rfl (by decide) (by omega) (.slice A2 xs.length c2) xs s [.string s] (fun _ => True) (fun _ => False) rfl ?aX ?aP (fun _ hk => hk.elim) ?aF ?aO ?aB ?aS ?aL ?_); (case aX => first | rfl | (rw [World.size_alloc]; rfl)); (case aP => rfl); (case aB => exact hB2.out); (case aF => exact (fun _ _ => trivial)); (case aO => exact hR2.out); (case aS => exact below_size hB2.out); (case aL => have := hxl.out; omega); intro v2 w2 ho hb hg hatt))
        replace ho := Aside0.mk ho
        replace hb := Aside0.mk hb
        clear hg hatt
        go_wp2_with fail
        go_roundw
        case rel => exact ⟨k + 1, hk2.out, by go_num, hb, ⟨by rw [hts.out]; exact ho.out⟩⟩
        case measure => simp [intOf]; omega
    · obtain rfl : k = l.length := by omega
      rw [List.take_length] at hxs
      have hj := Aside0.mk (join_calls xs _ w wr w.heap.size hR.out (by have := hxl.out; have := hlx.out; omega) (by rw [← hxs]; exact hlenx.out))
      have hfin : strL l = joinB xs := by rw [← hxs]; rfl
      replace hfin := Aside0.mk hfin
      clear hxs
      go_wp2_with fail
      refine hj.out.mono ?_
      rintro e w7 ⟨rfl, hb⟩
      replace hb := Aside0.mk (below_then hB.out hB.out.size hb)
      go_wp2_with fail
      go_ret
      exact ⟨by rw [hfin.out]; rfl, hb.out⟩
end Go.Proofs.YtccdnmachpepcaaDoor.FtS

set_option linter.unusedSimpArgs false
set_option linter.unusedVariables false
namespace Go.Proofs.YtccdnmachpepcaaDoor.FtX
open Go Go.Proofs.YtccdnmachpepcaaDoor.FuM Go.Proofs.YtccdnmachpepcaaDoor.FuV Go.Proofs.YtccdnmachpepcaaDoor.FsP Go.Proofs.YtccdnmachpepcaaDoor.FsK Go.Proofs.YtccdnmachpepcaaDoor.FsC Go.Proofs.YtccdnmachpepcaaDoor.FsM Go.Proofs.YtccdnmachpepcaaDoor.FsN Go.Proofs.YtccdnmachpepcaaDoor.FsO Go.Proofs.YtccdnmachpepcaaDoor.FsQ Go.Proofs.YtccdnmachpepcaaDoor.FsW Go.Proofs.YtccdnmachpepcaaDoor.FtS
open Go.Proofs.YtccdnmachpepcaaDoor.FsT (B)
theorem L_inj2 {a b : ByteArray} (h : L a = L b) : a = b := ByteArray.ext (Array.ext' h)
theorem L_B (l : List UInt8) : L (B l) = l := rfl
theorem L_app (a b : ByteArray) : L (a ++ b) = L a ++ L b := by simp [L]
/-! ### Commas that are not escaped -/
/-- Read without a comma: whether a backslash stands last; none: there is a comma. -/
def st : List UInt8 → Bool → Option Bool
  | [], sl => some sl
  | _ :: l, true => st l false
  | b :: l, false => if b = 92 then st l true else if b = 44 then none else st l false
theorem st_append (l : List UInt8) : ∀ (a : List UInt8) (sl : Bool), st (a ++ l) sl = (st a sl).bind (st l)
  | [], sl => rfl
  | b :: a, true => by rw [List.cons_append]; exact st_append l a false
  | b :: a, false => by
    rw [List.cons_append]
    unfold st
    split
    · exact st_append l a true
    · split
      · rfl
      · exact st_append l a false
theorem ub_st : ∀ (l acc r : List UInt8) (sl : Bool), ub l sl acc = some r → st l sl = some false
  | [], acc, r, sl, h => by cases sl <;> simp [ub] at h; rfl
  | b :: t, acc, r, true, h => by
    simp only [ub] at h
    split at h
    · exact ub_st t _ r false h
    · cases h
  | b :: t, acc, r, false, h => by
    simp only [ub] at h
    unfold st
    split at h
    · rename_i hs
      rw [if_pos (UInt8.toNat_inj.1 hs)]
      exact ub_st t acc r true h
    · split at h
      · cases h
      · rename_i h1 h2
        rw [if_neg (fun e => h1 (by rw [e]; rfl)), if_neg (fun e => h2 (.inl (by rw [e]; rfl)))]
        exact ub_st t _ r false h
theorem goP_st (l : List UInt8) : ∀ (a : List UInt8) (sl z : Bool) (cur : List UInt8), st a sl = some z → goP (a ++ l) sl cur = goP l z (cur ++ a)
  | [], sl, z, cur, h => by cases h; simp
  | b :: a, true, z, cur, h => by
    rw [List.cons_append, goP_true, goP_st l a false z _ h]; simp
  | b :: a, false, z, cur, h => by
    rw [List.cons_append]
    unfold st at h
    split at h
    · rename_i hb
      subst hb
      rw [goP_slash, goP_st l a true z _ h]; simp
    · split at h
      · cases h
      · rename_i h1 h2
        rw [goP_plain _ _ h1 h2, goP_st l a false z _ h]; simp
theorem goP_pieces (l : List UInt8) : ∀ (sl : Bool) (cur : List UInt8), st cur false = some sl → ∀ q ∈ goP l sl cur, st q false ≠ none := by
  induction l with
  | nil =>
    intro sl cur h q hq
    have e : q = cur := by simpa [goP] using hq
    rw [e, h]
    exact fun e => nomatch e
  | cons b l ih =>
    intro sl cur h q hq
    cases sl with
    | true =>
      rw [goP_true] at hq
      exact ih false (cur ++ [b]) (by rw [st_append, h]; rfl) q hq
    | false =>
      unfold goP at hq
      split at hq
      · rename_i hb
        exact ih true (cur ++ [b]) (by rw [st_append, h, hb]; rfl) q hq
      · split at hq
        · rcases List.mem_cons.1 hq with rfl | hq
          · rw [h]; exact fun e => nomatch e
          · exact ih false [] rfl q hq
        · rename_i h1 h2
          refine ih false (cur ++ [b]) ?_ q hq
          rw [st_append, h]
          show st [b] false = _
          simp [st, h1, h2]
/-- Closed pieces that are joined are cut as they were. -/
theorem goP_join : ∀ (ps : List (List UInt8)) (p : List UInt8), (∀ q ∈ p :: ps, st q false = some false) → goP (Lib.join (p :: ps) [44]) false [] = p :: ps
  | [], p, h => by
    rw [Lib.join_one]
    have := goP_st [] p false false [] (h p (by simp))
    rw [List.append_nil] at this
    rw [this]
    simp [goP]
  | q :: ps, p, h => by
    have e : Lib.join (p :: q :: ps) [44] = p ++ 44 :: Lib.join (q :: ps) [44] := by
      rw [Lib.join_cons, Lib.join_cons]; simp [Lib.joinTail]
    rw [e, goP_st _ p false false [] (h p (by simp)), goP_comma, goP_join ps q (fun x hx => h x (List.mem_cons_of_mem _ hx))]
    simp
/-! ### A piece and its first operator -/
def oL (l : List UInt8) : Option ByteArray :=
  if l.take 2 = [33, 61] then some ⟨#[33, 61]⟩ else if l.take 2 = [61, 61] then some ⟨#[61, 61]⟩ else if l.take 1 = [61] then some ⟨#[61]⟩ else none
theorem opAt_oL (s : ByteArray) (i : Nat) : FsC.opAt s i = oL ((L s).drop i) := rfl
theorem oL_cases {l : List UInt8} {op : ByteArray} (h : oL l = some op) : (op = ⟨#[33, 61]⟩ ∧ ∃ t, l = 33 :: 61 :: t) ∨ (op = ⟨#[61, 61]⟩ ∧ ∃ t, l = 61 :: 61 :: t) ∨ (op = ⟨#[61]⟩ ∧ ∃ t, l = 61 :: t) := by
  unfold oL at h
  split at h
  · rename_i h1
    cases h
    refine .inl ⟨rfl, l.drop 2, ?_⟩
    conv => lhs; rw [← List.take_append_drop 2 l, h1]
    rfl
  · split at h
    · rename_i h1
      cases h
      refine .inr (.inl ⟨rfl, l.drop 2, ?_⟩)
      conv => lhs; rw [← List.take_append_drop 2 l, h1]
      rfl
    · split at h
      · rename_i h1
        cases h
        refine .inr (.inr ⟨rfl, l.drop 1, ?_⟩)
        conv => lhs; rw [← List.take_append_drop 1 l, h1]
        rfl
      · cases h
theorem cut_inv (p : ByteArray) : ∀ (n i : Nat), n + i = p.size → (cutFrom p n i).2.2.2 = true → ∃ j op, i ≤ j ∧ j < p.size ∧ FsC.opAt p j = some op ∧ (∀ x, i ≤ x → x < j → FsC.opAt p x = none) ∧ cutFrom p n i = (p.extract 0 j, op, p.extract (j + op.size) p.size, true) := by
  intro n
  induction n with
  | zero => intro i _ h; cases h
  | succ n ih =>
    intro i hi h
    unfold cutFrom at h ⊢
    cases ho : FsC.opAt p i with
    | none =>
      rw [ho] at h
      obtain ⟨j, op, h1, h2, h3, h4, h5⟩ := ih (i + 1) (by omega) h
      refine ⟨j, op, by omega, h2, h3, fun x hx1 hx2 => ?_, h5⟩
      by_cases e : x = i
      · rw [e]; exact ho
      · exact h4 x (by omega) hx2
    | some op => exact ⟨i, op, Nat.le_refl _, by omega, ho, fun x h1 h2 => absurd h1 (by omega), rfl⟩
theorem L_pre (p : ByteArray) (j : Nat) : L (p.extract 0 j) = (L p).take j := by
  show (p.extract 0 j).data.toList = _
  rw [Lib.extract_data]; simp
/-- A text cut at its first operator. -/
theorem cut_at (a m : List UInt8) (op : ByteArray) (hm : oL m = some op) (hn : ∀ x, x < a.length → oL ((a ++ m).drop x) = none) :
    cutFrom (B (a ++ m)) (B (a ++ m)).size 0 = (B a, op, B (m.drop op.size), true) := by
  have hs : (B (a ++ m)).size = a.length + m.length := by rw [← L_length, L_B]; simp
  have hm0 : 0 < m.length := by
    rcases oL_cases hm with ⟨_, t, e⟩ | ⟨_, t, e⟩ | ⟨_, t, e⟩ <;> rw [e] <;> simp
  have h := cutFrom_at (B (a ++ m)) a.length op (by omega) (by rw [opAt_oL, L_B]; simpa using hm) a.length 0 (by omega) (fun x _ hx => by rw [opAt_oL, L_B]; exact hn x hx)
  rw [Nat.sub_zero] at h
  rw [h]
  have e1 : (B (a ++ m)).extract 0 a.length = B a := L_inj2 (by rw [L_pre, L_B, L_B]; simp)
  have e2 : (B (a ++ m)).extract (a.length + op.size) (B (a ++ m)).size = B (m.drop op.size) := by
    refine L_inj2 ?_
    have := Lib.extract_to_end (B (a ++ m)) (a.length + op.size)
    refine this.trans ?_
    rw [L_B]
    show (a ++ m).drop _ = _
    simp
  rw [e1, e2]
theorem VL_app {a b : List UInt8} (ha : VL a) (hb : VL b) : VL (a ++ b) := by
  obtain ⟨xs, rfl, hx⟩ := ha
  obtain ⟨ys, rfl, hy⟩ := hb
  exact ⟨xs ++ ys, by simp, fun z hz => by
    rcases List.mem_append.1 hz with hz | hz
    · exact hx z hz
    · exact hy z hz⟩
theorem VL_byte {b : UInt8} (h : b.toNat < 128) : VL [b] := by
  refine ⟨[[b]], rfl, fun x hx => ?_⟩
  rw [List.mem_singleton.1 hx]
  refine ⟨b.toNat, ?_, by simp, by omega, fun t => ?_⟩
  · rw [en_low h]; simp
  · exact Lib.decodeL_ascii b t h
/-- What stands behind a term that was read: its piece, cut at the first operator. -/
structure Piece (p : ByteArray) (t : Tm) (a raw : List UInt8) (op : ByteArray) : Prop where
  eq : L p = a ++ (L op ++ raw)
  first : ∀ x, x < a.length → oL ((L p).drop x) = none
  at_ : oL (L op ++ raw) = some op
  un : ub raw false [] = some (L t.v)
  f : t.f = B a
  neg : t.neg = decide (op = ⟨#[33, 61]⟩)
  uvs : uv (B raw) (B raw).size 0 false [] = some (L t.v)
theorem piece_of {p : ByteArray} {t : Tm} (hp : pt p = true) (h : termOf p = some (some t)) : ∃ a raw op, Piece p t a raw op := by
  unfold termOf at h
  split at h
  · cases h
  · split at h
    · rename_i hz hk
      obtain ⟨j, op, _, hj, hat, hno, hcut⟩ := cut_inv p p.size 0 (by omega) hk
      have hv := (cut_val p hp p.size 0 (by omega) hk).1
      rw [hcut] at h hv
      simp only at h hv
      have hraw : L (p.extract (j + op.size) p.size) = ((L p).drop j).drop op.size := by
        rw [List.drop_drop]; exact Lib.extract_to_end p (j + op.size)
      obtain ⟨raw, hr⟩ : ∃ raw, p.extract (j + op.size) p.size = raw := ⟨_, rfl⟩
      rw [hr] at h hv hraw
      cases hu : uv raw raw.size 0 false [] with
      | none => rw [hu] at h; cases h
      | some x =>
        rw [hu] at h
        obtain rfl := Option.some.inj (Option.some.inj h)
        have hun := hu
        rw [uv_ub raw raw.size 0 false [] (ok_start hv), List.drop_zero] at hun
        rw [opAt_oL] at hat
        have hm : (L p).drop j = L op ++ L raw := by
          rcases oL_cases hat with ⟨e, m, hm⟩ | ⟨e, m, hm⟩ | ⟨e, m, hm⟩ <;> rw [hraw, hm, e] <;> rfl
        have hBr : B (L raw) = raw := L_inj2 rfl
        refine ⟨(L p).take j, L raw, op, ⟨?_, ?_, ?_, hun, ?_, rfl, ?_⟩⟩
        · rw [← hm, List.take_append_drop]
        · intro x hx
          rw [List.length_take] at hx
          have := hno x (Nat.zero_le _) (by omega)
          rw [opAt_oL] at this
          exact this
        · rw [← hm]; exact hat
        · exact L_inj2 (L_pre p j)
        · rw [hBr]; exact hu
    · cases h
theorem str1_L {p : ByteArray} {t : Tm} {a raw : List UInt8} {op : ByteArray} (h : Piece p t a raw op) : L (str1 t) = a ++ ((if t.neg then [33, 61] else [61]) ++ raw) := by
  have he : esc (L t.v) = raw := by
    have := ub_esc raw [] (L t.v) false h.un
    simpa [esc] using this
  unfold str1
  rw [L_app, L_app, h.f, he]
  show a ++ L _ ++ raw = _
  rw [List.append_assoc]
  cases t.neg <;> rfl
theorem oL_two {l m : List UInt8} (h : l.take 2 = m.take 2) : oL l = oL m := by
  have h1 : l.take 1 = m.take 1 := by
    have := congrArg (List.take 1) h
    simpa [List.take_take] using this
  unfold oL
  rw [h, h1]
/-- A term that was read is written so that it is read again, no longer, and whole. -/
theorem reread {p : ByteArray} {t : Tm} (hp : pt p = true) (h : termOf p = some (some t)) :
    termOf (str1 t) = some (some t) ∧ (str1 t).size ≤ p.size ∧ VL (L (str1 t)) ∧ (st (L p) false ≠ none → st (L (str1 t)) false = some false) ∧ 0 < (str1 t).size := by
  obtain ⟨a, raw, op, hP⟩ := piece_of hp h
  have hL := str1_L hP
  have hvl := vl_of_pt hp
  have hst := ub_st raw [] _ false hP.un
  obtain ⟨o2, ho2⟩ : ∃ o2 : List UInt8, (if t.neg then [33, 61] else [61]) = o2 := ⟨_, rfl⟩
  rw [ho2] at hL
  -- where the operator is written as it stood, or as one sign for two
  have hk : ∃ op2 : ByteArray, L op2 = o2 ∧ oL (o2 ++ raw) = some op2 ∧ t.neg = decide (op2 = ⟨#[33, 61]⟩) ∧ (o2.length ≤ (L op).length) ∧ (o2 ++ raw).take 1 = (L op ++ raw).take 1 ∧ VL a ∧ VL raw ∧ VL o2 ∧ (∀ y, st o2 y = some false ∨ (y = true ∧ o2 = [33, 61])) ∧ (∀ y, st o2 y = some false) := by
    have s1 : ∀ y, st [33, 61] y = some false := fun y => by cases y <;> rfl
    have s2 : ∀ y, st [61] y = some false := fun y => by cases y <;> rfl
    have v33 : VL [33, 61] := VL_app (a := [33]) (VL_byte (by decide)) (VL_byte (by decide))
    have v61 : VL [61] := VL_byte (by decide)
    have hn := hP.neg
    have hat := hP.at_
    have heq := hP.eq
    rcases oL_cases hat with ⟨e, m, hm⟩ | ⟨e, m, hm⟩ | ⟨e, m, hm⟩
    · subst e
      have hng : t.neg = true := by rw [hn]; rfl
      rw [hng, if_pos rfl] at ho2
      subst ho2
      rw [heq] at hvl
      obtain ⟨va, vr⟩ := VL.split (c := 33) (b := 61 :: raw) (by decide) hvl
      obtain ⟨_, vr⟩ := VL.split (c := 61) (a := []) (b := raw) (by decide) vr
      exact ⟨⟨#[33, 61]⟩, rfl, hat, hn, Nat.le_refl _, rfl, va, vr, v33, fun y => .inl (s1 y), s1⟩
    · subst e
      have hng : t.neg = false := by rw [hn]; rfl
      rw [hng, if_neg (by decide)] at ho2
      subst ho2
      rw [heq] at hvl
      obtain ⟨va, vr⟩ := VL.split (c := 61) (b := 61 :: raw) (by decide) hvl
      obtain ⟨_, vr⟩ := VL.split (c := 61) (a := []) (b := raw) (by decide) vr
      refine ⟨⟨#[61]⟩, rfl, ?_, by rw [hng]; rfl, by decide, rfl, va, vr, v61, fun y => .inl (s2 y), s2⟩
      have hun := hP.un
      rcases raw with _ | ⟨c, raw⟩
      · rfl
      · have hc : ¬ c = 61 := by
          intro e
          subst e
          simp [ub] at hun
        unfold oL
        simp [hc]
    · subst e
      have hng : t.neg = false := by rw [hn]; rfl
      rw [hng, if_neg (by decide)] at ho2
      subst ho2
      rw [heq] at hvl
      obtain ⟨va, vr⟩ := VL.split (c := 61) (b := raw) (by decide) hvl
      exact ⟨⟨#[61]⟩, rfl, hat, hn, Nat.le_refl _, rfl, va, vr, v61, fun y => .inl (s2 y), s2⟩
  obtain ⟨op2, e2, hat2, hn2, hlen, htk, va, vr, vo, _, hs2⟩ := hk
  have hB : str1 t = B (a ++ (o2 ++ raw)) := L_inj2 (by rw [L_B, hL])
  have hsz : (str1 t).size = a.length + (o2.length + raw.length) := by rw [← L_length, hL]; simp
  have hsz2 : p.size = a.length + ((L op).length + raw.length) := by rw [← L_length p, hP.eq]; simp
  have hpos : 0 < o2.length := by rw [← ho2]; split <;> decide
  have hcut := cut_at a (o2 ++ raw) op2 hat2 (fun x hx => by
    rw [← hP.first x hx, hP.eq]
    refine oL_two ?_
    rw [List.drop_append_of_le_length (by omega), List.drop_append_of_le_length (by omega)]
    have hd : 0 < (a.drop x).length := by rw [List.length_drop]; omega
    rcases hda : a.drop x with _ | ⟨c, d⟩
    · rw [hda] at hd; cases hd
    · rcases d with _ | ⟨c2, d⟩
      · show c :: (o2 ++ raw).take 1 = c :: (L op ++ raw).take 1
        rw [htk]
      · rfl)
  have hdrop : (o2 ++ raw).drop op2.size = raw := by
    rw [← L_length op2, e2]; simp
  refine ⟨?_, by omega, by rw [hL]; exact VL_app va (VL_app vo vr), fun hs => ?_, by omega⟩
  · rw [hB]
    unfold termOf
    rw [hcut, hdrop]
    simp only
    rw [if_neg (by rw [← hB]; omega), if_pos trivial, hP.uvs]
    simp only
    rw [← hn2]
    have ev : (⟨(L t.v).toArray⟩ : ByteArray) = t.v := L_inj2 rfl
    rw [ev, ← hP.f]
  · rw [hL]
    rw [hP.eq] at hs
    have hy : ∃ y, st a false = some y := by
      rw [st_append] at hs
      cases hq : st a false with
      | none => rw [hq] at hs; exact absurd rfl hs
      | some y => exact ⟨y, rfl⟩
    obtain ⟨y, hy⟩ := hy
    rw [st_append, hy]
    show st (o2 ++ raw) y = _
    rw [st_append, hs2 y]
    exact hst
/-! ### All the pieces -/
def zt : Tm := ⟨false, ⟨#[]⟩, ⟨#[]⟩⟩
def tmOf (p : ByteArray) : Tm := ((termOf p).bind id).getD zt
theorem rawT_all : ∀ ps : List ByteArray, (∀ p ∈ ps, ∃ t, termOf p = some (some t)) → rawT ps = some (ps.map tmOf)
  | [], _ => rfl
  | p :: ps, h => by
    obtain ⟨t, ht⟩ := h p (by simp)
    unfold rawT
    rw [ht]
    simp only
    rw [rawT_all ps (fun q hq => h q (List.mem_cons_of_mem _ hq))]
    have : tmOf p = t := by unfold tmOf; rw [ht]; rfl
    rw [List.map_cons, this]
    rfl
theorem srt_perm (l : List ByteArray) : (srt l).Perm l := by
  unfold srt
  have hp := List.mergeSort_perm (l.map fun s => s.data.toList) fun x y => decide (x ≤ y)
  have := hp.map B
  rw [List.map_map] at this
  have e : l.map (B ∘ fun s => s.data.toList) = l := (List.map_congr_left (g := id) (fun a _ => B_data a)).trans (List.map_id _)
  rw [e] at this
  exact this
/-- The lengths with a comma each. -/
def wt (ps : List ByteArray) : Nat := (ps.map fun p => p.size + 1).sum
theorem wt_goP (l : List UInt8) : ∀ (sl : Bool) (cur : List UInt8), ((goP l sl cur).map fun p => p.length + 1).sum = cur.length + l.length + 1 := by
  induction l with
  | nil => intro sl cur; simp [goP]
  | cons b l ih =>
    intro sl cur
    cases sl with
    | true => rw [goP_true, ih]; simp; omega
    | false =>
      unfold goP
      split
      · rw [ih]; simp; omega
      · split
        · rw [List.map_cons, List.sum_cons, ih]; simp; omega
        · rw [ih]; simp; omega
theorem wt_pieces (s : ByteArray) : wt (pieces s) ≤ s.size + 1 := by
  unfold pieces wt
  split
  · simp
  · rw [List.map_map]
    have := wt_goP (L s) false []
    rw [L_length] at this
    have e : ((goP (L s) false []).map ((fun p : ByteArray => p.size + 1) ∘ fun p => (⟨p.toArray⟩ : ByteArray))) = (goP (L s) false []).map fun p => p.length + 1 := by
      refine List.map_congr_left (fun a _ => ?_)
      show a.toArray.size + 1 = _
      simp
    rw [e, this]
    simp
theorem wt_perm {a b : List ByteArray} (h : a.Perm b) : wt a = wt b := (h.map _).sum_nat
theorem wt_rawT : ∀ (ps : List ByteArray) (out : List Tm), (∀ p ∈ ps, pt p = true) → rawT ps = some out → wt (out.map str1) ≤ wt ps
  | [], out, _, h => by cases h; exact Nat.le_refl _
  | p :: ps, out, hp, h => by
    unfold rawT at h
    have e : wt (p :: ps) = p.size + 1 + wt ps := by simp [wt]
    cases hq : termOf p with
    | none => rw [hq] at h; cases h
    | some t =>
      rw [hq] at h
      cases t with
      | none =>
        have := wt_rawT ps out (fun q hq => hp q (List.mem_cons_of_mem _ hq)) h
        omega
      | some t =>
        simp only at h
        cases hr : rawT ps with
        | none => rw [hr] at h; cases h
        | some x =>
          rw [hr] at h
          cases h
          have := wt_rawT ps x (fun q hq => hp q (List.mem_cons_of_mem _ hq)) hr
          have h2 := (reread (hp p (by simp)) hq).2.1
          have e2 : wt ((t :: x).map str1) = (str1 t).size + 1 + wt (x.map str1) := by simp [wt]
          rw [e2]
          omega
theorem rawT_from : ∀ (ps : List ByteArray) (out : List Tm), rawT ps = some out → ∀ t ∈ out, ∃ p ∈ ps, termOf p = some (some t)
  | [], out, h => by cases h; intro t ht; cases ht
  | p :: ps, out, h => by
    unfold rawT at h
    cases hq : termOf p with
    | none => rw [hq] at h; cases h
    | some t =>
      rw [hq] at h
      cases t with
      | none =>
        intro t ht
        obtain ⟨q, hq, e⟩ := rawT_from ps out h t ht
        exact ⟨q, List.mem_cons_of_mem _ hq, e⟩
      | some t0 =>
        simp only at h
        cases hr : rawT ps with
        | none => rw [hr] at h; cases h
        | some x =>
          rw [hr] at h
          cases h
          intro t ht
          rcases List.mem_cons.1 ht with rfl | ht
          · exact ⟨p, by simp, hq⟩
          · obtain ⟨q, hq, e⟩ := rawT_from ps x hr t ht
            exact ⟨q, List.mem_cons_of_mem _ hq, e⟩
theorem wt_keep (out : List Tm) : wt ((keep out).map str1) ≤ wt (out.map str1) := by
  unfold wt keep
  induction out with
  | nil => exact Nat.le_refl _
  | cons t l ih =>
    rw [List.filter_cons]
    split
    · simp only [List.map_cons, List.sum_cons]; omega
    · simp only [List.map_cons, List.sum_cons]; omega
theorem join_wt : ∀ (ps : List ByteArray), ps ≠ [] → (Lib.join (ps.map (·.data.toList)) [44]).length + 1 = wt ps
  | [], h => absurd rfl h
  | p :: ps, _ => by
    rw [List.map_cons, Lib.join_length]
    unfold wt Lib.lens
    have : ∀ l : List ByteArray, (l.map fun p => p.size + 1).sum = ((l.map (·.data.toList)).map (·.length)).sum + l.length := by
      intro l
      induction l with
      | nil => rfl
      | cons a l ih =>
        simp only [List.map_cons, List.sum_cons, List.length_cons, ih]
        have : a.data.toList.length = a.size := L_length a
        omega
    rw [this (p :: ps)]
    simp only [List.map_cons, List.length_map, List.length_cons, List.length_nil]
    omega
theorem VL_join : ∀ (ps : List (List UInt8)), (∀ p ∈ ps, VL p) → VL (Lib.join ps [44])
  | [], _ => VL.nil
  | [p], h => by rw [Lib.join_one]; exact h p (by simp)
  | p :: q :: ps, h => by
    have e : Lib.join (p :: q :: ps) [44] = p ++ ([44] ++ Lib.join (q :: ps) [44]) := by
      rw [Lib.join_cons, Lib.join_cons]; simp [Lib.joinTail]
    rw [e]
    exact VL_app (h p (by simp)) (VL_app (VL_byte (by decide)) (VL_join (q :: ps) (fun x hx => h x (List.mem_cons_of_mem _ hx))))
theorem emp_of_str {t : Tm} (h : emp t = false) : keep [t] = [t] := by
  unfold keep
  rw [List.filter_cons, h]; rfl
theorem keep_of {l : List Tm} (h : ∀ t ∈ l, emp t = false) : keep l = l := by
  unfold keep
  rw [List.filter_eq_self]
  intro t ht
  rw [h t ht]; rfl
/-- A selector's text is UTF-8, no longer than what it was read from, and read to the same terms, in some order. -/
theorem again {s : ByteArray} {ts : List Tm} (hs : pt s = true) (h : termsOf s = some ts) :
    pt (strL ts) = true ∧ (strL ts).size ≤ s.size ∧ (Lib.join ((ts.map str1).map (·.data.toList)) [44]).length ≤ s.size ∧ (∀ t ∈ ts, (str1 t).size ≤ s.size) ∧ ∃ ts', termsOf (strL ts) = some ts' ∧ ts'.Perm ts := by
  unfold termsOf at h
  cases hr : rawT (srt (pieces s)) with
  | none => rw [hr] at h; cases h
  | some out =>
    rw [hr] at h
    cases h
    have hpp : ∀ p ∈ srt (pieces s), pt p = true := fun p hp => pieces_pt hs p ((srt_mem _ p).1 hp)
    have hw1 := wt_rawT _ out hpp hr
    rw [wt_perm (srt_perm _)] at hw1
    have hw2 := wt_pieces s
    have hw3 := wt_keep out
    obtain ⟨ts, hts⟩ : ∃ ts, keep out = ts := ⟨_, rfl⟩
    have hemp : ∀ t ∈ ts, emp t = false := fun t ht => by
      rw [← hts] at ht
      have := (List.mem_filter.1 ht).2
      simpa using this
    have hsrc : ∀ t ∈ ts, ∃ p, pt p = true ∧ termOf p = some (some t) ∧ st (L p) false ≠ none := fun t ht => by
      rw [← hts] at ht
      obtain ⟨p, hp, e⟩ := rawT_from _ out hr t (List.mem_filter.1 ht).1
      refine ⟨p, hpp p hp, e, ?_⟩
      have hm := (srt_mem _ p).1 hp
      unfold pieces at hm
      split at hm
      · cases hm
      · obtain ⟨q, hq, rfl⟩ := List.mem_map.1 hm
        exact goP_pieces _ false [] rfl q hq
    rw [hts] at hw3 ⊢
    have hre : ∀ t ∈ ts, termOf (str1 t) = some (some t) ∧ VL (L (str1 t)) ∧ st (L (str1 t)) false = some false ∧ 0 < (str1 t).size := fun t ht => by
      obtain ⟨p, h1, h2, h3⟩ := hsrc t ht
      have := reread h1 h2
      exact ⟨this.1, this.2.2.1, this.2.2.2.1 h3, this.2.2.2.2⟩
    have hlen : (Lib.join ((ts.map str1).map (·.data.toList)) [44]).length ≤ s.size := by
      by_cases he : ts = []
      · rw [he]; exact Nat.zero_le _
      · have := join_wt (ts.map str1) (fun e => he (List.map_eq_nil_iff.1 e))
        omega
    have hLs : L (strL ts) = Lib.join ((ts.map str1).map (·.data.toList)) [44] := rfl
    have hsz : (strL ts).size = (Lib.join ((ts.map str1).map (·.data.toList)) [44]).length := by rw [← hLs, L_length]
    refine ⟨pt_of_vl ?_, by omega, hlen, fun t ht => ?_, ?_⟩
    · rw [hLs]
      refine VL_join _ (fun p hp => ?_)
      obtain ⟨q, hq, rfl⟩ := List.mem_map.1 hp
      obtain ⟨t, ht, rfl⟩ := List.mem_map.1 hq
      exact (hre t ht).2.1
    · have h1 : ∀ l : List ByteArray, ∀ x ∈ l, x.size + 1 ≤ wt l := by
        intro l
        induction l with
        | nil => intro x hx; cases hx
        | cons a l ih =>
          intro x hx
          have e : wt (a :: l) = a.size + 1 + wt l := by simp [wt]
          rcases List.mem_cons.1 hx with rfl | hx
          · omega
          · have := ih x hx; omega
      have := h1 (ts.map str1) (str1 t) (List.mem_map.2 ⟨t, ht, rfl⟩)
      omega
    · have hpc : pieces (strL ts) = ts.map str1 := by
        rcases ts with _ | ⟨t, ts⟩
        · rfl
        · unfold pieces
          have hpos : ¬ (strL (t :: ts)).size = 0 := by
            have h1 := join_wt ((t :: ts).map str1) (fun e => nomatch e)
            have h2 : wt ((t :: ts).map str1) = (str1 t).size + 1 + wt (ts.map str1) := by simp [wt]
            have h3 := (hre t (by simp)).2.2.2
            omega
          rw [if_neg hpos, hLs, List.map_cons, List.map_cons, goP_join]
          · simp only [List.map_cons, List.map_map]
            have e : ∀ b : ByteArray, (⟨(b.data.toList).toArray⟩ : ByteArray) = b := fun b => L_inj2 rfl
            rw [e]
            congr 1
          · intro q hq
            rw [← List.map_cons (f := fun b : ByteArray => b.data.toList), ← List.map_cons (f := str1)] at hq
            obtain ⟨b, hb, rfl⟩ := List.mem_map.1 hq
            obtain ⟨t', ht, rfl⟩ := List.mem_map.1 hb
            exact (hre t' ht).2.2.1
      have hall : ∀ p ∈ srt (ts.map str1), ∃ t ∈ ts, p = str1 t := fun p hp => by
        obtain ⟨t, ht, e⟩ := List.mem_map.1 ((srt_mem _ p).1 hp)
        exact ⟨t, ht, e.symm⟩
      have hraw := rawT_all (srt (ts.map str1)) (fun p hp => by
        obtain ⟨t, ht, rfl⟩ := hall p hp
        exact ⟨t, (hre t ht).1⟩)
      have htm : ∀ t ∈ ts, tmOf (str1 t) = t := fun t ht => by unfold tmOf; rw [(hre t ht).1]; rfl
      have hperm : ((srt (ts.map str1)).map tmOf).Perm ts := by
        have := (srt_perm (ts.map str1)).map tmOf
        rw [List.map_map] at this
        have e : ts.map (tmOf ∘ str1) = ts := (List.map_congr_left (g := id) (fun t ht => htm t ht)).trans (List.map_id _)
        rwa [e] at this
      refine ⟨(srt (ts.map str1)).map tmOf, ?_, hperm⟩
      unfold termsOf
      rw [hpc, hraw]
      show some (keep _) = _
      rw [keep_of (fun t ht => hemp t (hperm.mem_iff.1 ht))]
theorem strL_perm {a b : List Tm} (h : a.Perm b) : (strL a).size = (strL b).size := by
  have hL : ∀ l : List Tm, (strL l).size = (Lib.join ((l.map str1).map (·.data.toList)) [44]).length := fun l => by
    have : L (strL l) = Lib.join ((l.map str1).map (·.data.toList)) [44] := rfl
    rw [← this, L_length]
  rw [hL, hL]
  by_cases he : a = []
  · subst he
    rw [List.nil_perm.1 h]
  · have hb : b ≠ [] := fun e => he (by rw [e] at h; exact List.perm_nil.1 h)
    have h1 := join_wt (a.map str1) (fun e => he (List.map_eq_nil_iff.1 e))
    have h2 := join_wt (b.map str1) (fun e => hb (List.map_eq_nil_iff.1 e))
    have h3 := wt_perm (h.map str1)
    omega
end Go.Proofs.YtccdnmachpepcaaDoor.FtX

set_option linter.unusedSimpArgs false
set_option linter.unusedVariables false
namespace Go.Proofs.YtccdnmachpepcaaDoor.FtP
open Go Go.RowKit Go.Proofs.YtccdnmachpepcaaDoor.FuM Go.Proofs.YtccdnmachpepcaaDoor.FsK Go.Proofs.YtccdnmachpepcaaDoor.FsS Go.Proofs.YtccdnmachpepcaaDoor.FsM Go.Proofs.YtccdnmachpepcaaDoor.FsN Go.Proofs.YtccdnmachpepcaaDoor.FsQ Go.Proofs.YtccdnmachpepcaaDoor.FsR Go.Proofs.YtccdnmachpepcaaDoor.FsV Go.Proofs.YtccdnmachpepcaaDoor.FsW Go.Proofs.YtccdnmachpepcaaDoor.FtR Go.Proofs.YtccdnmachpepcaaDoor.FtS Go.Proofs.YtccdnmachpepcaaDoor.FtT Go.Proofs.YtccdnmachpepcaaDoorW.PrintWords Go.Proofs.YtccdnmachpepcaaDoorW.PrintLast
/-- Terms that fit in memory, written. -/
def Fit (ts : List Tm) : Prop := (∀ t ∈ ts, t.f.size ≤ 2147483647 ∧ t.v.size ≤ 2147483647) ∧ (Lib.join ((ts.map str1).map (·.data.toList)) [44]).length ≤ 140737488355328
theorem strL_one (t : Tm) : strL [t] = str1 t := by
  unfold strL joinB
  rw [List.map_cons, List.map_nil, List.map_cons, List.map_nil, Lib.join_one]
/-- What FieldParse tells. -/
def FP (r : Option (List Tm)) (base : Nat) (e : Ending) (w' : World) : Prop :=
  match r with
  | none => e = .returned (.tuple #[.slice none 0 0, .string ⟨#[]⟩, .bool true])
  | some ts => ∃ u, e = .returned (.tuple #[u, .string (strL ts), .bool false]) ∧ DR w' base u ts
set_option maxHeartbeats 6400000 in
set_option maxRecDepth 100000 in
theorem fp_calls (s : ByteArray) (hs : s.size ≤ 1099511627775) (hpt : pt s = true) (hfit : ∀ ts, termsOf s = some ts → Fit ts) (w : World) :
    Calls Tryd.prog 12 #[.string s] w fun e w' => FP (termsOf s) w.heap.size e w' ∧ Below w.heap.size w w' := by
  have h := sel_calls s (by omega) hpt w
  have hts := terms_size s
  cases hr : termsOf s with
  | none =>
    rw [hr] at h
    replace h := Aside0.mk h
    clear hr hts hfit
    show Calls _ _ _ _ fun e w' => e = .returned (.tuple #[.slice none 0 0, .string ⟨#[]⟩, .bool true]) ∧ _
    go_enter Tryd.func12, Tryd.ntmps12
    go_wp2_with fail
    refine h.out.mono ?_
    rintro e w1 ⟨⟨t, p, rfl⟩, hb⟩
    replace hb := Aside0.mk hb
    go_wp2_with fail
    refine bodyPost_ret (results_list (rs := [.tmp 2, .tmp 3, .tmp 4]) rfl (by simp) (.tmp (.tmp (.tmp .nil)))) rfl ?_
    exact ⟨rfl, hb.out⟩
  | some ts =>
    rw [hr] at h
    have hlen := (hts ts hr).2
    have hF := Aside0.mk (hfit ts hr)
    have hl2 : ts.length ≤ 1099511627776 := by omega
    replace h := Aside0.mk h
    clear hr hts hfit hlen
    show Calls _ _ _ _ fun e w' => (∃ u, e = .returned (.tuple #[u, .string (strL ts), .bool false]) ∧ DR w' w.heap.size u ts) ∧ _
    obtain ⟨out, hout⟩ : ∃ out, strL ts = out := ⟨_, rfl⟩
    rw [hout]
    replace hl2 := Aside0.mk hl2
    go_enter Tryd.func12, Tryd.ntmps12
    go_wp2_with fail
    refine h.out.mono ?_
    rintro e w1 ⟨⟨v, rfl, hM⟩, hb⟩
    replace hb := Aside0.mk hb
    have hT := Aside0.mk (terms_calls ts hl2.out v _ _ w1 hM)
    rcases sel_cases hM with ⟨f, x, b, rfl, rfl, hat⟩ | ⟨f, x, b, rfl, rfl, hat⟩ | ⟨A2, c2, rfl, hA, hC2⟩
    · have a1 := na_has_String
      have a2 := me_has_String
      replace hat := Aside0.mk hat
      have hout := Aside0.mk hout
      clear hM
      go_wp2_with fail
      refine hT.out.mono ?_
      rintro e w2 ⟨u, rfl, hD, hb2⟩
      have hS := Aside0.mk (st_has b f x (hF.out.1 _ (List.mem_singleton.2 rfl)).1 (hF.out.1 _ (List.mem_singleton.2 rfl)).2 w2 (at_below hat.out hb2))
      replace hD := Aside0.mk hD
      replace hb2 := Aside0.mk hb2
      clear hT
      go_wp2_with fail
      refine hS.out.mono ?_
      rintro e w3 ⟨rfl, hb3⟩
      have hbb := Aside0.mk (below_via (below_via hb.out hb2.out) hb3)
      have hD3 := Aside0.mk (Kd.R_lower (Kd.R_below hD.out hb3) hb.out.size)
      clear hb3
      go_wp2_with fail
      refine bodyPost_ret (results_list (rs := [.tmp 2, .tmp 3, .tmp 4]) rfl (by simp) (.tmp (.tmp (.tmp .nil)))) rfl ?_
      exact ⟨⟨_, by rw [← hout.out]; rw [strL_one]; rfl, hD3.out⟩, hbb.out⟩
    · have a1 := na_not_String
      have a2 := me_not_String
      replace hat := Aside0.mk hat
      have hout := Aside0.mk hout
      clear hM
      go_wp2_with fail
      refine hT.out.mono ?_
      rintro e w2 ⟨u, rfl, hD, hb2⟩
      have hS := Aside0.mk (st_not b f x (hF.out.1 _ (List.mem_singleton.2 rfl)).1 (hF.out.1 _ (List.mem_singleton.2 rfl)).2 w2 (at_below hat.out hb2))
      replace hD := Aside0.mk hD
      replace hb2 := Aside0.mk hb2
      clear hT
      go_wp2_with fail
      refine hS.out.mono ?_
      rintro e w3 ⟨rfl, hb3⟩
      have hbb := Aside0.mk (below_via (below_via hb.out hb2.out) hb3)
      have hD3 := Aside0.mk (Kd.R_lower (Kd.R_below hD.out hb3) hb.out.size)
      clear hb3
      go_wp2_with fail
      refine bodyPost_ret (results_list (rs := [.tmp 2, .tmp 3, .tmp 4]) rfl (by simp) (.tmp (.tmp (.tmp .nil)))) rfl ?_
      exact ⟨⟨_, by rw [← hout.out]; rw [strL_one]; rfl, hD3.out⟩, hbb.out⟩
    · have a1 := na_and_String
      have a2 := me_and_String
      have hat := Aside0.mk hC2
      clear hC2 hA
      have hout := Aside0.mk hout
      clear hM
      go_wp2_with fail
      refine hT.out.mono ?_
      rintro e w2 ⟨u, rfl, hD, hb2⟩
      have hS := Aside0.mk (st_and A2 ts c2 hl2.out hF.out.1 hF.out.2 w2 (Kd.C_below hat.out hb2))
      replace hD := Aside0.mk hD
      replace hb2 := Aside0.mk hb2
      clear hT
      go_wp2_with fail
      refine hS.out.mono ?_
      rintro e w3 ⟨rfl, hb3⟩
      have hbb := Aside0.mk (below_via (below_via hb.out hb2.out) hb3)
      have hD3 := Aside0.mk (Kd.R_lower (Kd.R_below hD.out hb3) hb.out.size)
      clear hb3
      go_wp2_with fail
      refine bodyPost_ret (results_list (rs := [.tmp 2, .tmp 3, .tmp 4]) rfl (by simp) (.tmp (.tmp (.tmp .nil)))) rfl ?_
      exact ⟨⟨_, by rw [← hout.out]; rfl, hD3.out⟩, hbb.out⟩
end Go.Proofs.YtccdnmachpepcaaDoor.FtP
