/- Selectors of fields as they lie in memory. -/
import Derived.Test.YtccdnmachpepcaaDoorWMore
import Derived.Test.YtccdnmachpepcaaDoorFsA
import Derived.Test.YtccdnmachpepcaaDoorProg
import Derived.Deep.QuietTactic
import Derived.BigQuiet
import Derived.LoopTactic
import Derived.Outline
import Derived.Lib.SliceRun
set_option linter.unusedSimpArgs false
set_option linter.unusedVariables false
namespace Go.Proofs.YtccdnmachpepcaaDoor.FsK
open Go Go.RowKit Go.Proofs.YtccdnmachpepcaaDoorW.PrintWords Go.Proofs.YtccdnmachpepcaaDoorW.PrintLast
/-- A term: whether it is an unequal one, its field, its value. -/
structure Tm where
  neg : Bool
  f : ByteArray
  v : ByteArray
def ty (b : Bool) : Nat := if b then 82 else 84
def itv (t : Tm) (b : Nat) : Value := .iface (if t.neg then 80 else 83) (.pointer (some ⟨b, 0, none⟩))
def At (w : World) (b : Nat) (t : Tm) : Prop := w.heap[b]? = some (.cells #[.string t.f, .string t.v] (ty t.neg) (0, 0))
theorem itv_one (t : Tm) (b : Nat) : (itv t b).oneCell' = true := by unfold itv; rfl
/-- A term behind an interface. -/
def ksel : Kd Tm where
  sz := 1
  E := [84, 82]
  K := fun w t cs => ∃ b, cs = [itv t b] ∧ At w b t
  M := fun w base ok t cs => ∃ b, cs = [itv t b] ∧ ok b ∧ base ≤ b ∧ At w b t
  K_len := by
    rintro w x cs ⟨b, rfl, _⟩
    rfl
  K_one := by
    rintro w x cs ⟨b, rfl, _⟩ u hu
    rw [List.mem_singleton.1 hu]
    exact itv_one _ _
  K_below := by
    rintro w w1 x cs hb ⟨b, rfl, h⟩
    exact ⟨b, rfl, (hb.block b (blk_lt h)).trans h⟩
  K_of_M := by
    rintro w base ok x cs ⟨b, rfl, _, _, h⟩
    exact ⟨b, rfl, h⟩
  M_mono := by
    rintro w base ok ok' x cs hok ⟨b, rfl, h1, h2, h3⟩
    exact ⟨b, rfl, hok b h1, h2, h3⟩
  M_bound := by
    rintro w base ok x cs ⟨b, rfl, h1, h2, h3⟩
    exact ⟨b, rfl, ⟨h1, h2, blk_lt h3, ty x.neg, by unfold ty; split <;> simp, _, h3⟩, h2, h3⟩
  M_move := by
    rintro w w1 base ok x cs hm ⟨b, rfl, h1, h2, h3⟩
    exact ⟨b, rfl, h1, h2, (hm b h1).trans h3⟩
  M_lower := by
    rintro w base base' ok x cs hb ⟨b, rfl, h1, h2, h3⟩
    exact ⟨b, rfl, h1, Nat.le_trans hb h2, h3⟩
/-- A selector: one term, or a row of terms. -/
def kwrap : Kd (List Tm) where
  sz := 1
  E := 52 :: ksel.E
  K := fun w ts cs => (∃ t, ts = [t] ∧ ksel.K w t cs) ∨ (∃ A c, cs = [.iface 86 (.slice A ts.length c)] ∧ ts.length ≤ c ∧ ksel.C w A ts.length ts)
  M := fun w base ok ts cs => (∃ t, ts = [t] ∧ ksel.M w base ok t cs) ∨ (∃ v, cs = [.iface 86 v] ∧ ksel.R 52 w base ok v ts)
  K_len := by
    rintro w x cs (⟨t, _, h⟩ | ⟨A, c, rfl, _⟩)
    · exact ksel.K_len h
    · rfl
  K_one := by
    rintro w x cs (⟨t, _, h⟩ | ⟨A, c, rfl, _⟩) u hu
    · exact ksel.K_one h u hu
    · rw [List.mem_singleton.1 hu]; rfl
  K_below := by
    rintro w w1 x cs hb (⟨t, e, h⟩ | ⟨A, c, rfl, hl, h⟩)
    · exact .inl ⟨t, e, ksel.K_below hb h⟩
    · exact .inr ⟨A, c, rfl, hl, Kd.C_below h hb⟩
  K_of_M := by
    rintro w base ok x cs (⟨t, e, h⟩ | ⟨v, rfl, h⟩)
    · exact .inl ⟨t, e, ksel.K_of_M h⟩
    · obtain ⟨A, c, rfl, hl, hr⟩ := Kd.R_reads h
      exact .inr ⟨A, c, rfl, hl, hr⟩
  M_mono := by
    rintro w base ok ok' x cs hok (⟨t, e, h⟩ | ⟨v, rfl, h⟩)
    · exact .inl ⟨t, e, ksel.M_mono hok h⟩
    · exact .inr ⟨v, rfl, Kd.R_mono h hok⟩
  M_bound := by
    rintro w base ok x cs (⟨t, e, h⟩ | ⟨v, rfl, h⟩)
    · refine .inl ⟨t, e, ksel.M_mono ?_ (ksel.M_bound h)⟩
      rintro k ⟨h2, h3, h4, q, hq, hc⟩
      exact ⟨h2, h3, h4, q, List.mem_cons_of_mem _ hq, hc⟩
    · exact .inr ⟨v, rfl, Kd.R_bound h⟩
  M_move := by
    rintro w w1 base ok x cs hm (⟨t, e, h⟩ | ⟨v, rfl, h⟩)
    · exact .inl ⟨t, e, ksel.M_move hm h⟩
    · exact .inr ⟨v, rfl, Kd.R_move h hm⟩
  M_lower := by
    rintro w base base' ok x cs hb (⟨t, e, h⟩ | ⟨v, rfl, h⟩)
    · exact .inl ⟨t, e, ksel.M_lower hb h⟩
    · exact .inr ⟨v, rfl, Kd.R_lower h hb⟩
end Go.Proofs.YtccdnmachpepcaaDoor.FsK

set_option linter.unusedSimpArgs false
set_option linter.unusedVariables false
namespace Go.Proofs.YtccdnmachpepcaaDoor.FsM
open Go Go.RowKit Go.Proofs.YtccdnmachpepcaaDoor.FsK Go.Proofs.YtccdnmachpepcaaDoor.FsS Go.Proofs.YtccdnmachpepcaaDoorW.PrintWords Go.Proofs.YtccdnmachpepcaaDoorW.PrintLast
abbrev fnv : Value := .func (.func 24) #[] #[]
abbrev SR (w : World) (base : Nat) (ok : Nat → Prop) (v : Value) (l : List Tm) : Prop := ksel.R 52 w base ok v l
theorem at_below {w w1 : World} {b : Nat} {t : Tm} (h : At w b t) (hb : Below w.heap.size w w1) : At w1 b t := (hb.block b (blk_lt h)).trans h
theorem at_lt {w : World} {b : Nat} {t : Tm} (h : At w b t) : b < w.heap.size := blk_lt h
theorem at_c {w : World} {b : Nat} {t : Tm} (h : At w b t) : w.cell? ⟨b, 0, none⟩ = some (.string t.f) ∧ w.cell? ⟨b, 1, none⟩ = some (.string t.v) :=
  ⟨(blk_cell h 0).trans rfl, (blk_cell h 1).trans rfl⟩
theorem fn_calls (f v : ByteArray) (w : World) : Calls Tryd.prog 24 #[.string f, .string v] w fun e w' => e = .returned (.tuple #[.string f, .string v, .nilIface]) ∧ w' = w := by
  go_enter Tryd.func24, Tryd.ntmps24
  go_wp2_with fail
  refine bodyPost_ret (results_list (rs := [.tmp 4, .tmp 5, .tmp 6]) rfl (by simp) (.tmp (.tmp (.tmp .nil)))) rfl ?_
  exact ⟨rfl, rfl⟩
/-- Whether a term says nothing. -/
def emp (t : Tm) : Bool := decide (t.f.size = 0) && decide (t.v.size = 0)
theorem every_calls (w : World) : Calls Tryd.prog 102 #[] w fun e w' => ∃ v, e = .returned (.iface 86 v) ∧ SR w' w.heap.size (fun _ => True) v [] ∧ Below w.heap.size w w' := by
  have hR := R_room ksel 52 w (fun _ => True) #[.nilIface] 0 (by decide) rfl trivial
  rw [show madeCells #[Value.nilIface] 0 = #[] from by simp [madeCells]] at hR
  replace hR := Aside0.mk hR
  go_enter Tryd.func102, Tryd.ntmps102
  go_wp2_with fail
  go_ret
  exact ⟨_, rfl, hR.out, below_alloc (Below.refl _ _) _⟩
set_option maxHeartbeats 1000000 in
theorem empty_has (b : Nat) (w : World) : Calls Tryd.prog 104 #[.pointer (some ⟨b, 0, none⟩)] w fun e w' => e = .returned (.bool false) ∧ w' = w := by
  go_enter Tryd.func104, Tryd.ntmps104
  go_wp2_with fail
  go_ret
  exact ⟨rfl, rfl⟩
set_option maxHeartbeats 2000000 in
set_option maxRecDepth 100000 in
theorem tr_has_keep (b : Nat) (f v : ByteArray) (w : World) (h : At w b ⟨false, f, v⟩) (he : emp ⟨false, f, v⟩ = false) :
    Calls Tryd.prog 109 #[.pointer (some ⟨b, 0, none⟩), fnv] w fun e w' => ∃ b', e = .returned (.tuple #[.iface 83 (.pointer (some ⟨b', 0, none⟩)), .nilIface]) ∧ w.heap.size ≤ b' ∧ At w' b' ⟨false, f, v⟩ ∧ Below w.heap.size w w' := by
  obtain ⟨z0, z1⟩ := at_c h
  by_cases h0 : f.size = 0
  · have h1 : ¬ v.size = 0 := by
      intro h1; simp [emp, h0, h1] at he
    have e0 : ((f.size : Int) == 0) = true := by rw [h0]; rfl
    have e1 : ((v.size : Int) == 0) = false := beq_eq_false_iff_ne.mpr (by omega)
    clear he h
    replace h0 := Aside0.mk h0
    replace h1 := Aside0.mk h1
    go_enter Tryd.func109, Tryd.ntmps109
    go_wp2_with fail
    go_quiet ((go_at_call 24; exact Calls.quiet_of_same (fn_calls _ _ _)))
    go_wp2_with fail
    go_ret2
    exact ⟨_, rfl, Nat.le_refl _, heap_alloc_new _ _, below_alloc (pw_below_drewN (Below.refl _ _) _) _⟩
  · have e0 : ((f.size : Int) == 0) = false := beq_eq_false_iff_ne.mpr (by omega)
    clear he h
    replace h0 := Aside0.mk h0
    go_enter Tryd.func109, Tryd.ntmps109
    go_wp2_with fail
    go_quiet ((go_at_call 24; exact Calls.quiet_of_same (fn_calls _ _ _)))
    go_wp2_with fail
    go_ret2
    exact ⟨_, rfl, Nat.le_refl _, heap_alloc_new _ _, below_alloc (pw_below_drewN (Below.refl _ _) _) _⟩
set_option maxHeartbeats 2000000 in
set_option maxRecDepth 100000 in
theorem tr_has_drop (b : Nat) (f v : ByteArray) (w : World) (h : At w b ⟨false, f, v⟩) (he : emp ⟨false, f, v⟩ = true) :
    Calls Tryd.prog 109 #[.pointer (some ⟨b, 0, none⟩), fnv] w fun e w' => ∃ u, e = .returned (.tuple #[.iface 86 u, .nilIface]) ∧ SR w' w.heap.size (fun _ => True) u [] ∧ Below w.heap.size w w' := by
  obtain ⟨z0, z1⟩ := at_c h
  have h01 : f.size = 0 ∧ v.size = 0 := by simpa [emp] using he
  have e0 : ((f.size : Int) == 0) = true := by rw [h01.1]; rfl
  have e1 : ((v.size : Int) == 0) = true := by rw [h01.2]; rfl
  have hX := Aside0.mk (Below.refl w.heap.size w)
  clear he h
  replace h01 := Aside0.mk h01
  go_enter Tryd.func109, Tryd.ntmps109
  go_wp2_with fail
  go_quiet ((go_at_call 24; exact Calls.quiet_of_same (fn_calls _ _ _)))
  go_wp2_with fail
  refine (every_calls _).mono ?_
  rintro e w6 ⟨u, rfl, hR, hb⟩
  replace hR := Aside0.mk hR
  replace hb := Aside0.mk (below_then (pw_below_drewN hX.out _) (pw_below_drewN hX.out _).size hb)
  go_wp2_with fail
  go_ret2
  exact ⟨_, rfl, Kd.R_lower hR.out hX.out.size, hb.out⟩
set_option maxHeartbeats 1000000 in
theorem empty_not (b : Nat) (w : World) : Calls Tryd.prog 95 #[.pointer (some ⟨b, 0, none⟩)] w fun e w' => e = .returned (.bool false) ∧ w' = w := by
  go_enter Tryd.func95, Tryd.ntmps95
  go_wp2_with fail
  go_ret
  exact ⟨rfl, rfl⟩
set_option maxHeartbeats 2000000 in
set_option maxRecDepth 100000 in
theorem tr_not_keep (b : Nat) (f v : ByteArray) (w : World) (h : At w b ⟨true, f, v⟩) (he : emp ⟨true, f, v⟩ = false) :
    Calls Tryd.prog 100 #[.pointer (some ⟨b, 0, none⟩), fnv] w fun e w' => ∃ b', e = .returned (.tuple #[.iface 80 (.pointer (some ⟨b', 0, none⟩)), .nilIface]) ∧ w.heap.size ≤ b' ∧ At w' b' ⟨true, f, v⟩ ∧ Below w.heap.size w w' := by
  obtain ⟨z0, z1⟩ := at_c h
  by_cases h0 : f.size = 0
  · have h1 : ¬ v.size = 0 := by
      intro h1; simp [emp, h0, h1] at he
    have e0 : ((f.size : Int) == 0) = true := by rw [h0]; rfl
    have e1 : ((v.size : Int) == 0) = false := beq_eq_false_iff_ne.mpr (by omega)
    clear he h
    replace h0 := Aside0.mk h0
    replace h1 := Aside0.mk h1
    go_enter Tryd.func100, Tryd.ntmps100
    go_wp2_with fail
    go_quiet ((go_at_call 24; exact Calls.quiet_of_same (fn_calls _ _ _)))
    go_wp2_with fail
    go_ret2
    exact ⟨_, rfl, Nat.le_refl _, heap_alloc_new _ _, below_alloc (pw_below_drewN (Below.refl _ _) _) _⟩
  · have e0 : ((f.size : Int) == 0) = false := beq_eq_false_iff_ne.mpr (by omega)
    clear he h
    replace h0 := Aside0.mk h0
    go_enter Tryd.func100, Tryd.ntmps100
    go_wp2_with fail
    go_quiet ((go_at_call 24; exact Calls.quiet_of_same (fn_calls _ _ _)))
    go_wp2_with fail
    go_ret2
    exact ⟨_, rfl, Nat.le_refl _, heap_alloc_new _ _, below_alloc (pw_below_drewN (Below.refl _ _) _) _⟩
set_option maxHeartbeats 2000000 in
set_option maxRecDepth 100000 in
theorem tr_not_drop (b : Nat) (f v : ByteArray) (w : World) (h : At w b ⟨true, f, v⟩) (he : emp ⟨true, f, v⟩ = true) :
    Calls Tryd.prog 100 #[.pointer (some ⟨b, 0, none⟩), fnv] w fun e w' => ∃ u, e = .returned (.tuple #[.iface 86 u, .nilIface]) ∧ SR w' w.heap.size (fun _ => True) u [] ∧ Below w.heap.size w w' := by
  obtain ⟨z0, z1⟩ := at_c h
  have h01 : f.size = 0 ∧ v.size = 0 := by simpa [emp] using he
  have e0 : ((f.size : Int) == 0) = true := by rw [h01.1]; rfl
  have e1 : ((v.size : Int) == 0) = true := by rw [h01.2]; rfl
  have hX := Aside0.mk (Below.refl w.heap.size w)
  clear he h
  replace h01 := Aside0.mk h01
  go_enter Tryd.func100, Tryd.ntmps100
  go_wp2_with fail
  go_quiet ((go_at_call 24; exact Calls.quiet_of_same (fn_calls _ _ _)))
  go_wp2_with fail
  refine (every_calls _).mono ?_
  rintro e w6 ⟨u, rfl, hR, hb⟩
  replace hR := Aside0.mk hR
  replace hb := Aside0.mk (below_then (pw_below_drewN hX.out _) (pw_below_drewN hX.out _).size hb)
  go_wp2_with fail
  go_ret2
  exact ⟨_, rfl, Kd.R_lower hR.out hX.out.size, hb.out⟩
end Go.Proofs.YtccdnmachpepcaaDoor.FsM

set_option linter.unusedSimpArgs false
set_option linter.unusedVariables false
namespace Go.Proofs.YtccdnmachpepcaaDoor.FsN
open Go Go.RowKit Go.Proofs.YtccdnmachpepcaaDoor.FsK Go.Proofs.YtccdnmachpepcaaDoor.FsS Go.Proofs.YtccdnmachpepcaaDoor.FsM Go.Proofs.YtccdnmachpepcaaDoorW.PrintWords Go.Proofs.YtccdnmachpepcaaDoorW.PrintLast
theorem na_has_Transform (p : Option Addr) (w : World) : Sem.run Tryd.prog (nilAhead 266 83 (.pointer p) "Transform") w = .ok (some false) w := by kernel_rfl
theorem me_has_Transform (p : Option Addr) (w : World) : Sem.run Tryd.prog (method 266 83 (.pointer p) "Transform") w = .ok (109, .pointer p) w := by kernel_rfl
theorem na_has_Empty (p : Option Addr) (w : World) : Sem.run Tryd.prog (nilAhead 266 83 (.pointer p) "Empty") w = .ok (some false) w := by kernel_rfl
theorem me_has_Empty (p : Option Addr) (w : World) : Sem.run Tryd.prog (method 266 83 (.pointer p) "Empty") w = .ok (104, .pointer p) w := by kernel_rfl
theorem na_not_Transform (p : Option Addr) (w : World) : Sem.run Tryd.prog (nilAhead 266 80 (.pointer p) "Transform") w = .ok (some false) w := by kernel_rfl
theorem me_not_Transform (p : Option Addr) (w : World) : Sem.run Tryd.prog (method 266 80 (.pointer p) "Transform") w = .ok (100, .pointer p) w := by kernel_rfl
theorem na_not_Empty (p : Option Addr) (w : World) : Sem.run Tryd.prog (nilAhead 266 80 (.pointer p) "Empty") w = .ok (some false) w := by kernel_rfl
theorem me_not_Empty (p : Option Addr) (w : World) : Sem.run Tryd.prog (method 266 80 (.pointer p) "Empty") w = .ok (95, .pointer p) w := by kernel_rfl
theorem na_and_Empty (A : Option Addr) (n c : Nat) (w : World) : Sem.run Tryd.prog (nilAhead 266 86 (.slice A n c) "Empty") w = .ok (some false) w := by kernel_rfl
theorem me_and_Empty (A : Option Addr) (n c : Nat) (w : World) : Sem.run Tryd.prog (method 266 86 (.slice A n c) "Empty") w = .ok (111, .slice A n c) w := by kernel_rfl
/-- The terms that say something. -/
def keep (l : List Tm) : List Tm := l.filter fun t => !emp t
theorem keep_snoc (l : List Tm) (t : Tm) : keep (l ++ [t]) = keep l ++ (if emp t then [] else [t]) := by
  unfold keep
  rw [List.filter_append]
  cases h : emp t <;> simp [List.filter_cons, h]
theorem keep_length (l : List Tm) : (keep l).length ≤ l.length := List.length_filter_le _ _
theorem sel_at {w : World} {A : Option Addr} {l : List Tm} (h : ksel.C w A l.length l) {k : Nat} (hk : k < l.length) : ∃ ad b, A = some ad ∧ w.cell? (ad.add k) = some (itv l[k] b) ∧ At w b l[k] := by
  obtain ⟨ad, e, hc⟩ := h.2.2 (by omega)
  obtain ⟨c, _, ⟨b, rfl, hb⟩, hcell⟩ := hc k _ (List.getElem?_eq_getElem hk)
  refine ⟨ad, b, e, ?_, hb⟩
  have := hcell 0 (itv l[k] b) rfl
  simpa [ksel] using this
set_option maxHeartbeats 2000000 in
set_option maxRecDepth 100000 in
theorem empty_and_nil (A : Option Addr) (c : Nat) (hA : A ≠ none ∨ c = 0) (w : World) : Calls Tryd.prog 111 #[.slice A 0 c] w fun e w' => e = .returned (.bool true) ∧ w' = w := by
  cases A with
  | none =>
    obtain rfl : c = 0 := by simpa using hA
    have hq := fun (W : World) => Lib.run_eql_slice_nil (P := Tryd.prog) W 86 52 none 0 0 0 0 Tryd.underlying86
    go_enter Tryd.func111, Tryd.ntmps111
    go_wp2_with fail
    go_ret
    exact ⟨rfl, rfl⟩
  | some ad =>
    have hq := fun (W : World) => Lib.run_eql_slice_nil (P := Tryd.prog) W 86 52 (some ad) 0 c 0 0 Tryd.underlying86
    go_enter Tryd.func111, Tryd.ntmps111
    go_wp2_with fail
    go_ret
    exact ⟨rfl, rfl⟩
theorem nil_form {w : World} {base : Nat} {ok : Nat → Prop} {u : Value} (h : SR w base ok u []) : ∃ A c, u = .slice A 0 c ∧ (A ≠ none ∨ c = 0) := by
  obtain ⟨inner, ho⟩ := Kd.R_own h
  rcases ho.2 with ⟨rfl, _⟩ | ⟨g, cap, cur, rfl, _⟩
  · exact ⟨none, 0, rfl, .inr rfl⟩
  · exact ⟨some ⟨g, 0, none⟩, cap, rfl, .inl (by simp)⟩
set_option maxHeartbeats 6400000 in
set_option maxRecDepth 100000 in
theorem tr_and (A : Option Addr) (l : List Tm) (c : Nat) (hl : l.length ≤ 4398046511104) (w : World) (hC : ksel.C w A l.length l) :
    Calls Tryd.prog 30 #[.slice A l.length c, fnv] w fun e w' => ∃ u, e = .returned (.tuple #[.iface 86 u, .nilIface]) ∧ SR w' w.heap.size (fun _ => True) u (keep l) ∧ Below w.heap.size w w' := by
  have hmk : (Instr.makeSlice 76 (.int .i64 0) (.int .i64 (l.length : Int))).run Tryd.prog w = .ok (.slice (some ⟨w.heap.size, 0, none⟩) 0 l.length) (w.alloc (.cells (madeCells #[.nilIface] l.length) 52)) :=
    run_make_room (P := Tryd.prog) 76 52 .nilIface 16 Tryd.underlying76 (by kernel_rfl) rfl .i64 .i64 l.length (by omega) (by omega) w
  obtain ⟨w1, hw1⟩ : ∃ w1, w1 = w.alloc (.cells (madeCells #[.nilIface] l.length) 52) := ⟨_, rfl⟩
  have hR1 : SR w1 w.heap.size (fun _ => True) (.slice (some ⟨w.heap.size, 0, none⟩) 0 l.length) [] := by
    rw [hw1]
    exact R_room ksel _ w _ _ l.length (by unfold maxLen; omega) rfl trivial
  have hB1 : Below w.heap.size w w1 := by rw [hw1]; exact below_alloc (Below.refl _ _) _
  rw [← hw1] at hmk
  clear hw1
  replace hR1 := Aside0.mk hR1
  replace hB1 := Aside0.mk hB1
  have hCx := Aside0.mk hC
  have hlx := Aside0.mk hl
  clear hC
  go_enter Tryd.func30, Tryd.ntmps30
  go_wp2_with fail
  clear hmk
  go_loopw [6, 16] (fun v i wr => ∃ (k : Nat), k ≤ l.length ∧ i = .int .i64 (k : Int) ∧ Aside0 (Below w.heap.size w wr) ∧ Aside0 (SR wr w.heap.size (fun _ => True) v (keep (l.take k)))) (fun _ i _ => l.length - (intOf i).toNat)
  case atStart => exact ⟨0, by omega, rfl, hB1, hR1⟩
  case round =>
    obtain ⟨k, hk, rfl, hB, hR⟩ := hrel
    obtain ⟨A2, c2, rfl⟩ := Kd.R_slice hR.out
    by_cases hlt : k < l.length
    · obtain ⟨ad, b, rfl, hcell, hat⟩ := sel_at (Kd.C_below hCx.out hB.out) hlt
      have hts : l.take (k + 1) = l.take k ++ [l[k]] := by rw [List.take_succ_eq_append_getElem hlt]
      have hke : keep (l.take (k + 1)) = keep (l.take k) ++ (if emp l[k] then [] else [l[k]]) := by rw [hts, keep_snoc]
      have hkl : (keep (l.take k)).length ≤ 4398046511104 := by have := keep_length (l.take k); rw [List.length_take] at this; omega
      obtain ⟨xs, hxs⟩ : ∃ xs, keep (l.take k) = xs := ⟨_, rfl⟩
      rw [hxs] at hke hkl hR ⊢
      obtain ⟨t, ht⟩ : ∃ t, l[k] = t := ⟨_, rfl⟩
      rw [ht] at hcell hat hke
      clear hts ht hxs
      obtain ⟨ng, f, v⟩ := t
      replace hat := Aside0.mk hat
      have hk2 := Aside0.mk (show k + 1 ≤ l.length by omega)
      replace hkl := Aside0.mk hkl
      have q0 : (0 : Int) ≤ (k : Int) := Int.natCast_nonneg k
      have q1 : (k : Int) < (l.length : Int) := by omega
      rcases ng with _ | _
      · replace hcell : wr.cell? (ad.add k) = some (.iface 83 (.pointer (some ⟨b, 0, none⟩))) := hcell
        have a1 := na_has_Transform
        have a2 := me_has_Transform
        cases he : emp ⟨false, f, v⟩ with
        | true =>
          rw [he] at hke
          simp only [if_true, List.append_nil] at hke
          have a3 := na_and_Empty
          have a4 := me_and_Empty
          have hc := Aside0.mk (tr_has_drop b f v wr hat.out he)
          replace hke := Aside0.mk hke
          clear he
          go_wp2_with fail
          refine hc.out.mono ?_
          rintro e w6 ⟨u, rfl, hu, hb⟩
          obtain ⟨A3, c3, rfl, hA3⟩ := nil_form hu
          have hR2 := Aside0.mk (Kd.R_below hR.out hb)
          have hB2 := Aside0.mk (below_then hB.out hB.out.size hb)
          have hem := Aside0.mk (empty_and_nil A3 c3 hA3 w6)
          clear hu hb hA3 hc
          go_wp2_with fail
          refine hem.out.mono ?_
          rintro e w7 ⟨rfl, rfl⟩
          go_wp2_with fail
          go_roundw
          case rel => exact ⟨k + 1, hk2.out, by go_num, hB2, ⟨by rw [hke.out]; exact hR2.out⟩⟩
          case measure => simp [intOf]; omega
        | false =>
          rw [he] at hke
          simp only [Bool.false_eq_true, if_false] at hke
          have a3 := na_has_Empty
          have a4 := me_has_Empty
          have hc := Aside0.mk (tr_has_keep b f v wr hat.out he)
          replace hke := Aside0.mk hke
          clear he
          go_wp2_with fail
          refine hc.out.mono ?_
          rintro e w6 ⟨b', rfl, hbg, hat', hb⟩
          have hR2 := Aside0.mk (Kd.R_below hR.out hb)
          have hB2 := Aside0.mk (below_then hB.out hB.out.size hb)
          have hne := Aside0.mk (Kd.R_ne hR2.out hat' (show 52 ≠ ty false by unfold ty; decide))
          have hbg2 := Aside0.mk (show w.heap.size ≤ b' from Nat.le_trans hB.out.size hbg)
          replace hat' := Aside0.mk hat'
          clear hbg hb hc
          go_wp2_with fail
          refine (empty_has b' _).mono ?_
          rintro e w7 ⟨rfl, rfl⟩
          go_wp2_with (first | ((with_reducible refine gate_builtin (b := .append) (xs := #[.tmp 32, .tmp 34]) rfl ?_); at_builtin; go_loud (refine Kd.R_append ksel (w0 := w) w.heap.size rfl (.tmp 32) (.tmp 34) 76 52 .nilIface 16 rfl Tryd.underlying76 (by kernel_rfl) rfl (by decide) (by omega) (.slice A2 xs.length c2) xs ⟨false, f, v⟩ [.iface 83 (.pointer (some ⟨b', 0, none⟩))] (fun _ => True) (fun k => k = b') rfl rfl ?aP ?aX ?aF ?aO ?aB ?aS ?aL ?_); (case aP => exact ⟨b', rfl, rfl, hbg2.out, hat'.out⟩); (case aX => exact (fun k hk => ⟨trivial, hk ▸ hne.out⟩)); (case aB => exact hB2.out); (case aF => exact (fun _ _ => trivial)); (case aO => exact hR2.out); (case aS => exact below_size hB2.out); (case aL => have := hkl.out; omega); intro v2 w2 ho hb hg hatt))
          replace ho := Aside0.mk ho
          replace hb := Aside0.mk hb
          clear hg hatt
          go_wp2_with fail
          go_roundw
          case rel => exact ⟨k + 1, hk2.out, by go_num, hb, ⟨by rw [hke.out]; exact ho.out⟩⟩
          case measure => simp [intOf]; omega
      · replace hcell : wr.cell? (ad.add k) = some (.iface 80 (.pointer (some ⟨b, 0, none⟩))) := hcell
        have a1 := na_not_Transform
        have a2 := me_not_Transform
        cases he : emp ⟨true, f, v⟩ with
        | true =>
          rw [he] at hke
          simp only [if_true, List.append_nil] at hke
          have a3 := na_and_Empty
          have a4 := me_and_Empty
          have hc := Aside0.mk (tr_not_drop b f v wr hat.out he)
          replace hke := Aside0.mk hke
          clear he
          go_wp2_with fail
          refine hc.out.mono ?_
          rintro e w6 ⟨u, rfl, hu, hb⟩
          obtain ⟨A3, c3, rfl, hA3⟩ := nil_form hu
          have hR2 := Aside0.mk (Kd.R_below hR.out hb)
          have hB2 := Aside0.mk (below_then hB.out hB.out.size hb)
          have hem := Aside0.mk (empty_and_nil A3 c3 hA3 w6)
          clear hu hb hA3 hc
          go_wp2_with fail
          refine hem.out.mono ?_
          rintro e w7 ⟨rfl, rfl⟩
          go_wp2_with fail
          go_roundw
          case rel => exact ⟨k + 1, hk2.out, by go_num, hB2, ⟨by rw [hke.out]; exact hR2.out⟩⟩
          case measure => simp [intOf]; omega
        | false =>
          rw [he] at hke
          simp only [Bool.false_eq_true, if_false] at hke
          have a3 := na_not_Empty
          have a4 := me_not_Empty
          have hc := Aside0.mk (tr_not_keep b f v wr hat.out he)
          replace hke := Aside0.mk hke
          clear he
          go_wp2_with fail
          refine hc.out.mono ?_
          rintro e w6 ⟨b', rfl, hbg, hat', hb⟩
          have hR2 := Aside0.mk (Kd.R_below hR.out hb)
          have hB2 := Aside0.mk (below_then hB.out hB.out.size hb)
          have hne := Aside0.mk (Kd.R_ne hR2.out hat' (show 52 ≠ ty true by unfold ty; decide))
          have hbg2 := Aside0.mk (show w.heap.size ≤ b' from Nat.le_trans hB.out.size hbg)
          replace hat' := Aside0.mk hat'
          clear hbg hb hc
          go_wp2_with fail
          refine (empty_not b' _).mono ?_
          rintro e w7 ⟨rfl, rfl⟩
          go_wp2_with (first | ((with_reducible refine gate_builtin (b := .append) (xs := #[.tmp 32, .tmp 34]) rfl ?_); at_builtin; go_loud (refine Kd.R_append ksel (w0 := w) w.heap.size rfl (.tmp 32) (.tmp 34) 76 52 .nilIface 16 rfl Tryd.underlying76 (by kernel_rfl) rfl (by decide) (by omega) (.slice A2 xs.length c2) xs ⟨true, f, v⟩ [.iface 80 (.pointer (some ⟨b', 0, none⟩))] (fun _ => True) (fun k => k = b') rfl rfl ?aP ?aX ?aF ?aO ?aB ?aS ?aL ?_); (case aP => exact ⟨b', rfl, rfl, hbg2.out, hat'.out⟩); (case aX => exact (fun k hk => ⟨trivial, hk ▸ hne.out⟩)); (case aB => exact hB2.out); (case aF => exact (fun _ _ => trivial)); (case aO => exact hR2.out); (case aS => exact below_size hB2.out); (case aL => have := hkl.out; omega); intro v2 w2 ho hb hg hatt))
          replace ho := Aside0.mk ho
          replace hb := Aside0.mk hb
          clear hg hatt
          go_wp2_with fail
          go_roundw
          case rel => exact ⟨k + 1, hk2.out, by go_num, hb, ⟨by rw [hke.out]; exact ho.out⟩⟩
          case measure => simp [intOf]; omega
    · obtain rfl : k = l.length := by omega
      rw [List.take_length] at hR
      go_wp2_with fail
      go_ret2
      exact ⟨_, rfl, hR.out, hB.out⟩
end Go.Proofs.YtccdnmachpepcaaDoor.FsN
