/- Versions: the ways of parsing, and a version told as data. -/
import Derived.Test.YtmfgkidppchobaaDoorVerD
import Derived.Laws.CopyOwn
import Derived.Laws.Tables
import Derived.Test.YtmfgkidppchobaaDoorWGuard
set_option linter.unusedSimpArgs false
set_option linter.unusedVariables false
namespace Go.Proofs.YtmfgkidppchobaaDoor.Ver6
open Go.RowKit Go.Proofs.YtmfgkidppchobaaDoorW.PrintWords Go.Proofs.YtmfgkidppchobaaDoorW.PrintLast Go.Proofs.YtmfgkidppchobaaDoor.XFnVersionWays Go.Proofs.YtmfgkidppchobaaDoor.Ver1 Go.Proofs.YtmfgkidppchobaaDoor.Ver2 Go.Proofs.YtmfgkidppchobaaDoor.Ver3 Go.Proofs.YtmfgkidppchobaaDoor.Ver4 Go.Proofs.YtmfgkidppchobaaDoor.Ver5

def PostV (r : Option (Bool × PV)) (w : World) (e : Ending) (w' : World) : Prop := match r with
  | none => ∃ p, e = .returned (.tuple #[.pointer none, .iface 107 p]) ∧ Below w.heap.size w w'
  | some (sv, ns, pre, bld) => ∃ g, e = .returned (.tuple #[Ptr g, .nilIface]) ∧ IsVer w' g ns sv pre bld ∧ U64 ns ∧ Below w.heap.size w w'
theorem postV_of {sv : Bool} {r : Option PV} {w w' : World} {e : Ending} (h : Post sv r w e w') : PostV (r.map fun v => (sv, v)) w e w' := by
  cases r with
  | none => exact h
  | some v =>
    obtain ⟨ns, pre, bld⟩ := v
    obtain ⟨g, h1, _, h2, h3, h4⟩ := h
    exact ⟨g, h1, h2, h3, h4⟩
theorem postV_base {r : Option (Bool × PV)} {w0 w w' : World} {e : Ending} (hb : Below w0.heap.size w0 w) (h : PostV r w e w') : PostV r w0 e w' := by
  cases r with
  | none =>
    obtain ⟨p, h1, h2⟩ := h
    exact ⟨p, h1, below_then hb hb.size h2⟩
  | some v =>
    obtain ⟨sv, ns, pre, bld⟩ := v
    obtain ⟨g, h1, h2, h3, h4⟩ := h
    exact ⟨g, h1, h2, h3, below_then hb hb.size h4⟩
set_option maxHeartbeats 4000000 in
set_option maxRecDepth 100000 in
theorem generic_calls (k : Nat) (s : ByteArray) (r : Option PV) (w : World) (h : parseF k false s = some r) (hV : VT.V w) : Calls Tryd.prog 54 #[.string s] w (Post false r w) := by
  have h0 := Aside0.mk h
  replace hV := Aside0.mk hV
  clear h
  go_enter Tryd.func54, Tryd.ntmps54
  go_wp2_with fail
  refine (parse_calls k s false r _ h0.out hV.out).mono ?_
  intro e w1 h
  cases r with
  | none =>
    obtain ⟨p, rfl, hB⟩ := h
    go_wp2_with fail
    refine bodyPost_ret (results_list (rs := [.tmp 2, .tmp 3]) rfl (by simp) (.tmp (.tmp .nil))) rfl ?_
    exact ⟨_, rfl, hB⟩
  | some v =>
    obtain ⟨ns, pre, bld⟩ := v
    obtain ⟨g, rfl, hg, hI, hU, hB⟩ := h
    unfold Ptr
    go_wp2_with fail
    refine bodyPost_ret (results_list (rs := [.tmp 2, .tmp 3]) rfl (by simp) (.tmp (.tmp .nil))) rfl ?_
    exact ⟨g, rfl, hg, hI, hU, hB⟩
set_option maxHeartbeats 4000000 in
set_option maxRecDepth 100000 in
theorem semantic_calls (k : Nat) (s : ByteArray) (r : Option PV) (w : World) (h : parseF k true s = some r) (hV : VT.V w) : Calls Tryd.prog 55 #[.string s] w (Post true r w) := by
  have h0 := Aside0.mk h
  replace hV := Aside0.mk hV
  clear h
  go_enter Tryd.func55, Tryd.ntmps55
  go_wp2_with fail
  refine (parse_calls k s true r _ h0.out hV.out).mono ?_
  intro e w1 h
  cases r with
  | none =>
    obtain ⟨p, rfl, hB⟩ := h
    go_wp2_with fail
    refine bodyPost_ret (results_list (rs := [.tmp 2, .tmp 3]) rfl (by simp) (.tmp (.tmp .nil))) rfl ?_
    exact ⟨_, rfl, hB⟩
  | some v =>
    obtain ⟨ns, pre, bld⟩ := v
    obtain ⟨g, rfl, hg, hI, hU, hB⟩ := h
    unfold Ptr
    go_wp2_with fail
    refine bodyPost_ret (results_list (rs := [.tmp 2, .tmp 3]) rfl (by simp) (.tmp (.tmp .nil))) rfl ?_
    exact ⟨g, rfl, hg, hI, hU, hB⟩
/-- What Parse comes to: a semantic version, else a generic one. -/
def anyF (k : Nat) (s : ByteArray) : Option (Option (Bool × PV)) := (parseF k true s).bind fun r => match r with
  | some v => some (some (true, v))
  | none => (parseF k false s).map fun r => r.map fun v => (false, v)
set_option maxHeartbeats 4000000 in
set_option maxRecDepth 100000 in
theorem any_calls (k : Nat) (s : ByteArray) (r : Option (Bool × PV)) (w : World) (h : anyF k s = some r) (hV : VT.V w) : Calls Tryd.prog 57 #[.string s] w (PostV r w) := by
  unfold anyF at h
  obtain ⟨r1, h1, h⟩ := Option.bind_eq_some_iff.mp h
  replace hV := Aside0.mk hV
  replace h1 := Aside0.mk h1
  replace h := Aside0.mk h
  go_enter Tryd.func57, Tryd.ntmps57
  go_wp2_with fail
  refine (parse_calls k s true r1 _ h1.out hV.out).mono ?_
  intro e w1 hp
  cases r1 with
  | some v =>
    obtain rfl := Option.some.inj h.out
    obtain ⟨ns, pre, bld⟩ := v
    obtain ⟨g, rfl, hg, hI, hU, hB⟩ := hp
    unfold Ptr
    go_wp2_with fail
    refine bodyPost_ret (results_list (rs := [.tmp 2, .tmp 3]) rfl (by simp) (.tmp (.tmp .nil))) rfl ?_
    exact ⟨g, rfl, hI, hU, hB⟩
  | none =>
    obtain ⟨p, rfl, hB⟩ := hp
    obtain ⟨r2, h2, h3⟩ := Option.map_eq_some_iff.mp h.out
    replace h2 := Aside0.mk h2
    subst h3
    replace hB := Aside0.mk hB
    clear h
    go_wp2_with fail
    refine (parse_calls k s false r2 _ h2.out (hV.out.below hB.out)).mono ?_
    intro e w2 hp
    cases r2 with
    | none =>
      obtain ⟨p, rfl, hB2⟩ := hp
      go_wp2_with fail
      refine bodyPost_ret (results_list (rs := [.tmp 2, .tmp 3]) rfl (by simp) (.tmp (.tmp .nil))) rfl ?_
      exact ⟨_, rfl, below_then hB.out hB.out.size hB2⟩
    | some v =>
      obtain ⟨ns, pre, bld⟩ := v
      obtain ⟨g, rfl, hg, hI, hU, hB2⟩ := hp
      unfold Ptr
      go_wp2_with fail
      refine bodyPost_ret (results_list (rs := [.tmp 2, .tmp 3]) rfl (by simp) (.tmp (.tmp .nil))) rfl ?_
      exact ⟨g, rfl, hI, hU, below_then hB.out hB.out.size hB2⟩
/-- What ParseMajorMinor comes to: the first two numbers. -/
def twoF (k : Nat) (s : ByteArray) : Option (Option (Bool × PV)) := (parseF k false s).bind fun r => match r with
  | some v => if 2 ≤ v.1.length then some (some (false, [rd v.1 0, rd v.1 1], E0, E0)) else none
  | none => some none
theorem u64_two {ns : List Int} (h : U64 ns) (hl : 2 ≤ ns.length) : U64 [rd ns 0, rd ns 1] := by
  have h0 : rd ns 0 ∈ ns := List.mem_of_getElem? (rd_at (l := ns) (k := 0) rfl (by omega))
  have h1 : rd ns 1 ∈ ns := List.mem_of_getElem? (rd_at (l := ns) (k := 1) rfl (by omega))
  intro x hx
  rcases List.mem_cons.1 hx with rfl | hx
  · exact h _ h0
  · rw [List.mem_singleton.1 hx]; exact h _ h1
set_option maxHeartbeats 4000000 in
set_option maxRecDepth 100000 in
theorem two_calls (k : Nat) (s : ByteArray) (r : Option (Bool × PV)) (w : World) (h : twoF k s = some r) (hV : VT.V w) : Calls Tryd.prog 56 #[.string s] w (PostV r w) := by
  unfold twoF at h
  obtain ⟨r1, h1, h⟩ := Option.bind_eq_some_iff.mp h
  replace hV := Aside0.mk hV
  replace h1 := Aside0.mk h1
  replace h := Aside0.mk h
  go_enter Tryd.func56, Tryd.ntmps56
  go_wp2_with fail
  refine (generic_calls k s r1 _ h1.out hV.out).mono ?_
  intro e w1 hp
  cases r1 with
  | none =>
    obtain rfl := Option.some.inj h.out
    obtain ⟨p, rfl, hB⟩ := hp
    go_wp2_with fail
    refine bodyPost_ret (results_list (rs := [.tmp 2, .tmp 3]) rfl (by simp) (.tmp (.tmp .nil))) rfl ?_
    exact ⟨_, rfl, hB⟩
  | some v =>
    obtain ⟨ns, pre, bld⟩ := v
    obtain ⟨g, rfl, hg, hI, hU, hB⟩ := hp
    have h2 := h.out
    by_cases hl : 2 ≤ ns.length
    case neg => simp only [] at h2; rw [if_neg hl] at h2; cases h2
    simp only [] at h2
    rw [if_pos hl] at h2
    obtain rfl := Option.some.inj h2
    replace hl := Aside0.mk hl
    replace hI := Aside0.mk hI
    replace hU := Aside0.mk hU
    replace hB := Aside0.mk hB
    clear h2 h
    unfold Ptr
    go_wp2_with fail
    refine (major_calls g ns false pre bld _ hI.out (by have := hl.out; omega)).mono ?_
    rintro e w2 ⟨rfl, rfl⟩
    go_wp2_with fail
    refine (minor_calls g ns false pre bld _ hI.out (by have := hl.out; omega)).mono ?_
    rintro e w3 ⟨rfl, rfl⟩
    go_wp2_with fail
    refine (majorMinor_calls _ _ _).mono ?_
    rintro e w4 ⟨g2, rfl, hI2, hB2⟩
    unfold Ptr
    go_wp2_with fail
    refine bodyPost_ret (results_list (rs := [.tmp 2, .tmp 3]) rfl (by simp) (.tmp (.tmp .nil))) rfl ?_
    exact ⟨g2, rfl, hI2, u64_two hU.out hl.out, below_then hB.out hB.out.size hB2⟩
/-- A version parsed in one of four ways. -/
def parsedF (k : Nat) (kind : Int) (s : ByteArray) : Option (Option (Bool × PV)) :=
  if kind = 1 then (parseF k false s).map fun r => r.map fun v => (false, v)
  else if kind = 2 then (parseF k true s).map fun r => r.map fun v => (true, v)
  else if kind = 3 then twoF k s else anyF k s
set_option maxHeartbeats 4000000 in
set_option maxRecDepth 100000 in
theorem parsed_calls (k : Nat) (kind : Int) (s : ByteArray) (r : Option (Bool × PV)) (w : World) (h : parsedF k kind s = some r) (hV : VT.V w) : Calls Tryd.prog 27 #[.int .i64 kind, .string s] w (PostV r w) := by
  unfold parsedF at h
  replace hV := Aside0.mk hV
  by_cases k1 : kind = 1
  · rw [if_pos k1] at h
    subst k1
    obtain ⟨r1, h1, hr⟩ := Option.map_eq_some_iff.mp h
    clear h
    replace h1 := Aside0.mk h1
    replace hr := Aside0.mk hr
    go_enter Tryd.func27, Tryd.ntmps27
    go_wp2_with fail
    refine (generic_calls k s r1 _ h1.out hV.out).mono ?_
    intro e w1 hp0
    have hp := postV_of hp0
    clear hp0
    rw [hr.out] at hp
    cases r with
    | none =>
      obtain ⟨p, rfl, hB⟩ := hp
      go_wp2_with fail
      refine bodyPost_ret (results_list (rs := [.tmp 4, .tmp 5]) rfl (by simp) (.tmp (.tmp .nil))) rfl ?_
      exact ⟨_, rfl, hB⟩
    | some v =>
      obtain ⟨sv, ns, pre, bld⟩ := v
      obtain ⟨g, rfl, hI, hU, hB⟩ := hp
      unfold Ptr
      go_wp2_with fail
      refine bodyPost_ret (results_list (rs := [.tmp 4, .tmp 5]) rfl (by simp) (.tmp (.tmp .nil))) rfl ?_
      exact ⟨g, rfl, hI, hU, hB⟩
  rw [if_neg k1] at h
  have c1 : (kind == 1) = false := beq_eq_false_iff_ne.mpr k1
  clear k1
  by_cases k2 : kind = 2
  · rw [if_pos k2] at h
    subst k2
    obtain ⟨r1, h1, hr⟩ := Option.map_eq_some_iff.mp h
    clear h
    replace h1 := Aside0.mk h1
    replace hr := Aside0.mk hr
    go_enter Tryd.func27, Tryd.ntmps27
    go_wp2_with fail
    refine (semantic_calls k s r1 _ h1.out hV.out).mono ?_
    intro e w1 hp0
    have hp := postV_of hp0
    clear hp0
    rw [hr.out] at hp
    cases r with
    | none =>
      obtain ⟨p, rfl, hB⟩ := hp
      go_wp2_with fail
      refine bodyPost_ret (results_list (rs := [.tmp 4, .tmp 5]) rfl (by simp) (.tmp (.tmp .nil))) rfl ?_
      exact ⟨_, rfl, hB⟩
    | some v =>
      obtain ⟨sv, ns, pre, bld⟩ := v
      obtain ⟨g, rfl, hI, hU, hB⟩ := hp
      unfold Ptr
      go_wp2_with fail
      refine bodyPost_ret (results_list (rs := [.tmp 4, .tmp 5]) rfl (by simp) (.tmp (.tmp .nil))) rfl ?_
      exact ⟨g, rfl, hI, hU, hB⟩
  rw [if_neg k2] at h
  have c2 : (kind == 2) = false := beq_eq_false_iff_ne.mpr k2
  clear k2
  by_cases k3 : kind = 3
  · rw [if_pos k3] at h
    subst k3
    replace h := Aside0.mk h
    go_enter Tryd.func27, Tryd.ntmps27
    go_wp2_with fail
    refine (two_calls k s r _ h.out hV.out).mono ?_
    intro e w1 hp
    cases r with
    | none =>
      obtain ⟨p, rfl, hB⟩ := hp
      go_wp2_with fail
      refine bodyPost_ret (results_list (rs := [.tmp 4, .tmp 5]) rfl (by simp) (.tmp (.tmp .nil))) rfl ?_
      exact ⟨_, rfl, hB⟩
    | some v =>
      obtain ⟨sv, ns, pre, bld⟩ := v
      obtain ⟨g, rfl, hI, hU, hB⟩ := hp
      unfold Ptr
      go_wp2_with fail
      refine bodyPost_ret (results_list (rs := [.tmp 4, .tmp 5]) rfl (by simp) (.tmp (.tmp .nil))) rfl ?_
      exact ⟨g, rfl, hI, hU, hB⟩
  rw [if_neg k3] at h
  have c3 : (kind == 3) = false := beq_eq_false_iff_ne.mpr k3
  clear k3
  replace h := Aside0.mk h
  go_enter Tryd.func27, Tryd.ntmps27
  go_wp2_with fail
  refine (any_calls k s r _ h.out hV.out).mono ?_
  intro e w1 hp
  cases r with
  | none =>
    obtain ⟨p, rfl, hB⟩ := hp
    go_wp2_with fail
    refine bodyPost_ret (results_list (rs := [.tmp 4, .tmp 5]) rfl (by simp) (.tmp (.tmp .nil))) rfl ?_
    exact ⟨_, rfl, hB⟩
  | some v =>
    obtain ⟨sv, ns, pre, bld⟩ := v
    obtain ⟨g, rfl, hI, hU, hB⟩ := hp
    unfold Ptr
    go_wp2_with fail
    refine bodyPost_ret (results_list (rs := [.tmp 4, .tmp 5]) rfl (by simp) (.tmp (.tmp .nil))) rfl ?_
    exact ⟨g, rfl, hI, hU, hB⟩

theorem infoU : (Tryd.prog.info? 36).map (fun i => (i.zero, i.size, i.bytes)) = some (some (Value.int .u64 0), 1, 8) := by kernel_rfl
/-- A version told as data. -/
structure VD where
  ok : Bool
  l : List Int
  pre : ByteArray
  bld : ByteArray
  txt : ByteArray
  a : Int
  b : Int
  c : Int
def vd0 : VD := ⟨false, [], E0, E0, E0, 0, 0, 0⟩
def vdOf (l : List Int) (pre bld : ByteArray) : VD := ⟨true, l, pre, bld, text l pre bld, rd l 0, rd l 1, third l⟩
def IsVD (w : World) (base : Nat) (v : Value) (d : VD) : Prop := ∃ A c, v = .agg #[.bool d.ok, .slice A d.l.length c, .string d.pre, .string d.bld, .string d.txt, .int .u64 d.a, .int .u64 d.b, .int .u64 d.c] ∧ (Kd.int .u64).R 36 w base (fun k => base < k) (.slice A d.l.length c) d.l
theorem IsVD.below {w w' : World} {base : Nat} {v : Value} {d : VD} (h : IsVD w base v d) (hb : Below w.heap.size w w') : IsVD w' base v d := by
  obtain ⟨A, c, h1, h2⟩ := h
  exact ⟨A, c, h1, Kd.R_kept h2 (S := fun _ => False) ⟨hb.size, fun i hi _ => hb.block i hi⟩ (fun _ _ h => h)⟩
theorem IsVD.reads {w : World} {base : Nat} {v : Value} {d : VD} (h : IsVD w base v d) : ∃ A c, v = .agg #[.bool d.ok, .slice A d.l.length c, .string d.pre, .string d.bld, .string d.txt, .int .u64 d.a, .int .u64 d.b, .int .u64 d.c] ∧ Kd.C (Kd.int .u64) w A d.l.length d.l ∧ d.l.length ≤ c := by
  obtain ⟨A, c, h1, h2⟩ := h
  obtain ⟨U2, cu2, e2, hcu, hCu⟩ := Kd.R_reads h2
  injection e2 with e2 _ e3
  subst e2
  subst e3
  exact ⟨A, c, h1, hCu, hcu⟩
set_option maxHeartbeats 4000000 in
set_option maxRecDepth 100000 in
theorem ver_err (T : TypeId) (p : Value) (w : World) : Calls Tryd.prog 37 #[.pointer none, .iface T p] w fun e w' => ∃ v, e = .returned v ∧ IsVD w' w.heap.size v vd0 ∧ Below w.heap.size w w' := by
  go_enter Tryd.func37, Tryd.ntmps37
  go_wp2_with fail
  refine bodyPost_ret (results_cell_row rfl _ _ w.heap.size 46 _ (0, 0) _ rfl (heap_alloc_new w _) Tryd.underlying46 rfl (by kernel_rfl)) rfl ?_
  exact ⟨_, rfl, ⟨none, 0, rfl, Kd.R_nil _ _ _ _ _⟩, below_alloc (Below.refl _ _) _⟩
set_option maxHeartbeats 4000000 in
set_option maxRecDepth 100000 in
theorem ver_ok (g : Nat) (l : List Int) (sv : Bool) (pre bld : ByteArray) (w : World) (hI : IsVer w g l sv pre bld) (hu : U64 l) (h2 : 2 ≤ l.length) (hl : l.length ≤ 4294967296) (hp : pre.size ≤ 4294967296) (hb : bld.size ≤ 4294967296) (hV : VT.V w) : Calls Tryd.prog 37 #[Ptr g, .nilIface] w fun e w' => ∃ v, e = .returned v ∧ IsVD w' w.heap.size v (vdOf l pre bld) ∧ Below w.heap.size w w' := by
  replace hI := Aside0.mk hI
  replace hu := Aside0.mk hu
  replace h2 := Aside0.mk h2
  replace hl := Aside0.mk hl
  replace hp := Aside0.mk hp
  replace hb := Aside0.mk hb
  replace hV := Aside0.mk hV
  unfold Ptr
  go_enter Tryd.func37, Tryd.ntmps37
  go_wp2_with ((with_reducible refine gate_dst (N := 12) rfl ?_); (try (refine gate_guard (by rfl) ?_; dsimp only)); refine Kd.R_lit (Kd.int .u64) (w0 := w) w.heap.size 36 rfl (N := 12) rfl (xs := ([] : List Int)) (inner := []) (ok := fun k => w.heap.size < k) (okp := fun k => w.heap.size < k) (by first | (go_simp; done) | (go_simp; rfl)) (Reps.none _ _) (fun _ hk => hk) (by show w.heap.size < (w.alloc _).heap.size; rw [World.size_alloc]; omega) (below_alloc (Below.refl _ _) _) (by rw [World.size_alloc]; omega) (by simp) ?_; intro u1 w3 ho hb_ hg_ hn_; have hR1 := Aside0.mk ho; have hB1 := Aside0.mk hb_; have hG1 := Aside0.mk hg_; have hN1 := Aside0.mk hn_; clear ho hb_ hg_ hn_)
  have hZ3 := Aside0.mk (show w3.heap[w.heap.size]? = some (.cells #[.bool false, .slice none 0 0, .string ⟨#[]⟩, .string ⟨#[]⟩, .string ⟨#[]⟩, .int .u64 0, .int .u64 0, .int .u64 0] 46 (0, 0)) from blk_grown (heap_alloc_new w _) hG1.out (by simp))
  have hI3 := Aside0.mk (hI.out.below hB1.out)
  have hS3 := Aside0.mk (show w.heap.size < w3.heap.size from blk_lt hZ3.out)
  refine (components_calls g l sv pre bld _ hI3.out).mono ?_
  rintro e w4 ⟨A, c, rfl, rfl, hC, hc⟩
  have hC := Aside0.mk hC
  replace hc := Aside0.mk hc
  go_wp2_with ((with_reducible refine gate_dst (N := 15) rfl ?_); (try (refine gate_guard (by rfl) ?_; dsimp only)); refine Kd.R_append_rows (Kd.int .u64) (w0 := w) w.heap.size rfl (.tmp 12) (.tmp 14) 23 36 (.int .u64 0) 8 rfl Tryd.underlying23 infoU rfl (by decide) (by omega) u1 ([] : List Int) l _ _ _ (fun k => w.heap.size < k) (fun _ => False) rfl rfl hR1.out hC.out (fun _ _ h => h) (fun _ h => h.elim) (fun k hk => by have := hS3.out; omega) hB1.out hB1.out.size (by have := hl.out; simp only [List.length_nil]; omega) ?_; intro u2 w5 ho hb_ hg_ hn_; have hR2 := Aside0.mk ho; have hB5 := Aside0.mk hb_; have hG5 := Aside0.mk hg_; clear ho hb_ hg_ hn_)
  have hZ5 := Aside0.mk (blk_grown hZ3.out hG5.out (by
    obtain ⟨b, hb1, hb2⟩ := hN1.out
    rw [hb1]
    rw [World.size_alloc] at hb2
    intro e
    injection e with e
    omega))
  have hI5 := Aside0.mk (hI.out.below hB5.out)
  replace hR2 := Aside0.mk (show (Kd.int .u64).R 36 w5 w.heap.size (fun k => w.heap.size < k) u2 l from by have h := hR2.out; rwa [List.nil_append] at h)
  obtain ⟨U, cu, e2⟩ := Kd.R_slice hR2.out
  subst e2
  clear hC hG1 hG5 hN1 hI3 hZ3 hR1
  go_wp2_with fail
  refine (preRelease_calls g l sv pre bld _ hI5.out).mono ?_
  rintro e w9 ⟨rfl, rfl⟩
  go_wp2_with fail
  refine (build_calls g l sv pre bld _ hI5.out).mono ?_
  rintro e w9 ⟨rfl, rfl⟩
  go_wp2_with fail
  refine (string_calls g l sv pre bld _ hI5.out hu.out hl.out hp.out hb.out (hV.out.below hB5.out)).mono ?_
  rintro e w6 ⟨rfl, hB6⟩
  have hI6 := Aside0.mk (hI5.out.below hB6)
  have hZ6 := Aside0.mk ((hB6.block _ (blk_lt hZ5.out)).trans hZ5.out)
  replace hR2 := Aside0.mk (Kd.R_kept hR2.out (S := fun _ => False) ⟨hB6.size, fun i hi _ => hB6.block i hi⟩ (fun _ _ h => h))
  have hB7 := Aside0.mk (below_then hB5.out hB5.out.size hB6)
  clear hB6 hZ5 hI5
  go_wp2_with fail
  refine (major_calls g l sv pre bld _ hI6.out (by have := h2.out; omega)).mono ?_
  rintro e w9 ⟨rfl, rfl⟩
  go_wp2_with fail
  refine (minor_calls g l sv pre bld _ hI6.out (by have := h2.out; omega)).mono ?_
  rintro e w9 ⟨rfl, rfl⟩
  go_wp2_with fail
  refine (patch_calls g l sv pre bld _ hI6.out).mono ?_
  rintro e w9 ⟨rfl, rfl⟩
  have zc0 : w9.cell? ⟨w.heap.size, 0, none⟩ = some (.bool false) := (blk_cell hZ6.out 0).trans rfl
  have zf0 : w9.frozen? ⟨w.heap.size, 0, none⟩ = false := blk_frozen hZ6.out 0
  have zc1 : w9.cell? ⟨w.heap.size, 1, none⟩ = some (.slice none 0 0) := (blk_cell hZ6.out 1).trans rfl
  have zf1 : w9.frozen? ⟨w.heap.size, 1, none⟩ = false := blk_frozen hZ6.out 1
  have zc2 : w9.cell? ⟨w.heap.size, 2, none⟩ = some (.string ⟨#[]⟩) := (blk_cell hZ6.out 2).trans rfl
  have zf2 : w9.frozen? ⟨w.heap.size, 2, none⟩ = false := blk_frozen hZ6.out 2
  have zc3 : w9.cell? ⟨w.heap.size, 3, none⟩ = some (.string ⟨#[]⟩) := (blk_cell hZ6.out 3).trans rfl
  have zf3 : w9.frozen? ⟨w.heap.size, 3, none⟩ = false := blk_frozen hZ6.out 3
  have zc4 : w9.cell? ⟨w.heap.size, 4, none⟩ = some (.string ⟨#[]⟩) := (blk_cell hZ6.out 4).trans rfl
  have zf4 : w9.frozen? ⟨w.heap.size, 4, none⟩ = false := blk_frozen hZ6.out 4
  have zc5 : w9.cell? ⟨w.heap.size, 5, none⟩ = some (.int .u64 0) := (blk_cell hZ6.out 5).trans rfl
  have zf5 : w9.frozen? ⟨w.heap.size, 5, none⟩ = false := blk_frozen hZ6.out 5
  have zc6 : w9.cell? ⟨w.heap.size, 6, none⟩ = some (.int .u64 0) := (blk_cell hZ6.out 6).trans rfl
  have zf6 : w9.frozen? ⟨w.heap.size, 6, none⟩ = false := blk_frozen hZ6.out 6
  have zc7 : w9.cell? ⟨w.heap.size, 7, none⟩ = some (.int .u64 0) := (blk_cell hZ6.out 7).trans rfl
  have zf7 : w9.frozen? ⟨w.heap.size, 7, none⟩ = false := blk_frozen hZ6.out 7
  go_wp2_with fail
  refine bodyPost_ret (results_cell_row rfl _ _ w.heap.size 46 _ (0, 0) _ rfl (blk_set (blk_set (blk_set (blk_set (blk_set (blk_set (blk_set (blk_set hZ6.out 0 (.bool true)) 1 (.slice U l.length cu)) 2 (.string pre)) 3 (.string bld)) 4 (.string (text l pre bld))) 5 (.int .u64 (rd l 0))) 6 (.int .u64 (rd l 1))) 7 (.int .u64 (third l))) Tryd.underlying46 rfl (by kernel_rfl)) rfl ?_
  exact ⟨_, rfl, ⟨U, cu, rfl, (Kd.R_far (Kd.R_far (Kd.R_far (Kd.R_far (Kd.R_far (Kd.R_far (Kd.R_far (Kd.R_far hR2.out (p := ⟨w.heap.size, 0, none⟩) (fun k h => by have h : w.heap.size < k := h; show k ≠ w.heap.size; omega) (.bool true)) (p := ⟨w.heap.size, 1, none⟩) (fun k h => by have h : w.heap.size < k := h; show k ≠ w.heap.size; omega) (.slice U l.length cu)) (p := ⟨w.heap.size, 2, none⟩) (fun k h => by have h : w.heap.size < k := h; show k ≠ w.heap.size; omega) (.string pre)) (p := ⟨w.heap.size, 3, none⟩) (fun k h => by have h : w.heap.size < k := h; show k ≠ w.heap.size; omega) (.string bld)) (p := ⟨w.heap.size, 4, none⟩) (fun k h => by have h : w.heap.size < k := h; show k ≠ w.heap.size; omega) (.string (text l pre bld))) (p := ⟨w.heap.size, 5, none⟩) (fun k h => by have h : w.heap.size < k := h; show k ≠ w.heap.size; omega) (.int .u64 (rd l 0))) (p := ⟨w.heap.size, 6, none⟩) (fun k h => by have h : w.heap.size < k := h; show k ≠ w.heap.size; omega) (.int .u64 (rd l 1))) (p := ⟨w.heap.size, 7, none⟩) (fun k h => by have h : w.heap.size < k := h; show k ≠ w.heap.size; omega) (.int .u64 (third l)))⟩, (below_set (below_set (below_set (below_set (below_set (below_set (below_set (below_set hB7.out (Nat.le_refl _)) (Nat.le_refl _)) (Nat.le_refl _)) (Nat.le_refl _)) (Nat.le_refl _)) (Nat.le_refl _)) (Nat.le_refl _)) (Nat.le_refl _))⟩
/-- What VersionParse tells. -/
def tell (r : Option (Bool × PV)) : VD := match r with
  | none => vd0
  | some (_, l, pre, bld) => vdOf l pre bld
def okP (r : Option (Bool × PV)) : Prop := okV (r.map (·.2))
instance (r : Option (Bool × PV)) : Decidable (okP r) := by unfold okP; infer_instance
theorem R_base {α : Type} {d : Kd α} {e b b' : Nat} {w : World} {v : Value} {xs : List α} (hb : b < b') (h : d.R e w b' (fun k => b' < k) v xs) : d.R e w b (fun k => b < k) v xs := Kd.R_mono (Kd.R_lower h (Nat.le_of_lt hb)) (fun k hk => Nat.lt_trans hb hk)
set_option maxHeartbeats 4000000 in
set_option maxRecDepth 100000 in
theorem versionParse (k : Nat) (kind : Int) (s : ByteArray) (r : Option (Bool × PV)) (w : World) (h : parsedF k kind s = some r) (ho : okP r) (hV : VT.V w) : Calls Tryd.prog 17 #[.int .i64 kind, .string s] w fun e w' => ∃ v, e = .returned v ∧ IsVD w' w.heap.size v (tell r) ∧ Below w.heap.size w w' := by
  replace h := Aside0.mk h
  replace hV := Aside0.mk hV
  replace ho := Aside0.mk ho
  obtain ⟨d, hd⟩ : ∃ d, d = tell r := ⟨_, rfl⟩
  rw [← hd]
  replace hd := Aside0.mk hd
  go_enter Tryd.func17, Tryd.ntmps17
  go_wp2_with fail
  have hB1 := Aside0.mk (show Below w.heap.size w (w.alloc (.cells #[.bool false, .slice none 0 0, .string ⟨#[]⟩, .string ⟨#[]⟩, .string ⟨#[]⟩, .int .u64 0, .int .u64 0, .int .u64 0] 46)) from below_alloc (Below.refl _ _) _)
  have hZ1 := Aside0.mk (show (w.alloc (.cells #[.bool false, .slice none 0 0, .string ⟨#[]⟩, .string ⟨#[]⟩, .string ⟨#[]⟩, .int .u64 0, .int .u64 0, .int .u64 0] 46)).heap[w.heap.size]? = some (.cells #[.bool false, .slice none 0 0, .string ⟨#[]⟩, .string ⟨#[]⟩, .string ⟨#[]⟩, .int .u64 0, .int .u64 0, .int .u64 0] 46 (0, 0)) from heap_alloc_new w _)
  refine (parsed_calls k kind s r _ h.out (hV.out.below hB1.out)).mono ?_
  intro e w2 hp
  have hq : ∃ x y, e = .returned (.tuple #[x, y]) ∧ Below (w.alloc (.cells #[.bool false, .slice none 0 0, .string ⟨#[]⟩, .string ⟨#[]⟩, .string ⟨#[]⟩, .int .u64 0, .int .u64 0, .int .u64 0] 46)).heap.size (w.alloc (.cells #[.bool false, .slice none 0 0, .string ⟨#[]⟩, .string ⟨#[]⟩, .string ⟨#[]⟩, .int .u64 0, .int .u64 0, .int .u64 0] 46)) w2 ∧ ∀ W, W = w2 → Calls Tryd.prog 37 #[x, y] W fun e w' => ∃ v, e = .returned v ∧ IsVD w' W.heap.size v d ∧ Below W.heap.size W w' := by
    rw [hd.out]
    cases r with
    | none =>
      obtain ⟨p, rfl, hB⟩ := hp
      exact ⟨_, _, rfl, hB, fun W _ => ver_err _ _ _⟩
    | some v =>
      obtain ⟨sv, ns, pre, bld⟩ := v
      obtain ⟨g, rfl, hI, hU, hB⟩ := hp
      have h1 := ho.out
      exact ⟨_, _, rfl, hB, fun W e => by subst e; exact ver_ok g ns sv pre bld W hI hU h1.1 h1.2.1 h1.2.2.1 h1.2.2.2 (hV.out.below (below_then hB1.out hB1.out.size hB))⟩
  obtain ⟨x, y, rfl, hB, hver⟩ := hq
  have hver := Aside0.mk (hver w2 rfl)
  have hZ2 := Aside0.mk ((hB.block _ (blk_lt hZ1.out)).trans hZ1.out)
  have hlt := Aside0.mk (blk_lt hZ2.out)
  have hB2 := Aside0.mk (below_then hB1.out hB1.out.size hB)
  clear hp hB hZ1 hB1
  go_wp2_with fail
  refine hver.out.mono ?_
  rintro e w3 ⟨v, rfl, hD, hB⟩
  obtain ⟨A, c, rfl, hR⟩ := hD
  replace hR := Aside0.mk hR
  have hZ3 := Aside0.mk ((hB.block _ (blk_lt hZ2.out)).trans hZ2.out)
  have hB3 := Aside0.mk (below_then hB2.out hB2.out.size hB)
  clear hB hver hZ2
  have zc0 : w3.cell? ⟨w.heap.size, 0, none⟩ = some (.bool false) := (blk_cell hZ3.out 0).trans rfl
  have zf0 : w3.frozen? ⟨w.heap.size, 0, none⟩ = false := blk_frozen hZ3.out 0
  have zc1 : w3.cell? ⟨w.heap.size, 1, none⟩ = some (.slice none 0 0) := (blk_cell hZ3.out 1).trans rfl
  have zf1 : w3.frozen? ⟨w.heap.size, 1, none⟩ = false := blk_frozen hZ3.out 1
  have zc2 : w3.cell? ⟨w.heap.size, 2, none⟩ = some (.string ⟨#[]⟩) := (blk_cell hZ3.out 2).trans rfl
  have zf2 : w3.frozen? ⟨w.heap.size, 2, none⟩ = false := blk_frozen hZ3.out 2
  have zc3 : w3.cell? ⟨w.heap.size, 3, none⟩ = some (.string ⟨#[]⟩) := (blk_cell hZ3.out 3).trans rfl
  have zf3 : w3.frozen? ⟨w.heap.size, 3, none⟩ = false := blk_frozen hZ3.out 3
  have zc4 : w3.cell? ⟨w.heap.size, 4, none⟩ = some (.string ⟨#[]⟩) := (blk_cell hZ3.out 4).trans rfl
  have zf4 : w3.frozen? ⟨w.heap.size, 4, none⟩ = false := blk_frozen hZ3.out 4
  have zc5 : w3.cell? ⟨w.heap.size, 5, none⟩ = some (.int .u64 0) := (blk_cell hZ3.out 5).trans rfl
  have zf5 : w3.frozen? ⟨w.heap.size, 5, none⟩ = false := blk_frozen hZ3.out 5
  have zc6 : w3.cell? ⟨w.heap.size, 6, none⟩ = some (.int .u64 0) := (blk_cell hZ3.out 6).trans rfl
  have zf6 : w3.frozen? ⟨w.heap.size, 6, none⟩ = false := blk_frozen hZ3.out 6
  have zc7 : w3.cell? ⟨w.heap.size, 7, none⟩ = some (.int .u64 0) := (blk_cell hZ3.out 7).trans rfl
  have zf7 : w3.frozen? ⟨w.heap.size, 7, none⟩ = false := blk_frozen hZ3.out 7
  go_wp2_with fail
  refine bodyPost_ret (results_cell_row rfl _ _ w.heap.size 46 _ (0, 0) _ rfl (blk_set (blk_set (blk_set (blk_set (blk_set (blk_set (blk_set (blk_set hZ3.out 0 (.bool d.ok)) 1 (.slice A d.l.length c)) 2 (.string d.pre)) 3 (.string d.bld)) 4 (.string d.txt)) 5 (.int .u64 d.a)) 6 (.int .u64 d.b)) 7 (.int .u64 d.c)) Tryd.underlying46 rfl (by kernel_rfl)) rfl ?_
  exact ⟨_, rfl, ⟨A, c, rfl, R_base hlt.out (Kd.R_far (Kd.R_far (Kd.R_far (Kd.R_far (Kd.R_far (Kd.R_far (Kd.R_far (Kd.R_far hR.out (p := ⟨w.heap.size, 0, none⟩) (fun k h => by have h : w2.heap.size < k := h; have h2 : w.heap.size < w2.heap.size := hlt.out; show k ≠ w.heap.size; omega) (.bool d.ok)) (p := ⟨w.heap.size, 1, none⟩) (fun k h => by have h : w2.heap.size < k := h; have h2 : w.heap.size < w2.heap.size := hlt.out; show k ≠ w.heap.size; omega) (.slice A d.l.length c)) (p := ⟨w.heap.size, 2, none⟩) (fun k h => by have h : w2.heap.size < k := h; have h2 : w.heap.size < w2.heap.size := hlt.out; show k ≠ w.heap.size; omega) (.string d.pre)) (p := ⟨w.heap.size, 3, none⟩) (fun k h => by have h : w2.heap.size < k := h; have h2 : w.heap.size < w2.heap.size := hlt.out; show k ≠ w.heap.size; omega) (.string d.bld)) (p := ⟨w.heap.size, 4, none⟩) (fun k h => by have h : w2.heap.size < k := h; have h2 : w.heap.size < w2.heap.size := hlt.out; show k ≠ w.heap.size; omega) (.string d.txt)) (p := ⟨w.heap.size, 5, none⟩) (fun k h => by have h : w2.heap.size < k := h; have h2 : w.heap.size < w2.heap.size := hlt.out; show k ≠ w.heap.size; omega) (.int .u64 d.a)) (p := ⟨w.heap.size, 6, none⟩) (fun k h => by have h : w2.heap.size < k := h; have h2 : w.heap.size < w2.heap.size := hlt.out; show k ≠ w.heap.size; omega) (.int .u64 d.b)) (p := ⟨w.heap.size, 7, none⟩) (fun k h => by have h : w2.heap.size < k := h; have h2 : w.heap.size < w2.heap.size := hlt.out; show k ≠ w.heap.size; omega) (.int .u64 d.c))⟩, (below_set (below_set (below_set (below_set (below_set (below_set (below_set (below_set hB3.out (Nat.le_refl _)) (Nat.le_refl _)) (Nat.le_refl _)) (Nat.le_refl _)) (Nat.le_refl _)) (Nat.le_refl _)) (Nat.le_refl _)) (Nat.le_refl _))⟩
set_option maxHeartbeats 4000000 in
set_option maxRecDepth 100000 in
theorem versionMake (a b : Int) (hu : U64 [a, b]) (w : World) (hV : VT.V w) : Calls Tryd.prog 20 #[.int .u64 a, .int .u64 b] w fun e w' => ∃ v, e = .returned v ∧ IsVD w' w.heap.size v (vdOf [a, b] E0 E0) ∧ Below w.heap.size w w' := by
  replace hV := Aside0.mk hV
  replace hu := Aside0.mk hu
  obtain ⟨d, hd⟩ : ∃ d, d = vdOf [a, b] E0 E0 := ⟨_, rfl⟩
  rw [← hd]
  replace hd := Aside0.mk hd
  go_enter Tryd.func20, Tryd.ntmps20
  go_wp2_with fail
  have hB1 := Aside0.mk (show Below w.heap.size w (w.alloc (.cells #[.bool false, .slice none 0 0, .string ⟨#[]⟩, .string ⟨#[]⟩, .string ⟨#[]⟩, .int .u64 0, .int .u64 0, .int .u64 0] 46)) from below_alloc (Below.refl _ _) _)
  have hZ1 := Aside0.mk (show (w.alloc (.cells #[.bool false, .slice none 0 0, .string ⟨#[]⟩, .string ⟨#[]⟩, .string ⟨#[]⟩, .int .u64 0, .int .u64 0, .int .u64 0] 46)).heap[w.heap.size]? = some (.cells #[.bool false, .slice none 0 0, .string ⟨#[]⟩, .string ⟨#[]⟩, .string ⟨#[]⟩, .int .u64 0, .int .u64 0, .int .u64 0] 46 (0, 0)) from heap_alloc_new w _)
  refine (majorMinor_calls a b _).mono ?_
  rintro e w2 ⟨g, rfl, hI, hB⟩
  have hver := Aside0.mk (ver_ok g [a, b] false E0 E0 w2 hI hu.out (by simp) (by simp) (by decide) (by decide) (hV.out.below (below_then hB1.out hB1.out.size hB)))
  have hZ2 := Aside0.mk ((hB.block _ (blk_lt hZ1.out)).trans hZ1.out)
  have hlt := Aside0.mk (blk_lt hZ2.out)
  have hB2 := Aside0.mk (below_then hB1.out hB1.out.size hB)
  clear hB hZ1 hB1 hI
  unfold Ptr
  go_wp2_with fail
  refine hver.out.mono ?_
  rintro e w3 ⟨v, rfl, hD, hB⟩
  rw [← hd.out] at hD
  obtain ⟨A, c, rfl, hR⟩ := hD
  replace hR := Aside0.mk hR
  have hZ3 := Aside0.mk ((hB.block _ (blk_lt hZ2.out)).trans hZ2.out)
  have hB3 := Aside0.mk (below_then hB2.out hB2.out.size hB)
  clear hB hver hZ2
  have zc0 : w3.cell? ⟨w.heap.size, 0, none⟩ = some (.bool false) := (blk_cell hZ3.out 0).trans rfl
  have zf0 : w3.frozen? ⟨w.heap.size, 0, none⟩ = false := blk_frozen hZ3.out 0
  have zc1 : w3.cell? ⟨w.heap.size, 1, none⟩ = some (.slice none 0 0) := (blk_cell hZ3.out 1).trans rfl
  have zf1 : w3.frozen? ⟨w.heap.size, 1, none⟩ = false := blk_frozen hZ3.out 1
  have zc2 : w3.cell? ⟨w.heap.size, 2, none⟩ = some (.string ⟨#[]⟩) := (blk_cell hZ3.out 2).trans rfl
  have zf2 : w3.frozen? ⟨w.heap.size, 2, none⟩ = false := blk_frozen hZ3.out 2
  have zc3 : w3.cell? ⟨w.heap.size, 3, none⟩ = some (.string ⟨#[]⟩) := (blk_cell hZ3.out 3).trans rfl
  have zf3 : w3.frozen? ⟨w.heap.size, 3, none⟩ = false := blk_frozen hZ3.out 3
  have zc4 : w3.cell? ⟨w.heap.size, 4, none⟩ = some (.string ⟨#[]⟩) := (blk_cell hZ3.out 4).trans rfl
  have zf4 : w3.frozen? ⟨w.heap.size, 4, none⟩ = false := blk_frozen hZ3.out 4
  have zc5 : w3.cell? ⟨w.heap.size, 5, none⟩ = some (.int .u64 0) := (blk_cell hZ3.out 5).trans rfl
  have zf5 : w3.frozen? ⟨w.heap.size, 5, none⟩ = false := blk_frozen hZ3.out 5
  have zc6 : w3.cell? ⟨w.heap.size, 6, none⟩ = some (.int .u64 0) := (blk_cell hZ3.out 6).trans rfl
  have zf6 : w3.frozen? ⟨w.heap.size, 6, none⟩ = false := blk_frozen hZ3.out 6
  have zc7 : w3.cell? ⟨w.heap.size, 7, none⟩ = some (.int .u64 0) := (blk_cell hZ3.out 7).trans rfl
  have zf7 : w3.frozen? ⟨w.heap.size, 7, none⟩ = false := blk_frozen hZ3.out 7
  go_wp2_with fail
  refine bodyPost_ret (results_cell_row rfl _ _ w.heap.size 46 _ (0, 0) _ rfl (blk_set (blk_set (blk_set (blk_set (blk_set (blk_set (blk_set (blk_set hZ3.out 0 (.bool d.ok)) 1 (.slice A d.l.length c)) 2 (.string d.pre)) 3 (.string d.bld)) 4 (.string d.txt)) 5 (.int .u64 d.a)) 6 (.int .u64 d.b)) 7 (.int .u64 d.c)) Tryd.underlying46 rfl (by kernel_rfl)) rfl ?_
  exact ⟨_, rfl, ⟨A, c, rfl, R_base hlt.out (Kd.R_far (Kd.R_far (Kd.R_far (Kd.R_far (Kd.R_far (Kd.R_far (Kd.R_far (Kd.R_far hR.out (p := ⟨w.heap.size, 0, none⟩) (fun k h => by have h : w2.heap.size < k := h; have h2 : w.heap.size < w2.heap.size := hlt.out; show k ≠ w.heap.size; omega) (.bool d.ok)) (p := ⟨w.heap.size, 1, none⟩) (fun k h => by have h : w2.heap.size < k := h; have h2 : w.heap.size < w2.heap.size := hlt.out; show k ≠ w.heap.size; omega) (.slice A d.l.length c)) (p := ⟨w.heap.size, 2, none⟩) (fun k h => by have h : w2.heap.size < k := h; have h2 : w.heap.size < w2.heap.size := hlt.out; show k ≠ w.heap.size; omega) (.string d.pre)) (p := ⟨w.heap.size, 3, none⟩) (fun k h => by have h : w2.heap.size < k := h; have h2 : w.heap.size < w2.heap.size := hlt.out; show k ≠ w.heap.size; omega) (.string d.bld)) (p := ⟨w.heap.size, 4, none⟩) (fun k h => by have h : w2.heap.size < k := h; have h2 : w.heap.size < w2.heap.size := hlt.out; show k ≠ w.heap.size; omega) (.string d.txt)) (p := ⟨w.heap.size, 5, none⟩) (fun k h => by have h : w2.heap.size < k := h; have h2 : w.heap.size < w2.heap.size := hlt.out; show k ≠ w.heap.size; omega) (.int .u64 d.a)) (p := ⟨w.heap.size, 6, none⟩) (fun k h => by have h : w2.heap.size < k := h; have h2 : w.heap.size < w2.heap.size := hlt.out; show k ≠ w.heap.size; omega) (.int .u64 d.b)) (p := ⟨w.heap.size, 7, none⟩) (fun k h => by have h : w2.heap.size < k := h; have h2 : w.heap.size < w2.heap.size := hlt.out; show k ≠ w.heap.size; omega) (.int .u64 d.c))⟩, (below_set (below_set (below_set (below_set (below_set (below_set (below_set (below_set hB3.out (Nat.le_refl _)) (Nat.le_refl _)) (Nat.le_refl _)) (Nat.le_refl _)) (Nat.le_refl _)) (Nat.le_refl _)) (Nat.le_refl _)) (Nat.le_refl _))⟩
end Go.Proofs.YtmfgkidppchobaaDoor.Ver6
