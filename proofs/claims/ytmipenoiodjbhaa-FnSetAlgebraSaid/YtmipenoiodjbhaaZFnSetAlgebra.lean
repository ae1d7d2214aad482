/- FnSetAlgebra: the law's function walked: for all two rows of numbers it tells true. -/
import Derived.Test.YtmipenoiodjbhaaSetPI
import Derived.Deep.QuietTactic
import Derived.BigQuiet
namespace Go.Proofs.Ytmipenoiodjbhaa.ZFnSetAlgebra
open Go.RowKit Go.Proofs.Ytmipenoiodjbhaa.XFnSetAlgebra Go.Proofs.YtmipenoiodjbhaaW.PrintWords Go.Proofs.Ytmipenoiodjbhaa.EvL Go.Proofs.Ytmipenoiodjbhaa.SetGen Go.Proofs.Ytmipenoiodjbhaa.SetI Go.Proofs.Ytmipenoiodjbhaa.PureSetI

set_option maxHeartbeats 600000 in
set_option maxRecDepth 100000 in
theorem wrap_calls {k : Int} {A1 A2 A3 : Option Addr} {n1 n2 n3 c1 c2 c3 : Nat} {w : World} {r0 r1 r2 : List Int} {ok : Bool} (h : Calls Try.prog 34 #[.int .i64 k, .slice A1 n1 c1, .slice A2 n2 c2, .slice A3 n3 c3] w (OpsPost w r0 r1 r2 ok)) :
    Calls Try.prog 9 #[.int .i64 k, .slice A1 n1 c1, .slice A2 n2 c2, .slice A3 n3 c3] w (OpsPost w r0 r1 r2 ok) := by
  have h := Aside0.mk h
  go_enter Try.func9, Try.ntmps9
  go_wp2_with fail
  refine h.out.mono ?_
  rintro e w1 ⟨v0, v1, v2, rfl, hR0, hR1, hR2, hB⟩
  have hR0 := Aside0.mk hR0
  have hR1 := Aside0.mk hR1
  have hR2 := Aside0.mk hR2
  have hB := Aside0.mk hB
  go_wp2_with fail
  refine bodyPost_ret (v := .tuple #[v0, v1, v2, .bool ok]) (by simp [results, Try.results9, go_sem]) rfl ?_
  exact ⟨v0, v1, v2, rfl, hR0.out, hR1.out, hR2.out, hB.out⟩

def Post (w : World) (e : Ending) (w' : World) : Prop := e = .returned (.bool true) ∧ Below w.heap.size w w'
theorem C_nil (w : World) : (Kd.int .i64).C w none 0 ([] : List Int) := ⟨rfl, by simp, fun h => absurd h (Nat.lt_irrefl 0)⟩

theorem count {a b c : List Int} (ha : a.Nodup) (hb : b.Nodup) (hc : c.Nodup) (h : ∀ x, x ∈ a ↔ x ∈ b ∨ x ∈ c) (hd : ∀ x, x ∈ b → x ∈ c → False) : a.length = b.length + c.length := by
  have hp : a.Perm (b ++ c) := (List.perm_ext_iff_of_nodup ha (List.nodup_append.2 ⟨hb, hc, fun x hx y hy e => hd x hx (e ▸ hy)⟩)).2 (fun x => by rw [h x, List.mem_append])
  rw [hp.length_eq, List.length_append]

set_option maxHeartbeats 2000000 in
set_option maxRecDepth 100000 in
theorem law_small (A0 : Option Addr) (c0 : Nat) (l0 : List Int) (A1 : Option Addr) (c1 : Nat) (l1 : List Int) (w : World) (hr0 : (Kd.int .i64).C w A0 l0.length l0) (hc0 : l0.length ≤ c0) (hr1 : (Kd.int .i64).C w A1 l1.length l1) (hc1 : l1.length ≤ c1)
    (hok0 : ∀ x ∈ l0, (Lit.int .i64 x).wf = true) (hok1 : ∀ x ∈ l1, (Lit.int .i64 x).wf = true) (h0 : l0.length ≤ 2147483647) (h1 : l1.length ≤ 2147483647) :
    Calls Try.prog 3 #[.slice A0 l0.length c0, .slice A1 l1.length c1] w (Post w) := by
  have t1 := Aside0.mk (wrap_calls (ops1 A0 c0 l0 A1 c1 l1 none 0 [] w hr0 hc0 hr1 hc1 (C_nil _) (Nat.le_refl _) ⟨h0, h1, by simp⟩ hok0 hok1 (by simp)))
  have t2 := Aside0.mk (fun (w' : World) (hb : Below w.heap.size w w') => wrap_calls (ops2 A0 c0 l0 A1 c1 l1 none 0 [] w' (Kd.C_below hr0 hb) hc0 (Kd.C_below hr1 hb) hc1 (C_nil _) (Nat.le_refl _) ⟨h0, h1, by simp⟩ hok0 hok1 (by simp)))
  have t3 := Aside0.mk (fun (w' : World) (hb : Below w.heap.size w w') => wrap_calls (ops3 A0 c0 l0 A1 c1 l1 none 0 [] w' (Kd.C_below hr0 hb) hc0 (Kd.C_below hr1 hb) hc1 (C_nil _) (Nat.le_refl _) ⟨h0, h1, by simp⟩ hok0 hok1 (by simp)))
  have t4 := Aside0.mk (fun (w' : World) (hb : Below w.heap.size w w') => wrap_calls (ops3 A1 c1 l1 A0 c0 l0 none 0 [] w' (Kd.C_below hr1 hb) hc1 (Kd.C_below hr0 hb) hc0 (C_nil _) (Nat.le_refl _) ⟨h1, h0, by simp⟩ hok1 hok0 (by simp)))
  have t5 := Aside0.mk (fun (w' : World) (hb : Below w.heap.size w w') => wrap_calls (ops4 A0 c0 l0 A1 c1 l1 none 0 [] w' (Kd.C_below hr0 hb) hc0 (Kd.C_below hr1 hb) hc1 (C_nil _) (Nat.le_refl _) ⟨h0, h1, by simp⟩ hok0 hok1 (by simp)))
  have t6 := Aside0.mk (fun (w' : World) (g g' : Nat) (hg : w'.cell? ⟨g, 0, none⟩ = some (.int .i64 1)) (hg' : w'.cell? ⟨g', 0, none⟩ = some (.int .i64 2)) => wrap_calls (ops4 (some ⟨g, 0, none⟩) 1 [1] (some ⟨g', 0, none⟩) 1 [2] none 0 [] w' (C_one hg) (by simp) (C_one hg') (by simp) (C_nil _) (Nat.le_refl _) ⟨by simp, by simp, by simp⟩ (by simp [Lit.wf]; decide) (by simp [Lit.wf]; decide) (by simp)))
  obtain ⟨ra, ea⟩ : ∃ r, r = canon (l0 ++ l1) := ⟨_, rfl⟩
  obtain ⟨rb, eb⟩ : ∃ r, r = canon (l0.filter fun z => decide (z ∈ l1) = true) := ⟨_, rfl⟩
  obtain ⟨rl, el⟩ : ∃ r, r = canon (l0.filter fun z => decide (z ∈ l1) = false) := ⟨_, rfl⟩
  obtain ⟨rm, em⟩ : ∃ r, r = canon (l1.filter fun z => decide (z ∈ l0) = false) := ⟨_, rfl⟩
  obtain ⟨ro, eo⟩ : ∃ r, r = canon ((l0.filter fun z => decide (z ∈ l1) = false) ++ (l1.filter fun z => decide (z ∈ l0) = false)) := ⟨_, rfl⟩
  obtain ⟨rk, ek⟩ : ∃ r, r = canon (([1].filter fun z => decide (z ∈ [2]) = false) ++ ([2].filter fun z => decide (z ∈ [(1 : Int)]) = false)) := ⟨_, rfl⟩
  have ma : ∀ x, x ∈ ra ↔ x ∈ l0 ∨ x ∈ l1 := fun x => by rw [ea, canon_mem, List.mem_append]
  have mb : ∀ x, x ∈ rb ↔ x ∈ l0 ∧ x ∈ l1 := fun x => by rw [eb, canon_mem, List.mem_filter]; simp
  have ml : ∀ x, x ∈ rl ↔ x ∈ l0 ∧ ¬ x ∈ l1 := fun x => by rw [el, canon_mem, List.mem_filter]; simp
  have mm : ∀ x, x ∈ rm ↔ x ∈ l1 ∧ ¬ x ∈ l0 := fun x => by rw [em, canon_mem, List.mem_filter]; simp
  have mo : ∀ x, x ∈ ro ↔ (x ∈ l0 ∧ ¬ x ∈ l1) ∨ (x ∈ l1 ∧ ¬ x ∈ l0) := fun x => by rw [eo, canon_mem, List.mem_append, List.mem_filter, List.mem_filter]; simp
  have na : ra.Nodup := ea ▸ canon_nodup _
  have nb : rb.Nodup := eb ▸ canon_nodup _
  have nl : rl.Nodup := el ▸ canon_nodup _
  have nm : rm.Nodup := em ▸ canon_nodup _
  have no : ro.Nodup := eo ▸ canon_nodup _
  have c1' : ra.length = rb.length + ro.length := count na nb no (fun x => by rw [ma, mb, mo]; by_cases h1 : x ∈ l0 <;> by_cases h2 : x ∈ l1 <;> simp [h1, h2]) (fun x hx hy => by rw [mb] at hx; rw [mo] at hy; rcases hy with h | h; exact h.2 hx.2; exact h.2 hx.1)
  have c2' : ro.length = rl.length + rm.length := count no nl nm (fun x => by rw [mo, ml, mm]) (fun x hx hy => by rw [ml] at hx; rw [mm] at hy; exact hy.2 hx.1)
  have c3 : rk.length = 2 := by rw [ek]; unfold canon; rw [srt_length]; decide
  have la : ra.length ≤ 4294967294 := by rw [ea]; have := canon_length (l0 ++ l1); rw [List.length_append] at this; omega
  obtain ⟨k1, hU1⟩ := (union_ev rl rm (by omega) (by omega)).rounds
  rw [canon_congr (l := rl ++ rm) (m := (l0.filter fun z => decide (z ∈ l1) = false) ++ (l1.filter fun z => decide (z ∈ l0) = false)) (fun x => by rw [List.mem_append, ml, mm, List.mem_append, List.mem_filter, List.mem_filter]; simp), ← eo] at hU1
  obtain ⟨k2, hS1⟩ := (same_ev ro ro (by omega)).rounds
  obtain ⟨k3, hU2⟩ := (union_ev rb ro (by omega) (by omega)).rounds
  rw [canon_congr (l := rb ++ ro) (m := l0 ++ l1) (fun x => by rw [List.mem_append, mb, mo, List.mem_append]; by_cases h1 : x ∈ l0 <;> by_cases h2 : x ∈ l1 <;> simp [h1, h2]), ← ea] at hU2
  obtain ⟨k4, hS2⟩ := (same_ev ra ra (by omega)).rounds
  obtain ⟨k5, hK⟩ := (both_ev rb ro (by omega) (by omega)).rounds
  rw [canon_congr (l := rb.filter fun z => decide (z ∈ ro) = true) (m := []) (fun x => by
    rw [List.mem_filter, mb, decide_eq_true_iff, decide_eq_true_iff, mo]
    by_cases h1 : x ∈ l0 <;> by_cases h2 : x ∈ l1 <;> simp [h1, h2]), show canon ([] : List Int) = [] from List.eq_nil_of_length_eq_zero (Nat.le_zero.1 (canon_length []))] at hK
  simp only [decide_true] at hS1 hS2
  have c1a : ra.length ≤ rb.length + ro.length := by omega
  have c1b : rb.length + ro.length ≤ ra.length := by omega
  have c2a : ro.length ≤ rl.length + rm.length := by omega
  have c2b : rl.length + rm.length ≤ ro.length := by omega
  have c3a : rk.length ≤ 2 := by omega
  have c3b : 2 ≤ rk.length := by omega
  rw [← ea] at t1
  rw [← eb] at t2
  rw [← el] at t3
  rw [← em] at t4
  rw [← eo] at t5
  rw [← ek] at t6
  clear ea eb el em eo ek ma mb ml mm mo na nb nl nm no c1' c2' c3
  have hU1 := Aside0.mk hU1
  have hU2 := Aside0.mk hU2
  have hS1 := Aside0.mk hS1
  have hS2 := Aside0.mk hS2
  have hK := Aside0.mk hK
  have hr0 := Aside0.mk hr0
  have hr1 := Aside0.mk hr1
  clear hok0 hok1
  go_enter Try.func3, Try.ntmps3
  go_wp2_with fail
  refine t1.out.mono ?_
  rintro e w1 ⟨v1, _, _, rfl, hR1, _, _, hB1⟩
  obtain ⟨A, c, rfl, hc, hC⟩ := Kd.R_reads hR1
  have hC1 := Aside0.mk hC
  have hc1 := Aside0.mk hc
  have hB := Aside0.mk hB1
  clear hR1 hC hc
  go_wp2_with fail
  refine (t2.out w1 hB.out).mono ?_
  rintro e w2 ⟨v2, _, _, rfl, hR2, _, _, hB2⟩
  obtain ⟨A, c, rfl, hc, hC⟩ := Kd.R_reads hR2
  have hC1 := Aside0.mk (Kd.C_below hC1.out hB2)
  have hC2 := Aside0.mk hC
  have hc2 := Aside0.mk hc
  have hB := Aside0.mk (below_then hB.out hB.out.size hB2)
  clear hR2 hC hc hB2
  go_wp2_with fail
  refine (t3.out w2 hB.out).mono ?_
  rintro e w3 ⟨v3, _, _, rfl, hR3, _, _, hB3⟩
  obtain ⟨A, c, rfl, hc, hC⟩ := Kd.R_reads hR3
  have hC1 := Aside0.mk (Kd.C_below hC1.out hB3)
  have hC2 := Aside0.mk (Kd.C_below hC2.out hB3)
  have hC3 := Aside0.mk hC
  have hc3 := Aside0.mk hc
  have hB := Aside0.mk (below_then hB.out hB.out.size hB3)
  clear hR3 hC hc hB3
  go_wp2_with fail
  refine (t4.out w3 hB.out).mono ?_
  rintro e w4 ⟨v4, _, _, rfl, hR4, _, _, hB4⟩
  obtain ⟨A, c, rfl, hc, hC⟩ := Kd.R_reads hR4
  have hC1 := Aside0.mk (Kd.C_below hC1.out hB4)
  have hC2 := Aside0.mk (Kd.C_below hC2.out hB4)
  have hC3 := Aside0.mk (Kd.C_below hC3.out hB4)
  have hC4 := Aside0.mk hC
  have hc4 := Aside0.mk hc
  have hB := Aside0.mk (below_then hB.out hB.out.size hB4)
  clear hR4 hC hc hB4
  go_wp2_with fail
  refine (t5.out w4 hB.out).mono ?_
  rintro e w5 ⟨v5, _, _, rfl, hR5, _, _, hB5⟩
  obtain ⟨A, c, rfl, hc, hC⟩ := Kd.R_reads hR5
  have hC1 := Aside0.mk (Kd.C_below hC1.out hB5)
  have hC2 := Aside0.mk (Kd.C_below hC2.out hB5)
  have hC3 := Aside0.mk (Kd.C_below hC3.out hB5)
  have hC4 := Aside0.mk (Kd.C_below hC4.out hB5)
  have hC5 := Aside0.mk hC
  have hc5 := Aside0.mk hc
  have hB := Aside0.mk (below_then hB.out hB.out.size hB5)
  clear hR5 hC hc hB5
  go_wp2_with fail
  refine (t6.out _ w5.heap.size (w5.heap.size + 1) ((Below.cell (B := (w5.alloc (.cells #[.int .i64 1] 3)).heap.size) ((Below.refl _ _).alloc (Nat.le_refl _) _) (by simp)).trans (cell_new w5 (.int .i64 1) 3)) (cell_new2 w5 _ (.int .i64 2) 3)).mono ?_
  rintro e w6 ⟨v6, _, _, rfl, hR6, _, _, hB6⟩
  obtain ⟨A, c, rfl, hc, hC⟩ := Kd.R_reads hR6
  have hB6 : Below w5.heap.size w5 w6 := below_then ((((Below.refl _ _).alloc (Nat.le_refl _) _)).alloc (by first | (simp; omega) | simp) _) (by first | (simp; omega) | simp) hB6
  have hC1 := Aside0.mk (Kd.C_below hC1.out hB6)
  have hC2 := Aside0.mk (Kd.C_below hC2.out hB6)
  have hC3 := Aside0.mk (Kd.C_below hC3.out hB6)
  have hC4 := Aside0.mk (Kd.C_below hC4.out hB6)
  have hC5 := Aside0.mk (Kd.C_below hC5.out hB6)
  have hB := Aside0.mk (below_then hB.out hB.out.size hB6)
  clear hR6 hC hc hB6
  go_wp2_with fail
  refine (spec_KeysUnion_int.calls k1 _ _ rl _ _ rm ro _ hC3.out hc3.out hC4.out hc4.out hU1.out).mono ?_
  rintro e w7 ⟨u, rfl, hR, hBn⟩
  obtain ⟨A, c, rfl, hc, hC⟩ := Kd.R_reads hR
  have hCu := Aside0.mk hC
  have hcu := Aside0.mk hc
  have hC1 := Aside0.mk (Kd.C_below hC1.out hBn)
  have hC2 := Aside0.mk (Kd.C_below hC2.out hBn)
  have hC3 := Aside0.mk (Kd.C_below hC3.out hBn)
  have hC4 := Aside0.mk (Kd.C_below hC4.out hBn)
  have hC5 := Aside0.mk (Kd.C_below hC5.out hBn)
  have hB := Aside0.mk (below_then hB.out hB.out.size hBn)
  clear hR hC hc hBn
  go_wp2_with fail
  refine (spec_KeysSame_int.calls k2 _ _ ro _ _ ro true _ hCu.out hcu.out hC5.out hc5.out hS1.out).mono ?_
  rintro e w8 ⟨rfl, hd⟩
  have hBn := hd.below
  have hC1 := Aside0.mk (Kd.C_below hC1.out hBn)
  have hC2 := Aside0.mk (Kd.C_below hC2.out hBn)
  have hC3 := Aside0.mk (Kd.C_below hC3.out hBn)
  have hC4 := Aside0.mk (Kd.C_below hC4.out hBn)
  have hC5 := Aside0.mk (Kd.C_below hC5.out hBn)
  have hB := Aside0.mk (below_then hB.out hB.out.size hBn)
  clear hCu hcu hBn hd
  go_wp2_with fail
  refine (spec_KeysUnion_int.calls k3 _ _ rb _ _ ro ra _ hC2.out hc2.out hC5.out hc5.out hU2.out).mono ?_
  rintro e w9 ⟨u, rfl, hR, hBn⟩
  obtain ⟨A, c, rfl, hc, hC⟩ := Kd.R_reads hR
  have hCu := Aside0.mk hC
  have hcu := Aside0.mk hc
  have hC1 := Aside0.mk (Kd.C_below hC1.out hBn)
  have hC2 := Aside0.mk (Kd.C_below hC2.out hBn)
  have hC3 := Aside0.mk (Kd.C_below hC3.out hBn)
  have hC4 := Aside0.mk (Kd.C_below hC4.out hBn)
  have hC5 := Aside0.mk (Kd.C_below hC5.out hBn)
  have hB := Aside0.mk (below_then hB.out hB.out.size hBn)
  clear hR hC hc hBn
  go_wp2_with fail
  refine (spec_KeysSame_int.calls k4 _ _ ra _ _ ra true _ hCu.out hcu.out hC1.out hc1.out hS2.out).mono ?_
  rintro e w10 ⟨rfl, hd⟩
  have hBn := hd.below
  have hC1 := Aside0.mk (Kd.C_below hC1.out hBn)
  have hC2 := Aside0.mk (Kd.C_below hC2.out hBn)
  have hC3 := Aside0.mk (Kd.C_below hC3.out hBn)
  have hC4 := Aside0.mk (Kd.C_below hC4.out hBn)
  have hC5 := Aside0.mk (Kd.C_below hC5.out hBn)
  have hB := Aside0.mk (below_then hB.out hB.out.size hBn)
  clear hCu hcu hBn hd
  go_wp2_with fail
  refine (spec_KeysBoth_int.calls k5 _ _ rb _ _ ro [] _ hC2.out hc2.out hC5.out hc5.out hK.out).mono ?_
  rintro e w11 ⟨u, rfl, hR, hBn⟩
  obtain ⟨A, c, rfl, hc, hC⟩ := Kd.R_reads hR
  have hB := Aside0.mk (below_then hB.out hB.out.size hBn)
  clear hR hC hc hBn
  go_wp2_with fail
  go_ret
  exact ⟨rfl, hB.out⟩

set_option maxHeartbeats 600000 in
set_option maxRecDepth 100000 in
theorem law_big (A0 : Option Addr) (c0 : Nat) (l0 : List Int) (A1 : Option Addr) (c1 : Nat) (l1 : List Int) (w : World) (h0 : l0.length ≤ 9223372036854775807) (h1 : l1.length ≤ 9223372036854775807) (h : ¬ l0.length ≤ 2147483647 ∨ ¬ l1.length ≤ 2147483647) :
    Calls Try.prog 3 #[.slice A0 l0.length c0, .slice A1 l1.length c1] w (Post w) := by
  by_cases g0 : l0.length ≤ 2147483647
  · have g1 : 2147483647 < l1.length := by omega
    clear h
    go_enter Try.func3, Try.ntmps3
    go_wp2_with fail
    go_ret
    exact ⟨rfl, Below.refl _ _⟩
  · have g1 : 2147483647 < l0.length := by omega
    clear h g0
    go_enter Try.func3, Try.ntmps3
    go_wp2_with fail
    go_ret
    exact ⟨rfl, Below.refl _ _⟩
def laws_FnSetAlgebra.f (l0 l1 : List Int) : Option Bool := if (∀ x ∈ l0, (Lit.int .i64 x).wf = true) ∧ (∀ x ∈ l1, (Lit.int .i64 x).wf = true) then some true else none
theorem laws_FnSetAlgebra.calls (A0 : Option Addr) (c0 : Nat) (l0 : List Int) (A1 : Option Addr) (c1 : Nat) (l1 : List Int) (r : Bool) (w : World) (hr0 : Kd.C (Kd.int .i64) w A0 l0.length l0) (hc0 : l0.length ≤ c0) (hr1 : Kd.C (Kd.int .i64) w A1 l1.length l1) (hc1 : l1.length ≤ c1) (h : laws_FnSetAlgebra.f l0 l1 = some r) :
    Calls Try.prog 3 #[.slice A0 l0.length c0, .slice A1 l1.length c1] w fun e w' => e = .returned (.bool r) ∧ Below w.heap.size w w' := by
  unfold laws_FnSetAlgebra.f at h
  split at h
  · rename_i hq
    obtain rfl : true = r := by simpa using h
    by_cases hs : l0.length ≤ 2147483647 ∧ l1.length ≤ 2147483647
    · exact (law_small A0 c0 l0 A1 c1 l1 w hr0 hc0 hr1 hc1 hq.1 hq.2 hs.1 hs.2).mono (fun _ _ h => h)
    · exact (law_big A0 c0 l0 A1 c1 l1 w hr0.2.1 hr1.2.1 (by omega)).mono (fun _ _ h => h)
  · cases h
end Go.Proofs.Ytmipenoiodjbhaa.ZFnSetAlgebra
