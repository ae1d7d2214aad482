/- FnStringSets: what an operation on two sets of texts tells is what the specification's function tells; the law's function walked: true for all arguments. -/
import Derived.Test.YtmipenoiodjbhaaSetPS
namespace Go.Proofs.Ytmipenoiodjbhaa.StrLaw
open Go.RowKit Go.Proofs.Ytmipenoiodjbhaa.XFnStringSets Go.Proofs.YtmipenoiodjbhaaW.PrintWords Go.Proofs.Ytmipenoiodjbhaa.EvL Go.Proofs.Ytmipenoiodjbhaa.SetGen Go.Proofs.Ytmipenoiodjbhaa.SetS Go.Proofs.Ytmipenoiodjbhaa.PureSetS

/-! ### what is in the first alone -/
theorem less_l0 (a b : List ByteArray) (ha : a.length ≤ 8589934592) (hb : b.length ≤ 8589934592) (n : Nat) : ∀ (i : Nat) (out : List ByteArray), i ≤ a.length → a.length - i = n → out.length ≤ i →
    Ev (fun k => spec_KeysLess_string.l0 k a b out i) (canon (out ++ (a.drop i).filter fun z => decide (z ∈ b) = false)) := by
  induction n with
  | zero =>
    intro i out hi hn ho
    rw [List.drop_eq_nil_of_le (by omega), List.filter_nil, List.append_nil]
    exact Ev.step (fun k => spec_KeysLess_string.l0.eq_2 ..) (ifn (by omega) (Ev.bind (keys_ev out (by omega)) (Ev.now _)))
  | succ n ih =>
    intro i out hi hn ho
    have hlt : i < a.length := by omega
    have hin := in_ev b a[i] hb
    rw [← at_ a i hlt] at hin
    refine Ev.step (fun k => spec_KeysLess_string.l0.eq_2 ..) (ifp (by omega) (ifp (by omega) (Ev.bind hin ?_)))
    have e1 : wrap64 ((i : Int) + 1) = ((i + 1 : Nat) : Int) := w64 (by omega) (by omega)
    rw [at_ a i hlt, e1, List.drop_eq_getElem_cons hlt, List.filter_cons]
    by_cases h : a[i] ∈ b
    · refine ifp (by simp [h]) ?_
      rw [if_neg (by simp [h])]
      exact ih (i + 1) out (by omega) (by omega) (by omega)
    · refine ifn (by simp [h]) (ifp (by omega) ?_)
      rw [if_pos (by simp [h])]
      have := ih (i + 1) (out ++ [a[i]]) (by omega) (by omega) (by simp; omega)
      rw [List.append_assoc] at this
      exact this
theorem less_ev (a b : List ByteArray) (ha : a.length ≤ 8589934592) (hb : b.length ≤ 8589934592) : Ev (fun k => spec_KeysLess_string.f k a b) (canon (a.filter fun z => decide (z ∈ b) = false)) := by
  have := less_l0 a b ha hb _ 0 [] (by omega) rfl (by simp)
  simpa [spec_KeysLess_string.f] using this
theorem odd_ev (a b : List ByteArray) (ha : a.length ≤ 4294967296) (hb : b.length ≤ 4294967296) : Ev (fun k => spec_KeysOdd_string.f k a b) (canon ((a.filter fun z => decide (z ∈ b) = false) ++ (b.filter fun z => decide (z ∈ a) = false))) := by
  unfold spec_KeysOdd_string.f
  refine Ev.bind (less_ev a b (by omega) (by omega)) (Ev.bind (less_ev b a (by omega) (by omega)) (Ev.bind (union_ev _ _ (Nat.le_trans (canon_length _) (Nat.le_trans (List.length_filter_le _ _) ha)) (Nat.le_trans (canon_length _) (Nat.le_trans (List.length_filter_le _ _) hb))) ?_))
  refine now (canon_congr (fun x => ?_))
  rw [List.mem_append, List.mem_append, canon_mem, canon_mem]

/-! ### the sizes -/
theorem fits_l0 (l : List ByteArray) (hl : l.length ≤ 2147483647) (n : Nat) : ∀ i : Nat, i ≤ l.length → l.length - i = n → ∃ b, Ev (fun k => laws_zzFits4.l0 k l (l.length : Int) i) b := by
  induction n with
  | zero =>
    intro i hi hn
    exact ⟨true, Ev.step (fun k => laws_zzFits4.l0.eq_2 ..) (ifn (by omega) (Ev.now _))⟩
  | succ n ih =>
    intro i hi hn
    obtain ⟨b, hb⟩ := ih (i + 1) (by omega) (by omega)
    by_cases h : ((rdOf ByteArray.empty l (i : Int)).size : Int) > 2147483647
    · exact ⟨false, Ev.step (fun k => laws_zzFits4.l0.eq_2 ..) (ifp (by omega) (ifp (by omega) (ifp (by omega) (ifp h (Ev.now _)))))⟩
    · refine ⟨b, Ev.step (fun k => laws_zzFits4.l0.eq_2 ..) (ifp (by omega) (ifp (by omega) (ifp (by omega) (ifn h ?_))))⟩
      rw [w64 (x := (i : Int) + 1) (by omega) (by omega)]
      exact hb
theorem fits_ev (l : List ByteArray) : ∃ k b, laws_zzFits4.f k l = some b ∧ (b = true → l.length ≤ 2147483647) := by
  by_cases h : (l.length : Int) > 2147483647
  · exact ⟨0, false, by unfold laws_zzFits4.f; rw [if_pos h], fun e => by cases e⟩
  · obtain ⟨b, hb⟩ := fits_l0 l (by omega) _ 0 (by omega) rfl
    obtain ⟨k, hk⟩ := hb.rounds
    exact ⟨k, b, by unfold laws_zzFits4.f; rw [if_neg h]; exact hk, fun _ => by omega⟩

set_option maxHeartbeats 600000 in
set_option maxRecDepth 100000 in
theorem wrap_calls {k : Int} {A1 A2 A3 : Option Addr} {n1 n2 n3 c1 c2 c3 : Nat} {w : World} {r0 r1 r2 : List ByteArray} {ok : Bool} (h : Calls Try.prog 41 #[.int .i64 k, .slice A1 n1 c1, .slice A2 n2 c2, .slice A3 n3 c3] w (OpsPost w r0 r1 r2 ok)) :
    Calls Try.prog 16 #[.int .i64 k, .slice A1 n1 c1, .slice A2 n2 c2, .slice A3 n3 c3] w (OpsPost w r0 r1 r2 ok) := by
  have h := Aside0.mk h
  go_enter Try.func16, Try.ntmps16
  go_wp2_with fail
  refine h.out.mono ?_
  rintro e w1 ⟨v0, v1, v2, rfl, hR0, hR1, hR2, hB⟩
  have hR0 := Aside0.mk hR0
  have hR1 := Aside0.mk hR1
  have hR2 := Aside0.mk hR2
  have hB := Aside0.mk hB
  go_wp2_with fail
  refine bodyPost_ret (v := .tuple #[v0, v1, v2, .bool ok]) (by simp [results, Try.results16, go_sem]) rfl ?_
  exact ⟨v0, v1, v2, rfl, hR0.out, hR1.out, hR2.out, hB.out⟩

def Post (w : World) (e : Ending) (w' : World) : Prop := e = .returned (.bool true) ∧ Below w.heap.size w w'
theorem C_nil (w : World) : Kd.string.C w none 0 ([] : List ByteArray) := ⟨rfl, by simp, fun h => absurd h (Nat.lt_irrefl 0)⟩

/-! ### what an operation makes, as lists -/
def tz (k : Int) (a b wi : List ByteArray) : List ByteArray :=
  if k = 1 then a ++ b else if k = 2 then a.filter (fun z => decide (z ∈ b) = true) else if k = 3 then a.filter (fun z => decide (z ∈ b) = false)
  else if k = 4 then (a.filter fun z => decide (z ∈ b) = false) ++ (b.filter fun z => decide (z ∈ a) = false) else if k = 5 then a ++ wi else if k = 6 then a.filter (fun z => decide (z ∈ wi) = false) else if k = 13 then [] else a
def fz (k : Int) (a wi : List ByteArray) : List ByteArray := if k = 5 then a ++ wi else if k = 6 then a.filter (fun z => decide (z ∈ wi) = false) else if k = 13 then [] else a
def OpOk (k : Int) : Prop := k = 0 ∨ k = 1 ∨ k = 2 ∨ k = 3 ∨ k = 4 ∨ k = 5 ∨ k = 6 ∨ k = 12 ∨ k = 13
def ToldPost (w : World) (t f : List ByteArray) (e : Ending) (w' : World) : Prop := ∃ A c A' c', e = .returned (.tuple #[.slice A t.length c, .slice A' f.length c']) ∧ t.length ≤ c ∧ f.length ≤ c' ∧ Kd.string.C w' A t.length t ∧ Kd.string.C w' A' f.length f ∧ Below w.heap.size w w'


set_option maxHeartbeats 600000 in
set_option maxRecDepth 100000 in
theorem told0 (A1 : Option Addr) (c1 : Nat) (l1 : List ByteArray) (A2 : Option Addr) (c2 : Nat) (l2 : List ByteArray) (A3 : Option Addr) (c3 : Nat) (l3 : List ByteArray) (w : World) (hr1 : Kd.string.C w A1 l1.length l1) (hc1 : l1.length ≤ c1) (hr2 : Kd.string.C w A2 l2.length l2) (hc2 : l2.length ≤ c2) (hr3 : Kd.string.C w A3 l3.length l3) (hc3 : l3.length ≤ c3) (hn : l1.length ≤ 2147483647 ∧ l2.length ≤ 2147483647 ∧ l3.length ≤ 2147483647) :
    Calls Try.prog 14 #[.int .i64 0, .slice A1 l1.length c1, .slice A2 l2.length c2, .slice A3 l3.length c3] w (ToldPost w (canon (tz 0 l1 l2 l3)) (canon (fz 0 l1 l3))) := by
  obtain ⟨k0, h0⟩ := (keys_ev l1 (by omega)).rounds
  obtain ⟨rk, ek⟩ : ∃ r, r = canon l1 := ⟨_, rfl⟩
  rw [← ek] at h0
  have et : canon (tz 0 l1 l2 l3) = rk := by rw [ek]; simp [tz]
  have ef : canon (fz 0 l1 l3) = rk := by rw [ek]; simp [fz]
  rw [et, ef]
  clear ek et ef
  have h0 := Aside0.mk h0
  have hr1 := Aside0.mk hr1
  have hr2 := Aside0.mk hr2
  have hr3 := Aside0.mk hr3
  have hc1 := Aside0.mk hc1
  have hc2 := Aside0.mk hc2
  have hc3 := Aside0.mk hc3
  clear hn
  go_enter Try.func14, Try.ntmps14
  go_wp2_with fail
  refine (spec_Keys_string.calls k0 _ _ l1 rk _ hr1.out hc1.out h0.out).mono ?_
  rintro e w1 ⟨v, rfl, hR, hB⟩
  obtain ⟨A, c, rfl, hc, hC⟩ := Kd.R_reads hR
  have hCk := Aside0.mk hC
  have hck := Aside0.mk hc
  have hB := Aside0.mk hB
  clear hR hC hc
  go_wp2_with fail
  refine bodyPost_ret (v := .tuple #[.slice A rk.length c, .slice A rk.length c]) (by simp [results, Try.results14, go_sem]) rfl ?_
  exact ⟨A, c, A, c, rfl, hck.out, hck.out, hCk.out, hCk.out, hB.out⟩

set_option maxHeartbeats 600000 in
set_option maxRecDepth 100000 in
theorem told1 (A1 : Option Addr) (c1 : Nat) (l1 : List ByteArray) (A2 : Option Addr) (c2 : Nat) (l2 : List ByteArray) (A3 : Option Addr) (c3 : Nat) (l3 : List ByteArray) (w : World) (hr1 : Kd.string.C w A1 l1.length l1) (hc1 : l1.length ≤ c1) (hr2 : Kd.string.C w A2 l2.length l2) (hc2 : l2.length ≤ c2) (hr3 : Kd.string.C w A3 l3.length l3) (hc3 : l3.length ≤ c3) (hn : l1.length ≤ 2147483647 ∧ l2.length ≤ 2147483647 ∧ l3.length ≤ 2147483647) :
    Calls Try.prog 14 #[.int .i64 1, .slice A1 l1.length c1, .slice A2 l2.length c2, .slice A3 l3.length c3] w (ToldPost w (canon (tz 1 l1 l2 l3)) (canon (fz 1 l1 l3))) := by
  obtain ⟨k0, h0⟩ := (keys_ev l1 (by omega)).rounds
  obtain ⟨k1, h1⟩ := (union_ev l1 l2 (by omega) (by omega)).rounds
  obtain ⟨rk, ek⟩ : ∃ r, r = canon l1 := ⟨_, rfl⟩
  rw [← ek] at h0
  obtain ⟨rt, et⟩ : ∃ r, r = canon (tz 1 l1 l2 l3) := ⟨_, rfl⟩
  have h1 : spec_KeysUnion_string.f k1 l1 l2 = some rt := by rw [et]; simpa [tz] using h1
  have ef : canon (fz 1 l1 l3) = rk := by rw [ek]; simp [fz]
  rw [ef, ← et]
  clear ek et ef
  have h1 := Aside0.mk h1
  have h0 := Aside0.mk h0
  have hr1 := Aside0.mk hr1
  have hr2 := Aside0.mk hr2
  have hr3 := Aside0.mk hr3
  have hc1 := Aside0.mk hc1
  have hc2 := Aside0.mk hc2
  have hc3 := Aside0.mk hc3
  clear hn
  go_enter Try.func14, Try.ntmps14
  go_wp2_with fail
  refine (spec_Keys_string.calls k0 _ _ l1 rk _ hr1.out hc1.out h0.out).mono ?_
  rintro e w1 ⟨v, rfl, hR, hB⟩
  obtain ⟨A, c, rfl, hc, hC⟩ := Kd.R_reads hR
  have hCk := Aside0.mk hC
  have hck := Aside0.mk hc
  have hB := Aside0.mk hB
  clear hR hC hc
  go_wp2_with fail
  refine (spec_KeysUnion_string.calls k1 _ _ l1 _ _ l2 rt _ (Kd.C_below hr1.out hB.out) hc1.out (Kd.C_below hr2.out hB.out) hc2.out h1.out).mono ?_
  rintro e w2 ⟨v, rfl, hR, hBn⟩
  obtain ⟨A', c', rfl, hc, hC⟩ := Kd.R_reads hR
  have hCk := Aside0.mk (Kd.C_below hCk.out hBn)
  have hCt := Aside0.mk hC
  have hct := Aside0.mk hc
  have hB := Aside0.mk (below_then hB.out hB.out.size hBn)
  clear hR hC hc hBn
  go_wp2_with fail
  refine bodyPost_ret (v := .tuple #[.slice A' rt.length c', .slice A rk.length c]) (by simp [results, Try.results14, go_sem]) rfl ?_
  exact ⟨A', c', A, c, rfl, hct.out, hck.out, hCt.out, hCk.out, hB.out⟩

set_option maxHeartbeats 600000 in
set_option maxRecDepth 100000 in
theorem told2 (A1 : Option Addr) (c1 : Nat) (l1 : List ByteArray) (A2 : Option Addr) (c2 : Nat) (l2 : List ByteArray) (A3 : Option Addr) (c3 : Nat) (l3 : List ByteArray) (w : World) (hr1 : Kd.string.C w A1 l1.length l1) (hc1 : l1.length ≤ c1) (hr2 : Kd.string.C w A2 l2.length l2) (hc2 : l2.length ≤ c2) (hr3 : Kd.string.C w A3 l3.length l3) (hc3 : l3.length ≤ c3) (hn : l1.length ≤ 2147483647 ∧ l2.length ≤ 2147483647 ∧ l3.length ≤ 2147483647) :
    Calls Try.prog 14 #[.int .i64 2, .slice A1 l1.length c1, .slice A2 l2.length c2, .slice A3 l3.length c3] w (ToldPost w (canon (tz 2 l1 l2 l3)) (canon (fz 2 l1 l3))) := by
  obtain ⟨k0, h0⟩ := (keys_ev l1 (by omega)).rounds
  obtain ⟨k1, h1⟩ := (both_ev l1 l2 (by omega) (by omega)).rounds
  obtain ⟨rk, ek⟩ : ∃ r, r = canon l1 := ⟨_, rfl⟩
  rw [← ek] at h0
  obtain ⟨rt, et⟩ : ∃ r, r = canon (tz 2 l1 l2 l3) := ⟨_, rfl⟩
  have h1 : spec_KeysBoth_string.f k1 l1 l2 = some rt := by rw [et]; simpa [tz] using h1
  have ef : canon (fz 2 l1 l3) = rk := by rw [ek]; simp [fz]
  rw [ef, ← et]
  clear ek et ef
  have h1 := Aside0.mk h1
  have h0 := Aside0.mk h0
  have hr1 := Aside0.mk hr1
  have hr2 := Aside0.mk hr2
  have hr3 := Aside0.mk hr3
  have hc1 := Aside0.mk hc1
  have hc2 := Aside0.mk hc2
  have hc3 := Aside0.mk hc3
  clear hn
  go_enter Try.func14, Try.ntmps14
  go_wp2_with fail
  refine (spec_Keys_string.calls k0 _ _ l1 rk _ hr1.out hc1.out h0.out).mono ?_
  rintro e w1 ⟨v, rfl, hR, hB⟩
  obtain ⟨A, c, rfl, hc, hC⟩ := Kd.R_reads hR
  have hCk := Aside0.mk hC
  have hck := Aside0.mk hc
  have hB := Aside0.mk hB
  clear hR hC hc
  go_wp2_with fail
  refine (spec_KeysBoth_string.calls k1 _ _ l1 _ _ l2 rt _ (Kd.C_below hr1.out hB.out) hc1.out (Kd.C_below hr2.out hB.out) hc2.out h1.out).mono ?_
  rintro e w2 ⟨v, rfl, hR, hBn⟩
  obtain ⟨A', c', rfl, hc, hC⟩ := Kd.R_reads hR
  have hCk := Aside0.mk (Kd.C_below hCk.out hBn)
  have hCt := Aside0.mk hC
  have hct := Aside0.mk hc
  have hB := Aside0.mk (below_then hB.out hB.out.size hBn)
  clear hR hC hc hBn
  go_wp2_with fail
  refine bodyPost_ret (v := .tuple #[.slice A' rt.length c', .slice A rk.length c]) (by simp [results, Try.results14, go_sem]) rfl ?_
  exact ⟨A', c', A, c, rfl, hct.out, hck.out, hCt.out, hCk.out, hB.out⟩

set_option maxHeartbeats 600000 in
set_option maxRecDepth 100000 in
theorem told3 (A1 : Option Addr) (c1 : Nat) (l1 : List ByteArray) (A2 : Option Addr) (c2 : Nat) (l2 : List ByteArray) (A3 : Option Addr) (c3 : Nat) (l3 : List ByteArray) (w : World) (hr1 : Kd.string.C w A1 l1.length l1) (hc1 : l1.length ≤ c1) (hr2 : Kd.string.C w A2 l2.length l2) (hc2 : l2.length ≤ c2) (hr3 : Kd.string.C w A3 l3.length l3) (hc3 : l3.length ≤ c3) (hn : l1.length ≤ 2147483647 ∧ l2.length ≤ 2147483647 ∧ l3.length ≤ 2147483647) :
    Calls Try.prog 14 #[.int .i64 3, .slice A1 l1.length c1, .slice A2 l2.length c2, .slice A3 l3.length c3] w (ToldPost w (canon (tz 3 l1 l2 l3)) (canon (fz 3 l1 l3))) := by
  obtain ⟨k0, h0⟩ := (keys_ev l1 (by omega)).rounds
  obtain ⟨k1, h1⟩ := (less_ev l1 l2 (by omega) (by omega)).rounds
  obtain ⟨rk, ek⟩ : ∃ r, r = canon l1 := ⟨_, rfl⟩
  rw [← ek] at h0
  obtain ⟨rt, et⟩ : ∃ r, r = canon (tz 3 l1 l2 l3) := ⟨_, rfl⟩
  have h1 : spec_KeysLess_string.f k1 l1 l2 = some rt := by rw [et]; simpa [tz] using h1
  have ef : canon (fz 3 l1 l3) = rk := by rw [ek]; simp [fz]
  rw [ef, ← et]
  clear ek et ef
  have h1 := Aside0.mk h1
  have h0 := Aside0.mk h0
  have hr1 := Aside0.mk hr1
  have hr2 := Aside0.mk hr2
  have hr3 := Aside0.mk hr3
  have hc1 := Aside0.mk hc1
  have hc2 := Aside0.mk hc2
  have hc3 := Aside0.mk hc3
  clear hn
  go_enter Try.func14, Try.ntmps14
  go_wp2_with fail
  refine (spec_Keys_string.calls k0 _ _ l1 rk _ hr1.out hc1.out h0.out).mono ?_
  rintro e w1 ⟨v, rfl, hR, hB⟩
  obtain ⟨A, c, rfl, hc, hC⟩ := Kd.R_reads hR
  have hCk := Aside0.mk hC
  have hck := Aside0.mk hc
  have hB := Aside0.mk hB
  clear hR hC hc
  go_wp2_with fail
  refine (spec_KeysLess_string.calls k1 _ _ l1 _ _ l2 rt _ (Kd.C_below hr1.out hB.out) hc1.out (Kd.C_below hr2.out hB.out) hc2.out h1.out).mono ?_
  rintro e w2 ⟨v, rfl, hR, hBn⟩
  obtain ⟨A', c', rfl, hc, hC⟩ := Kd.R_reads hR
  have hCk := Aside0.mk (Kd.C_below hCk.out hBn)
  have hCt := Aside0.mk hC
  have hct := Aside0.mk hc
  have hB := Aside0.mk (below_then hB.out hB.out.size hBn)
  clear hR hC hc hBn
  go_wp2_with fail
  refine bodyPost_ret (v := .tuple #[.slice A' rt.length c', .slice A rk.length c]) (by simp [results, Try.results14, go_sem]) rfl ?_
  exact ⟨A', c', A, c, rfl, hct.out, hck.out, hCt.out, hCk.out, hB.out⟩

set_option maxHeartbeats 600000 in
set_option maxRecDepth 100000 in
theorem told4 (A1 : Option Addr) (c1 : Nat) (l1 : List ByteArray) (A2 : Option Addr) (c2 : Nat) (l2 : List ByteArray) (A3 : Option Addr) (c3 : Nat) (l3 : List ByteArray) (w : World) (hr1 : Kd.string.C w A1 l1.length l1) (hc1 : l1.length ≤ c1) (hr2 : Kd.string.C w A2 l2.length l2) (hc2 : l2.length ≤ c2) (hr3 : Kd.string.C w A3 l3.length l3) (hc3 : l3.length ≤ c3) (hn : l1.length ≤ 2147483647 ∧ l2.length ≤ 2147483647 ∧ l3.length ≤ 2147483647) :
    Calls Try.prog 14 #[.int .i64 4, .slice A1 l1.length c1, .slice A2 l2.length c2, .slice A3 l3.length c3] w (ToldPost w (canon (tz 4 l1 l2 l3)) (canon (fz 4 l1 l3))) := by
  obtain ⟨k0, h0⟩ := (keys_ev l1 (by omega)).rounds
  obtain ⟨k1, h1⟩ := (odd_ev l1 l2 (by omega) (by omega)).rounds
  obtain ⟨rk, ek⟩ : ∃ r, r = canon l1 := ⟨_, rfl⟩
  rw [← ek] at h0
  obtain ⟨rt, et⟩ : ∃ r, r = canon (tz 4 l1 l2 l3) := ⟨_, rfl⟩
  have h1 : spec_KeysOdd_string.f k1 l1 l2 = some rt := by rw [et]; simpa [tz] using h1
  have ef : canon (fz 4 l1 l3) = rk := by rw [ek]; simp [fz]
  rw [ef, ← et]
  clear ek et ef
  have h1 := Aside0.mk h1
  have h0 := Aside0.mk h0
  have hr1 := Aside0.mk hr1
  have hr2 := Aside0.mk hr2
  have hr3 := Aside0.mk hr3
  have hc1 := Aside0.mk hc1
  have hc2 := Aside0.mk hc2
  have hc3 := Aside0.mk hc3
  clear hn
  go_enter Try.func14, Try.ntmps14
  go_wp2_with fail
  refine (spec_Keys_string.calls k0 _ _ l1 rk _ hr1.out hc1.out h0.out).mono ?_
  rintro e w1 ⟨v, rfl, hR, hB⟩
  obtain ⟨A, c, rfl, hc, hC⟩ := Kd.R_reads hR
  have hCk := Aside0.mk hC
  have hck := Aside0.mk hc
  have hB := Aside0.mk hB
  clear hR hC hc
  go_wp2_with fail
  refine (spec_KeysOdd_string.calls k1 _ _ l1 _ _ l2 rt _ (Kd.C_below hr1.out hB.out) hc1.out (Kd.C_below hr2.out hB.out) hc2.out h1.out).mono ?_
  rintro e w2 ⟨v, rfl, hR, hBn⟩
  obtain ⟨A', c', rfl, hc, hC⟩ := Kd.R_reads hR
  have hCk := Aside0.mk (Kd.C_below hCk.out hBn)
  have hCt := Aside0.mk hC
  have hct := Aside0.mk hc
  have hB := Aside0.mk (below_then hB.out hB.out.size hBn)
  clear hR hC hc hBn
  go_wp2_with fail
  refine bodyPost_ret (v := .tuple #[.slice A' rt.length c', .slice A rk.length c]) (by simp [results, Try.results14, go_sem]) rfl ?_
  exact ⟨A', c', A, c, rfl, hct.out, hck.out, hCt.out, hCk.out, hB.out⟩

set_option maxHeartbeats 600000 in
set_option maxRecDepth 100000 in
theorem told5 (A1 : Option Addr) (c1 : Nat) (l1 : List ByteArray) (A2 : Option Addr) (c2 : Nat) (l2 : List ByteArray) (A3 : Option Addr) (c3 : Nat) (l3 : List ByteArray) (w : World) (hr1 : Kd.string.C w A1 l1.length l1) (hc1 : l1.length ≤ c1) (hr2 : Kd.string.C w A2 l2.length l2) (hc2 : l2.length ≤ c2) (hr3 : Kd.string.C w A3 l3.length l3) (hc3 : l3.length ≤ c3) (hn : l1.length ≤ 2147483647 ∧ l2.length ≤ 2147483647 ∧ l3.length ≤ 2147483647) :
    Calls Try.prog 14 #[.int .i64 5, .slice A1 l1.length c1, .slice A2 l2.length c2, .slice A3 l3.length c3] w (ToldPost w (canon (tz 5 l1 l2 l3)) (canon (fz 5 l1 l3))) := by
  obtain ⟨k0, h0⟩ := (keys_ev l1 (by omega)).rounds
  obtain ⟨k1, h1⟩ := (union_ev l1 l3 (by omega) (by omega)).rounds
  obtain ⟨rk, ek⟩ : ∃ r, r = canon l1 := ⟨_, rfl⟩
  rw [← ek] at h0
  obtain ⟨rt, et⟩ : ∃ r, r = canon (tz 5 l1 l2 l3) := ⟨_, rfl⟩
  have h1 : spec_KeysUnion_string.f k1 l1 l3 = some rt := by rw [et]; simpa [tz] using h1
  have ef : canon (fz 5 l1 l3) = rt := by rw [et]; simp [fz, tz]
  rw [ef, ← et]
  clear ek et ef
  have h1 := Aside0.mk h1
  have h0 := Aside0.mk h0
  have hr1 := Aside0.mk hr1
  have hr2 := Aside0.mk hr2
  have hr3 := Aside0.mk hr3
  have hc1 := Aside0.mk hc1
  have hc2 := Aside0.mk hc2
  have hc3 := Aside0.mk hc3
  clear hn
  go_enter Try.func14, Try.ntmps14
  go_wp2_with fail
  refine (spec_Keys_string.calls k0 _ _ l1 rk _ hr1.out hc1.out h0.out).mono ?_
  rintro e w1 ⟨v, rfl, hR, hB⟩
  obtain ⟨A, c, rfl, hc, hC⟩ := Kd.R_reads hR
  have hCk := Aside0.mk hC
  have hck := Aside0.mk hc
  have hB := Aside0.mk hB
  clear hR hC hc
  go_wp2_with fail
  refine (spec_KeysUnion_string.calls k1 _ _ l1 _ _ l3 rt _ (Kd.C_below hr1.out hB.out) hc1.out (Kd.C_below hr3.out hB.out) hc3.out h1.out).mono ?_
  rintro e w2 ⟨v, rfl, hR, hBn⟩
  obtain ⟨A', c', rfl, hc, hC⟩ := Kd.R_reads hR
  have hCk := Aside0.mk (Kd.C_below hCk.out hBn)
  have hCt := Aside0.mk hC
  have hct := Aside0.mk hc
  have hB := Aside0.mk (below_then hB.out hB.out.size hBn)
  clear hR hC hc hBn
  go_wp2_with fail
  refine (spec_KeysUnion_string.calls k1 _ _ l1 _ _ l3 rt _ (Kd.C_below hr1.out hB.out) hc1.out (Kd.C_below hr3.out hB.out) hc3.out h1.out).mono ?_
  rintro e w3 ⟨v, rfl, hR, hBn⟩
  obtain ⟨A2', c2', rfl, hc, hC⟩ := Kd.R_reads hR
  have hCt := Aside0.mk (Kd.C_below hCt.out hBn)
  have hCu := Aside0.mk hC
  have hcu := Aside0.mk hc
  have hB := Aside0.mk (below_then hB.out hB.out.size hBn)
  clear hR hC hc hBn
  go_wp2_with fail
  refine bodyPost_ret (v := .tuple #[.slice A' rt.length c', .slice A2' rt.length c2']) (by simp [results, Try.results14, go_sem]) rfl ?_
  exact ⟨A', c', A2', c2', rfl, hct.out, hcu.out, hCt.out, hCu.out, hB.out⟩

set_option maxHeartbeats 600000 in
set_option maxRecDepth 100000 in
theorem told6 (A1 : Option Addr) (c1 : Nat) (l1 : List ByteArray) (A2 : Option Addr) (c2 : Nat) (l2 : List ByteArray) (A3 : Option Addr) (c3 : Nat) (l3 : List ByteArray) (w : World) (hr1 : Kd.string.C w A1 l1.length l1) (hc1 : l1.length ≤ c1) (hr2 : Kd.string.C w A2 l2.length l2) (hc2 : l2.length ≤ c2) (hr3 : Kd.string.C w A3 l3.length l3) (hc3 : l3.length ≤ c3) (hn : l1.length ≤ 2147483647 ∧ l2.length ≤ 2147483647 ∧ l3.length ≤ 2147483647) :
    Calls Try.prog 14 #[.int .i64 6, .slice A1 l1.length c1, .slice A2 l2.length c2, .slice A3 l3.length c3] w (ToldPost w (canon (tz 6 l1 l2 l3)) (canon (fz 6 l1 l3))) := by
  obtain ⟨k0, h0⟩ := (keys_ev l1 (by omega)).rounds
  obtain ⟨k1, h1⟩ := (less_ev l1 l3 (by omega) (by omega)).rounds
  obtain ⟨rk, ek⟩ : ∃ r, r = canon l1 := ⟨_, rfl⟩
  rw [← ek] at h0
  obtain ⟨rt, et⟩ : ∃ r, r = canon (tz 6 l1 l2 l3) := ⟨_, rfl⟩
  have h1 : spec_KeysLess_string.f k1 l1 l3 = some rt := by rw [et]; simpa [tz] using h1
  have ef : canon (fz 6 l1 l3) = rt := by rw [et]; simp [fz, tz]
  rw [ef, ← et]
  clear ek et ef
  have h1 := Aside0.mk h1
  have h0 := Aside0.mk h0
  have hr1 := Aside0.mk hr1
  have hr2 := Aside0.mk hr2
  have hr3 := Aside0.mk hr3
  have hc1 := Aside0.mk hc1
  have hc2 := Aside0.mk hc2
  have hc3 := Aside0.mk hc3
  clear hn
  go_enter Try.func14, Try.ntmps14
  go_wp2_with fail
  refine (spec_Keys_string.calls k0 _ _ l1 rk _ hr1.out hc1.out h0.out).mono ?_
  rintro e w1 ⟨v, rfl, hR, hB⟩
  obtain ⟨A, c, rfl, hc, hC⟩ := Kd.R_reads hR
  have hCk := Aside0.mk hC
  have hck := Aside0.mk hc
  have hB := Aside0.mk hB
  clear hR hC hc
  go_wp2_with fail
  refine (spec_KeysLess_string.calls k1 _ _ l1 _ _ l3 rt _ (Kd.C_below hr1.out hB.out) hc1.out (Kd.C_below hr3.out hB.out) hc3.out h1.out).mono ?_
  rintro e w2 ⟨v, rfl, hR, hBn⟩
  obtain ⟨A', c', rfl, hc, hC⟩ := Kd.R_reads hR
  have hCk := Aside0.mk (Kd.C_below hCk.out hBn)
  have hCt := Aside0.mk hC
  have hct := Aside0.mk hc
  have hB := Aside0.mk (below_then hB.out hB.out.size hBn)
  clear hR hC hc hBn
  go_wp2_with fail
  refine (spec_KeysLess_string.calls k1 _ _ l1 _ _ l3 rt _ (Kd.C_below hr1.out hB.out) hc1.out (Kd.C_below hr3.out hB.out) hc3.out h1.out).mono ?_
  rintro e w3 ⟨v, rfl, hR, hBn⟩
  obtain ⟨A2', c2', rfl, hc, hC⟩ := Kd.R_reads hR
  have hCt := Aside0.mk (Kd.C_below hCt.out hBn)
  have hCu := Aside0.mk hC
  have hcu := Aside0.mk hc
  have hB := Aside0.mk (below_then hB.out hB.out.size hBn)
  clear hR hC hc hBn
  go_wp2_with fail
  refine bodyPost_ret (v := .tuple #[.slice A' rt.length c', .slice A2' rt.length c2']) (by simp [results, Try.results14, go_sem]) rfl ?_
  exact ⟨A', c', A2', c2', rfl, hct.out, hcu.out, hCt.out, hCu.out, hB.out⟩

set_option maxHeartbeats 600000 in
set_option maxRecDepth 100000 in
theorem told12 (A1 : Option Addr) (c1 : Nat) (l1 : List ByteArray) (A2 : Option Addr) (c2 : Nat) (l2 : List ByteArray) (A3 : Option Addr) (c3 : Nat) (l3 : List ByteArray) (w : World) (hr1 : Kd.string.C w A1 l1.length l1) (hc1 : l1.length ≤ c1) (hr2 : Kd.string.C w A2 l2.length l2) (hc2 : l2.length ≤ c2) (hr3 : Kd.string.C w A3 l3.length l3) (hc3 : l3.length ≤ c3) (hn : l1.length ≤ 2147483647 ∧ l2.length ≤ 2147483647 ∧ l3.length ≤ 2147483647) :
    Calls Try.prog 14 #[.int .i64 12, .slice A1 l1.length c1, .slice A2 l2.length c2, .slice A3 l3.length c3] w (ToldPost w (canon (tz 12 l1 l2 l3)) (canon (fz 12 l1 l3))) := by
  obtain ⟨k0, h0⟩ := (keys_ev l1 (by omega)).rounds
  obtain ⟨rk, ek⟩ : ∃ r, r = canon l1 := ⟨_, rfl⟩
  rw [← ek] at h0
  have et : canon (tz 12 l1 l2 l3) = rk := by rw [ek]; simp [tz]
  have ef : canon (fz 12 l1 l3) = rk := by rw [ek]; simp [fz]
  rw [et, ef]
  clear ek et ef
  have h0 := Aside0.mk h0
  have hr1 := Aside0.mk hr1
  have hr2 := Aside0.mk hr2
  have hr3 := Aside0.mk hr3
  have hc1 := Aside0.mk hc1
  have hc2 := Aside0.mk hc2
  have hc3 := Aside0.mk hc3
  clear hn
  go_enter Try.func14, Try.ntmps14
  go_wp2_with fail
  refine (spec_Keys_string.calls k0 _ _ l1 rk _ hr1.out hc1.out h0.out).mono ?_
  rintro e w1 ⟨v, rfl, hR, hB⟩
  obtain ⟨A, c, rfl, hc, hC⟩ := Kd.R_reads hR
  have hCk := Aside0.mk hC
  have hck := Aside0.mk hc
  have hB := Aside0.mk hB
  clear hR hC hc
  go_wp2_with fail
  refine bodyPost_ret (v := .tuple #[.slice A rk.length c, .slice A rk.length c]) (by simp [results, Try.results14, go_sem]) rfl ?_
  exact ⟨A, c, A, c, rfl, hck.out, hck.out, hCk.out, hCk.out, hB.out⟩

set_option maxHeartbeats 600000 in
set_option maxRecDepth 100000 in
theorem told13 (A1 : Option Addr) (c1 : Nat) (l1 : List ByteArray) (A2 : Option Addr) (c2 : Nat) (l2 : List ByteArray) (A3 : Option Addr) (c3 : Nat) (l3 : List ByteArray) (w : World) (hr1 : Kd.string.C w A1 l1.length l1) (hc1 : l1.length ≤ c1) (hr2 : Kd.string.C w A2 l2.length l2) (hc2 : l2.length ≤ c2) (hr3 : Kd.string.C w A3 l3.length l3) (hc3 : l3.length ≤ c3) (hn : l1.length ≤ 2147483647 ∧ l2.length ≤ 2147483647 ∧ l3.length ≤ 2147483647) :
    Calls Try.prog 14 #[.int .i64 13, .slice A1 l1.length c1, .slice A2 l2.length c2, .slice A3 l3.length c3] w (ToldPost w (canon (tz 13 l1 l2 l3)) (canon (fz 13 l1 l3))) := by
  obtain ⟨k0, h0⟩ := (keys_ev l1 (by omega)).rounds
  obtain ⟨rk, ek⟩ : ∃ r, r = canon l1 := ⟨_, rfl⟩
  rw [← ek] at h0
  have e0 : canon ([] : List ByteArray) = [] := List.eq_nil_of_length_eq_zero (Nat.le_zero.1 (canon_length []))
  have et : canon (tz 13 l1 l2 l3) = [] := by rw [← e0]; simp [tz]
  have ef : canon (fz 13 l1 l3) = [] := by rw [← e0]; simp [fz]
  rw [et, ef]
  clear ek e0 et ef
  have h0 := Aside0.mk h0
  have hr1 := Aside0.mk hr1
  have hr2 := Aside0.mk hr2
  have hr3 := Aside0.mk hr3
  have hc1 := Aside0.mk hc1
  have hc2 := Aside0.mk hc2
  have hc3 := Aside0.mk hc3
  clear hn
  go_enter Try.func14, Try.ntmps14
  go_wp2_with fail
  refine (spec_Keys_string.calls k0 _ _ l1 rk _ hr1.out hc1.out h0.out).mono ?_
  rintro e w1 ⟨v, rfl, hR, hB⟩
  obtain ⟨A, c, rfl, hc, hC⟩ := Kd.R_reads hR
  have hCk := Aside0.mk hC
  have hck := Aside0.mk hc
  have hB := Aside0.mk hB
  clear hR hC hc
  go_wp2_with fail
  refine bodyPost_ret (v := .tuple #[.slice none 0 0, .slice none 0 0]) (by simp [results, Try.results14, go_sem]) rfl ?_
  exact ⟨none, 0, none, 0, rfl, Nat.le_refl _, Nat.le_refl _, C_nil _, C_nil _, hB.out⟩

theorem told_any (k : Int) (hk : OpOk k) (A1 : Option Addr) (c1 : Nat) (l1 : List ByteArray) (A2 : Option Addr) (c2 : Nat) (l2 : List ByteArray) (A3 : Option Addr) (c3 : Nat) (l3 : List ByteArray) (w : World) (hr1 : Kd.string.C w A1 l1.length l1) (hc1 : l1.length ≤ c1) (hr2 : Kd.string.C w A2 l2.length l2) (hc2 : l2.length ≤ c2) (hr3 : Kd.string.C w A3 l3.length l3) (hc3 : l3.length ≤ c3) (hn : l1.length ≤ 2147483647 ∧ l2.length ≤ 2147483647 ∧ l3.length ≤ 2147483647) :
    Calls Try.prog 14 #[.int .i64 k, .slice A1 l1.length c1, .slice A2 l2.length c2, .slice A3 l3.length c3] w (ToldPost w (canon (tz k l1 l2 l3)) (canon (fz k l1 l3))) := by
  rcases hk with rfl | rfl | rfl | rfl | rfl | rfl | rfl | rfl | rfl
  · exact told0 A1 c1 l1 A2 c2 l2 A3 c3 l3 w hr1 hc1 hr2 hc2 hr3 hc3 hn
  · exact told1 A1 c1 l1 A2 c2 l2 A3 c3 l3 w hr1 hc1 hr2 hc2 hr3 hc3 hn
  · exact told2 A1 c1 l1 A2 c2 l2 A3 c3 l3 w hr1 hc1 hr2 hc2 hr3 hc3 hn
  · exact told3 A1 c1 l1 A2 c2 l2 A3 c3 l3 w hr1 hc1 hr2 hc2 hr3 hc3 hn
  · exact told4 A1 c1 l1 A2 c2 l2 A3 c3 l3 w hr1 hc1 hr2 hc2 hr3 hc3 hn
  · exact told5 A1 c1 l1 A2 c2 l2 A3 c3 l3 w hr1 hc1 hr2 hc2 hr3 hc3 hn
  · exact told6 A1 c1 l1 A2 c2 l2 A3 c3 l3 w hr1 hc1 hr2 hc2 hr3 hc3 hn
  · exact told12 A1 c1 l1 A2 c2 l2 A3 c3 l3 w hr1 hc1 hr2 hc2 hr3 hc3 hn
  · exact told13 A1 c1 l1 A2 c2 l2 A3 c3 l3 w hr1 hc1 hr2 hc2 hr3 hc3 hn

theorem ops_any (k : Int) (hk : OpOk k) (A1 : Option Addr) (c1 : Nat) (l1 : List ByteArray) (A2 : Option Addr) (c2 : Nat) (l2 : List ByteArray) (A3 : Option Addr) (c3 : Nat) (l3 : List ByteArray) (w : World) (hr1 : Kd.string.C w A1 l1.length l1) (hc1 : l1.length ≤ c1) (hr2 : Kd.string.C w A2 l2.length l2) (hc2 : l2.length ≤ c2) (hr3 : Kd.string.C w A3 l3.length l3) (hc3 : l3.length ≤ c3) (hn : l1.length ≤ 2147483647 ∧ l2.length ≤ 2147483647 ∧ l3.length ≤ 2147483647) (hok1 : ∀ x ∈ l1, x.size ≤ maxLen) (hok2 : ∀ x ∈ l2, x.size ≤ maxLen) (hok3 : ∀ x ∈ l3, x.size ≤ maxLen) :
    Calls Try.prog 16 #[.int .i64 k, .slice A1 l1.length c1, .slice A2 l2.length c2, .slice A3 l3.length c3] w (OpsPost w (canon (tz k l1 l2 l3)) (canon (fz k l1 l3)) (canon l2) false) := by
  rcases hk with rfl | rfl | rfl | rfl | rfl | rfl | rfl | rfl | rfl
  · have h := wrap_calls (ops0 A1 c1 l1 A2 c2 l2 A3 c3 l3 w hr1 hc1 hr2 hc2 hr3 hc3 hn hok1 hok2 hok3)
    exact h
  · have h := wrap_calls (ops1 A1 c1 l1 A2 c2 l2 A3 c3 l3 w hr1 hc1 hr2 hc2 hr3 hc3 hn hok1 hok2 hok3)
    exact h
  · have h := wrap_calls (ops2 A1 c1 l1 A2 c2 l2 A3 c3 l3 w hr1 hc1 hr2 hc2 hr3 hc3 hn hok1 hok2 hok3)
    exact h
  · have h := wrap_calls (ops3 A1 c1 l1 A2 c2 l2 A3 c3 l3 w hr1 hc1 hr2 hc2 hr3 hc3 hn hok1 hok2 hok3)
    exact h
  · have h := wrap_calls (ops4 A1 c1 l1 A2 c2 l2 A3 c3 l3 w hr1 hc1 hr2 hc2 hr3 hc3 hn hok1 hok2 hok3)
    exact h
  · have h := wrap_calls (ops5 A1 c1 l1 A2 c2 l2 A3 c3 l3 w hr1 hc1 hr2 hc2 hr3 hc3 hn hok1 hok2 hok3)
    exact h
  · have h := wrap_calls (ops6 A1 c1 l1 A2 c2 l2 A3 c3 l3 w hr1 hc1 hr2 hc2 hr3 hc3 hn hok1 hok2 hok3)
    exact h
  · have h := wrap_calls (ops12 A1 c1 l1 A2 c2 l2 A3 c3 l3 w hr1 hc1 hr2 hc2 hr3 hc3 hn hok1 hok2 hok3)
    exact h
  · have h := wrap_calls (ops13 A1 c1 l1 A2 c2 l2 A3 c3 l3 w hr1 hc1 hr2 hc2 hr3 hc3 hn hok1 hok2 hok3)
    exact h

/-! ### the law -/
theorem key_ok (a : Int) (h0 : 0 ≤ a) : ∃ k, laws_keysOp.f a = some k ∧ OpOk k := by
  obtain ⟨n, rfl⟩ : ∃ n : Nat, a = n := ⟨a.toNat, by omega⟩
  have e : Int.tmod (n : Int) 9 = ((n % 9 : Nat) : Int) := by rw [Int.tmod_eq_emod_of_nonneg h0]; omega
  unfold laws_keysOp.f
  rw [e]
  have hlt : n % 9 < 9 := Nat.mod_lt _ (by decide)
  generalize n % 9 = m at hlt
  match m, hlt with
  | 0, _ => exact ⟨0, rfl, by simp [OpOk]⟩
  | 1, _ => exact ⟨1, rfl, by simp [OpOk]⟩
  | 2, _ => exact ⟨2, rfl, by simp [OpOk]⟩
  | 3, _ => exact ⟨3, rfl, by simp [OpOk]⟩
  | 4, _ => exact ⟨4, rfl, by simp [OpOk]⟩
  | 5, _ => exact ⟨5, rfl, by simp [OpOk]⟩
  | 6, _ => exact ⟨6, rfl, by simp [OpOk]⟩
  | 7, _ => exact ⟨12, rfl, by simp [OpOk]⟩
  | 8, _ => exact ⟨13, rfl, by simp [OpOk]⟩

/-! #### FnStringSets -/
set_option maxHeartbeats 2000000 in
set_option maxRecDepth 100000 in
theorem FnStringSets_true (a0 : Int) (A1 : Option Addr) (c1 : Nat) (l1 : List ByteArray) (A2 : Option Addr) (c2 : Nat) (l2 : List ByteArray) (A3 : Option Addr) (c3 : Nat) (l3 : List ByteArray) (w : World) (hr1 : Kd.string.C w A1 l1.length l1) (hc1 : l1.length ≤ c1) (hr2 : Kd.string.C w A2 l2.length l2) (hc2 : l2.length ≤ c2) (hr3 : Kd.string.C w A3 l3.length l3) (hc3 : l3.length ≤ c3) (ha : 0 ≤ a0) (hok1 : ∀ x ∈ l1, x.size ≤ maxLen) (hok2 : ∀ x ∈ l2, x.size ≤ maxLen) (hok3 : ∀ x ∈ l3, x.size ≤ maxLen) :
    Calls Try.prog 4 #[.int .u8 a0, .slice A1 l1.length c1, .slice A2 l2.length c2, .slice A3 l3.length c3] w (Post w) := by
  obtain ⟨k1, b1, f1, g1⟩ := fits_ev l1
  obtain ⟨k2, b2, f2, g2⟩ := fits_ev l2
  obtain ⟨k3, b3, f3, g3⟩ := fits_ev l3
  have f1 := Aside0.mk f1
  have g1 := Aside0.mk g1
  have f2 := Aside0.mk f2
  have g2 := Aside0.mk g2
  have f3 := Aside0.mk f3
  have g3 := Aside0.mk g3
  have hr1 := Aside0.mk hr1
  have hc1 := Aside0.mk hc1
  have hr2 := Aside0.mk hr2
  have hc2 := Aside0.mk hc2
  have hr3 := Aside0.mk hr3
  have hc3 := Aside0.mk hc3
  have hok1 := Aside0.mk hok1
  have hok2 := Aside0.mk hok2
  have hok3 := Aside0.mk hok3
  have ha := Aside0.mk ha
  go_enter Try.func4, Try.ntmps4
  go_wp2_with fail
  refine (laws_zzFits4.calls k1 _ _ l1 b1 _ hr1.out hc1.out f1.out).mono ?_
  rintro e w1 ⟨rfl, hd⟩
  have hB := Aside0.mk (hd.below)
  clear hd
  rcases b1 with _ | _
  · go_wp2_with fail
    go_ret
    exact ⟨rfl, hB.out⟩
  go_wp2_with fail
  refine (laws_zzFits4.calls k2 _ _ l2 b2 _ (Kd.C_below hr2.out hB.out) hc2.out f2.out).mono ?_
  rintro e w2 ⟨rfl, hd⟩
  have hB := Aside0.mk (below_then hB.out hB.out.size hd.below)
  clear hd
  rcases b2 with _ | _
  · go_wp2_with fail
    go_ret
    exact ⟨rfl, hB.out⟩
  go_wp2_with fail
  refine (laws_zzFits4.calls k3 _ _ l3 b3 _ (Kd.C_below hr3.out hB.out) hc3.out f3.out).mono ?_
  rintro e w3 ⟨rfl, hd⟩
  have hB := Aside0.mk (below_then hB.out hB.out.size hd.below)
  clear hd
  rcases b3 with _ | _
  · go_wp2_with fail
    go_ret
    exact ⟨rfl, hB.out⟩
  have hn := Aside0.mk (show l1.length ≤ 2147483647 ∧ l2.length ≤ 2147483647 ∧ l3.length ≤ 2147483647 from ⟨by have := g1.out; simpa using this, by have := g2.out; simpa using this, by have := g3.out; simpa using this⟩)
  clear g1 g2 g3 f1 f2 f3
  obtain ⟨k, hk, hko⟩ := key_ok a0 ha.out
  obtain ⟨rt, et⟩ : ∃ r, r = canon (tz k l1 l2 l3) := ⟨_, rfl⟩
  obtain ⟨rf, ef⟩ : ∃ r, r = canon (fz k l1 l3) := ⟨_, rfl⟩
  obtain ⟨rb, eb⟩ : ∃ r, r = canon l2 := ⟨_, rfl⟩
  obtain ⟨rk, ek⟩ : ∃ r, r = canon (tz 0 [(⟨#[99]⟩ : ByteArray)] [] []) := ⟨_, rfl⟩
  have lt_ : rt.length ≤ 8589934592 := by
    rw [et]
    refine Nat.le_trans (canon_length _) ?_
    have := hn.out
    have q1 := List.length_filter_le (fun z => decide (decide (z ∈ l2) = true)) l1
    have q2 := List.length_filter_le (fun z => decide (decide (z ∈ l2) = false)) l1
    have q3 := List.length_filter_le (fun z => decide (decide (z ∈ l1) = false)) l2
    have q4 := List.length_filter_le (fun z => decide (decide (z ∈ l3) = false)) l1
    unfold tz
    repeat' split
    all_goals first | (simp only [List.length_append]; omega) | omega | simp
  have lf_ : rf.length ≤ 8589934592 := by
    rw [ef]
    refine Nat.le_trans (canon_length _) ?_
    have := hn.out
    have q4 := List.length_filter_le (fun z => decide (decide (z ∈ l3) = false)) l1
    unfold fz
    repeat' split
    all_goals first | (simp only [List.length_append]; omega) | omega | simp
  have lb_ : rb.length ≤ 8589934592 := by
    rw [eb]
    have := canon_length l2
    have := hn.out
    omega
  have lk : rk.length = 1 := by rw [ek]; unfold canon; rw [srt_length]; rfl
  have lka : rk.length ≤ 1 := by omega
  have lkb : 1 ≤ rk.length := by omega
  obtain ⟨q1, s1⟩ := (same_ev rt rt lt_).rounds
  obtain ⟨q2, s2⟩ := (same_ev rf rf lf_).rounds
  obtain ⟨q3, s3⟩ := (same_ev rb rb lb_).rounds
  obtain ⟨q4, s4⟩ := (keys_ev l2 (by have := hn.out; omega)).rounds
  simp only [decide_true] at s1 s2 s3
  have t1 := Aside0.mk (fun w' h1 h2 h3 => told_any k hko A1 c1 l1 A2 c2 l2 A3 c3 l3 w' h1 hc1.out h2 hc2.out h3 hc3.out hn.out)
  have t2 := Aside0.mk (fun w' h1 h2 h3 => ops_any k hko A1 c1 l1 A2 c2 l2 A3 c3 l3 w' h1 hc1.out h2 hc2.out h3 hc3.out hn.out hok1.out hok2.out hok3.out)
  have t3 := Aside0.mk (fun (w' : World) (g : Nat) (hg : w'.cell? ⟨g, 0, none⟩ = some (.string ⟨#[99]⟩)) => ops_any 0 (.inl rfl) (some ⟨g, 0, none⟩) 1 [(⟨#[99]⟩ : ByteArray)] none 0 [] none 0 [] w' (C_one hg) (by simp) (C_nil _) (by simp) (C_nil _) (by simp) ⟨by simp, by simp, by simp⟩ (by intro x hx; rw [List.mem_singleton.1 hx]; decide) (by simp) (by simp))
  rw [← et, ← ef] at t1 t2
  rw [← eb] at t2 s4
  rw [← ek] at t3
  clear et ef eb ek lt_ lf_ lb_ lk
  have s1 := Aside0.mk s1
  have s2 := Aside0.mk s2
  have s3 := Aside0.mk s3
  have s4 := Aside0.mk s4
  have hk := Aside0.mk hk
  go_wp2_with fail
  refine (laws_keysOp.calls a0 k _ hk.out).mono ?_
  rintro e w4 ⟨rfl, hBn⟩
  have hB := Aside0.mk (below_then hB.out hB.out.size hBn)
  clear hBn
  go_wp2_with fail
  refine (t1.out _ (Kd.C_below hr1.out hB.out) (Kd.C_below hr2.out hB.out) (Kd.C_below hr3.out hB.out)).mono ?_
  rintro e w5 ⟨A, c, A', c', rfl, hct, hcf, hCt, hCf, hBn⟩
  have hct := Aside0.mk hct
  have hcf := Aside0.mk hcf
  have hCt := Aside0.mk hCt
  have hCf := Aside0.mk hCf
  have hB := Aside0.mk (below_then hB.out hB.out.size hBn)
  clear hBn
  go_wp2_with fail
  refine (laws_keysOp.calls a0 k _ hk.out).mono ?_
  rintro e w6 ⟨rfl, hBn⟩
  have hCt := Aside0.mk (Kd.C_below hCt.out hBn)
  have hCf := Aside0.mk (Kd.C_below hCf.out hBn)
  have hB := Aside0.mk (below_then hB.out hB.out.size hBn)
  clear hBn
  go_wp2_with fail
  refine (t2.out _ (Kd.C_below hr1.out hB.out) (Kd.C_below hr2.out hB.out) (Kd.C_below hr3.out hB.out)).mono ?_
  rintro e w7 ⟨v0, v1, v2, rfl, hR0, hR1, hR2, hBn⟩
  obtain ⟨B0, d0, rfl, hd0, hD0⟩ := Kd.R_reads hR0
  obtain ⟨B1, d1, rfl, hd1, hD1⟩ := Kd.R_reads hR1
  obtain ⟨B2, d2, rfl, hd2, hD2⟩ := Kd.R_reads hR2
  clear hR0 hR1 hR2
  have hd0 := Aside0.mk hd0
  have hD0 := Aside0.mk hD0
  have hd1 := Aside0.mk hd1
  have hD1 := Aside0.mk hD1
  have hd2 := Aside0.mk hd2
  have hD2 := Aside0.mk hD2
  have hCt := Aside0.mk (Kd.C_below hCt.out hBn)
  have hCf := Aside0.mk (Kd.C_below hCf.out hBn)
  have hB := Aside0.mk (below_then hB.out hB.out.size hBn)
  clear hBn
  go_wp2_with fail
  refine (t3.out _ w7.heap.size (cell_new w7 (.string ⟨#[99]⟩) 9)).mono ?_
  rintro e w8 ⟨v0, v1, v2, rfl, hR0, _, _, hBn⟩
  obtain ⟨B3, d3, rfl, hd3, hD3⟩ := Kd.R_reads hR0
  clear hR0 hd3 hD3
  have hBn : Below w7.heap.size w7 w8 := below_then ((Below.refl _ _).alloc (Nat.le_refl _) _) (by simp) hBn
  have hCt := Aside0.mk (Kd.C_below hCt.out hBn)
  have hCf := Aside0.mk (Kd.C_below hCf.out hBn)
  have hD0 := Aside0.mk (Kd.C_below hD0.out hBn)
  have hD1 := Aside0.mk (Kd.C_below hD1.out hBn)
  have hD2 := Aside0.mk (Kd.C_below hD2.out hBn)
  have hB := Aside0.mk (below_then hB.out hB.out.size hBn)
  clear hBn
  go_wp2_with fail
  refine (spec_KeysSame_string.calls q1 _ _ rt _ _ rt true _ hD0.out hd0.out hCt.out hct.out s1.out).mono ?_
  rintro e w9 ⟨rfl, hd⟩
  have hBn := hd.below
  have hCf := Aside0.mk (Kd.C_below hCf.out hBn)
  have hD1 := Aside0.mk (Kd.C_below hD1.out hBn)
  have hD2 := Aside0.mk (Kd.C_below hD2.out hBn)
  have hB := Aside0.mk (below_then hB.out hB.out.size hBn)
  clear hBn hd
  go_wp2_with fail
  refine (spec_KeysSame_string.calls q2 _ _ rf _ _ rf true _ hD1.out hd1.out hCf.out hcf.out s2.out).mono ?_
  rintro e w10 ⟨rfl, hd⟩
  have hBn := hd.below
  have hD2 := Aside0.mk (Kd.C_below hD2.out hBn)
  have hB := Aside0.mk (below_then hB.out hB.out.size hBn)
  clear hBn hd
  go_wp2_with fail
  refine (spec_Keys_string.calls q4 _ _ l2 rb _ (Kd.C_below hr2.out hB.out) hc2.out s4.out).mono ?_
  rintro e w11 ⟨v, rfl, hR, hBn⟩
  obtain ⟨B4, d4, rfl, hd4, hD4⟩ := Kd.R_reads hR
  clear hR
  have hd4 := Aside0.mk hd4
  have hD4 := Aside0.mk hD4
  have hD2 := Aside0.mk (Kd.C_below hD2.out hBn)
  have hB := Aside0.mk (below_then hB.out hB.out.size hBn)
  clear hBn
  go_wp2_with fail
  refine (spec_KeysSame_string.calls q3 _ _ rb _ _ rb true _ hD2.out hd2.out hD4.out hd4.out s3.out).mono ?_
  rintro e w12 ⟨rfl, hd⟩
  have hBn := hd.below
  have hB := Aside0.mk (below_then hB.out hB.out.size hBn)
  clear hBn hd
  go_wp2_with fail
  go_ret
  have e1 : ((rk.length : Int) == 1) = true := by
    have e : rk.length = 1 := by omega
    rw [e]
    rfl
  exact ⟨congrArg (fun b => Ending.returned (.bool b)) e1, hB.out⟩
def laws_FnStringSets.f (a0 : Int) (l1 l2 l3 : List ByteArray) : Option Bool := if 0 ≤ a0 ∧ (∀ x ∈ l1, x.size ≤ maxLen) ∧ (∀ x ∈ l2, x.size ≤ maxLen) ∧ (∀ x ∈ l3, x.size ≤ maxLen) then some true else none
theorem laws_FnStringSets.calls (a0 : Int) (A1 : Option Addr) (c1 : Nat) (l1 : List ByteArray) (A2 : Option Addr) (c2 : Nat) (l2 : List ByteArray) (A3 : Option Addr) (c3 : Nat) (l3 : List ByteArray) (r : Bool) (w : World) (hr1 : Kd.C Kd.string w A1 l1.length l1) (hc1 : l1.length ≤ c1) (hr2 : Kd.C Kd.string w A2 l2.length l2) (hc2 : l2.length ≤ c2) (hr3 : Kd.C Kd.string w A3 l3.length l3) (hc3 : l3.length ≤ c3) (h : laws_FnStringSets.f a0 l1 l2 l3 = some r) :
    Calls Try.prog 4 #[.int .u8 a0, .slice A1 l1.length c1, .slice A2 l2.length c2, .slice A3 l3.length c3] w fun e w' => e = .returned (.bool r) ∧ Below w.heap.size w w' := by
  unfold laws_FnStringSets.f at h
  split at h
  · rename_i hq
    obtain rfl : true = r := by simpa using h
    exact (FnStringSets_true a0 A1 c1 l1 A2 c2 l2 A3 c3 l3 w hr1 hc1 hr2 hc2 hr3 hc3 hq.1 hq.2.1 hq.2.2.1 hq.2.2.2).mono (fun _ _ h => h)
  · cases h
end Go.Proofs.Ytmipenoiodjbhaa.StrLaw
