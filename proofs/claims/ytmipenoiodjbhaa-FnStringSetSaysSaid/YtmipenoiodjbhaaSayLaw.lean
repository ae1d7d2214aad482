/- FnStringSetSays: what a question about two sets of texts tells is what the specification's function tells; the law's function walked: true for all arguments. -/
import Derived.Test.YtmipenoiodjbhaaStrLaw
namespace Go.Proofs.Ytmipenoiodjbhaa.SayLaw
open Go.RowKit Go.Proofs.Ytmipenoiodjbhaa.XFnStringSets Go.Proofs.YtmipenoiodjbhaaW.PrintWords Go.Proofs.Ytmipenoiodjbhaa.EvL Go.Proofs.Ytmipenoiodjbhaa.SetGen Go.Proofs.Ytmipenoiodjbhaa.SetS Go.Proofs.Ytmipenoiodjbhaa.PureSetS Go.Proofs.Ytmipenoiodjbhaa.StrLaw

theorem nil_iff (l : List ByteArray) : ((canon l).length = 0) ↔ l = [] := by
  constructor
  · intro h
    have h2 := List.eq_nil_of_length_eq_zero h
    cases l with
    | nil => rfl
    | cons a l =>
      have := (canon_mem (a :: l) a).2 (by simp)
      rw [h2] at this
      cases this
  · rintro rfl
    exact Nat.le_zero.1 (canon_length [])
theorem len_less (a b : List ByteArray) : (((canon (a.filter fun z => decide (z ∈ b) = false)).length : Int) == 0) = (a.all fun x => decide (x ∈ b)) := by
  rw [Bool.eq_iff_iff]
  have e : ((((canon (a.filter fun z => decide (z ∈ b) = false)).length : Int) == 0) = true) ↔ (a.filter fun z => decide (z ∈ b) = false) = [] := by
    rw [← nil_iff, beq_iff_eq]
    omega
  rw [e, List.filter_eq_nil_iff, List.all_eq_true]
  simp
theorem len_both (a b : List ByteArray) : (decide (0 < (canon (a.filter fun z => decide (z ∈ b) = true)).length)) = (a.any fun x => decide (x ∈ b)) := by
  have h := nil_iff (a.filter fun z => decide (z ∈ b) = true)
  rw [List.filter_eq_nil_iff] at h
  rcases hq : (a.any fun x => decide (x ∈ b)) with _ | _
  · rw [List.any_eq_false] at hq
    have h2 := h.2 (fun x hx => by have := hq x hx; simpa using this)
    rw [h2]
    rfl
  · rw [List.any_eq_true] at hq
    obtain ⟨x, hx, hxb⟩ := hq
    apply decide_eq_true
    rcases Nat.eq_zero_or_pos (canon (a.filter fun z => decide (z ∈ b) = true)).length with h0 | h0
    · exact absurd hxb (by have := h.1 h0 x hx; simpa using this)
    · omega
theorem same_iff (a b : List ByteArray) : (decide ((ded a).length = (ded b).length) && b.all fun x => decide (x ∈ a)) = decide (canon a = canon b) := by
  rw [Bool.eq_iff_iff, Bool.and_eq_true, decide_eq_true_iff, decide_eq_true_iff, List.all_eq_true]
  constructor
  · rintro ⟨h1, h2⟩
    refine canon_congr (fun x => ⟨fun hx => ?_, fun hx => by simpa using h2 x hx⟩)
    have hsub : ∀ y ∈ ded b, y ∈ ded a := fun y hy => by rw [mem_ded] at *; simpa using h2 y hy
    rw [← mem_ded] at hx ⊢
    rcases Classical.em (x ∈ ded b) with h3 | h3
    · exact h3
    · have := nodup_length (l := x :: ded b) (m := ded a) (List.nodup_cons.2 ⟨h3, nodup_ded b⟩) (fun y hy => by
        rcases List.mem_cons.1 hy with rfl | hy
        · exact hx
        · exact hsub y hy)
      simp only [List.length_cons] at this
      omega
  · intro h
    have hm : ∀ x, x ∈ a ↔ x ∈ b := fun x => by rw [← canon_mem a x, h, canon_mem]
    exact ⟨(ded_perm (nodup_ded a) (fun x => by rw [mem_ded, hm x])).length_eq, fun x hx => by simpa using (hm x).2 hx⟩

def sayB (k : Int) (a b wi : List ByteArray) : Bool :=
  if k = 7 then wi.all fun x => decide (x ∈ a) else if k = 8 then wi.any fun x => decide (x ∈ a) else if k = 9 then b.all fun x => decide (x ∈ a) else if k = 10 then decide (canon a = canon b) else decide (wi.getD 0 ByteArray.empty ∈ a)
def SayOk (k : Int) (wi : List ByteArray) : Prop := k = 7 ∨ k = 8 ∨ k = 9 ∨ k = 10 ∨ (k = 11 ∧ 0 < wi.length)

set_option maxHeartbeats 600000 in
set_option maxRecDepth 100000 in
theorem say7 (A1 : Option Addr) (c1 : Nat) (l1 : List ByteArray) (A2 : Option Addr) (c2 : Nat) (l2 : List ByteArray) (A3 : Option Addr) (c3 : Nat) (l3 : List ByteArray) (w : World) (hr1 : Kd.string.C w A1 l1.length l1) (hc1 : l1.length ≤ c1) (hr2 : Kd.string.C w A2 l2.length l2) (hc2 : l2.length ≤ c2) (hr3 : Kd.string.C w A3 l3.length l3) (hc3 : l3.length ≤ c3) (hn : l1.length ≤ 2147483647 ∧ l2.length ≤ 2147483647 ∧ l3.length ≤ 2147483647) :
    Calls Try.prog 19 #[.int .i64 7, .slice A1 l1.length c1, .slice A2 l2.length c2, .slice A3 l3.length c3] w (TestPost w (sayB 7 l1 l2 l3)) := by
  obtain ⟨k1, h1⟩ := (less_ev l3 l1 (by omega) (by omega)).rounds
  obtain ⟨res, hres⟩ : ∃ r, r = sayB 7 l1 l2 l3 := ⟨_, rfl⟩
  rw [← hres]
  have hq0 := len_less l3 l1
  obtain ⟨rr, er⟩ : ∃ r, r = canon (l3.filter fun z => decide (z ∈ l1) = false) := ⟨_, rfl⟩
  rw [← er] at h1 hq0
  have hq2 : ((rr.length : Int) == 0) = res := by rw [hres, hq0]; rfl
  have hq := Aside0.mk hq2
  clear hres er hq2 hq0
  have h1 := Aside0.mk h1
  have hr1 := Aside0.mk hr1
  have hc1 := Aside0.mk hc1
  have hr2 := Aside0.mk hr2
  have hc2 := Aside0.mk hc2
  have hr3 := Aside0.mk hr3
  have hc3 := Aside0.mk hc3
  clear hn
  go_enter Try.func19, Try.ntmps19
  go_wp2_with fail
  refine (spec_KeysLess_string.calls k1 _ _ l3 _ _ l1 rr _ hr3.out hc3.out hr1.out hc1.out h1.out).mono ?_
  rintro e w1 ⟨v, rfl, hR, hB⟩
  obtain ⟨A, c, rfl, hc, hC⟩ := Kd.R_reads hR
  have hB := Aside0.mk hB
  clear hR hc hC
  go_wp2_with fail
  go_ret
  exact ⟨congrArg (fun b => Ending.returned (.bool b)) hq.out, hB.out⟩

set_option maxHeartbeats 600000 in
set_option maxRecDepth 100000 in
theorem say8 (A1 : Option Addr) (c1 : Nat) (l1 : List ByteArray) (A2 : Option Addr) (c2 : Nat) (l2 : List ByteArray) (A3 : Option Addr) (c3 : Nat) (l3 : List ByteArray) (w : World) (hr1 : Kd.string.C w A1 l1.length l1) (hc1 : l1.length ≤ c1) (hr2 : Kd.string.C w A2 l2.length l2) (hc2 : l2.length ≤ c2) (hr3 : Kd.string.C w A3 l3.length l3) (hc3 : l3.length ≤ c3) (hn : l1.length ≤ 2147483647 ∧ l2.length ≤ 2147483647 ∧ l3.length ≤ 2147483647) :
    Calls Try.prog 19 #[.int .i64 8, .slice A1 l1.length c1, .slice A2 l2.length c2, .slice A3 l3.length c3] w (TestPost w (sayB 8 l1 l2 l3)) := by
  obtain ⟨k1, h1⟩ := (both_ev l3 l1 (by omega) (by omega)).rounds
  obtain ⟨res, hres⟩ : ∃ r, r = sayB 8 l1 l2 l3 := ⟨_, rfl⟩
  rw [← hres]
  have hq0 := len_both l3 l1
  obtain ⟨rr, er⟩ : ∃ r, r = canon (l3.filter fun z => decide (z ∈ l1) = true) := ⟨_, rfl⟩
  rw [← er] at h1 hq0
  have hq2 : decide (0 < rr.length) = res := by rw [hres, hq0]; rfl
  have hq := Aside0.mk hq2
  clear hres er hq2 hq0
  have h1 := Aside0.mk h1
  have hr1 := Aside0.mk hr1
  have hc1 := Aside0.mk hc1
  have hr2 := Aside0.mk hr2
  have hc2 := Aside0.mk hc2
  have hr3 := Aside0.mk hr3
  have hc3 := Aside0.mk hc3
  clear hn
  go_enter Try.func19, Try.ntmps19
  go_wp2_with fail
  refine (spec_KeysBoth_string.calls k1 _ _ l3 _ _ l1 rr _ hr3.out hc3.out hr1.out hc1.out h1.out).mono ?_
  rintro e w1 ⟨v, rfl, hR, hB⟩
  obtain ⟨A, c, rfl, hc, hC⟩ := Kd.R_reads hR
  have hB := Aside0.mk hB
  clear hR hc hC
  go_wp2_with fail
  go_ret
  exact ⟨congrArg (fun b => Ending.returned (.bool b)) hq.out, hB.out⟩

set_option maxHeartbeats 600000 in
set_option maxRecDepth 100000 in
theorem say9 (A1 : Option Addr) (c1 : Nat) (l1 : List ByteArray) (A2 : Option Addr) (c2 : Nat) (l2 : List ByteArray) (A3 : Option Addr) (c3 : Nat) (l3 : List ByteArray) (w : World) (hr1 : Kd.string.C w A1 l1.length l1) (hc1 : l1.length ≤ c1) (hr2 : Kd.string.C w A2 l2.length l2) (hc2 : l2.length ≤ c2) (hr3 : Kd.string.C w A3 l3.length l3) (hc3 : l3.length ≤ c3) (hn : l1.length ≤ 2147483647 ∧ l2.length ≤ 2147483647 ∧ l3.length ≤ 2147483647) :
    Calls Try.prog 19 #[.int .i64 9, .slice A1 l1.length c1, .slice A2 l2.length c2, .slice A3 l3.length c3] w (TestPost w (sayB 9 l1 l2 l3)) := by
  obtain ⟨k1, h1⟩ := (less_ev l2 l1 (by omega) (by omega)).rounds
  obtain ⟨res, hres⟩ : ∃ r, r = sayB 9 l1 l2 l3 := ⟨_, rfl⟩
  rw [← hres]
  have hq0 := len_less l2 l1
  obtain ⟨rr, er⟩ : ∃ r, r = canon (l2.filter fun z => decide (z ∈ l1) = false) := ⟨_, rfl⟩
  rw [← er] at h1 hq0
  have hq2 : ((rr.length : Int) == 0) = res := by rw [hres, hq0]; rfl
  have hq := Aside0.mk hq2
  clear hres er hq2 hq0
  have h1 := Aside0.mk h1
  have hr1 := Aside0.mk hr1
  have hc1 := Aside0.mk hc1
  have hr2 := Aside0.mk hr2
  have hc2 := Aside0.mk hc2
  have hr3 := Aside0.mk hr3
  have hc3 := Aside0.mk hc3
  clear hn
  go_enter Try.func19, Try.ntmps19
  go_wp2_with fail
  refine (spec_KeysLess_string.calls k1 _ _ l2 _ _ l1 rr _ hr2.out hc2.out hr1.out hc1.out h1.out).mono ?_
  rintro e w1 ⟨v, rfl, hR, hB⟩
  obtain ⟨A, c, rfl, hc, hC⟩ := Kd.R_reads hR
  have hB := Aside0.mk hB
  clear hR hc hC
  go_wp2_with fail
  go_ret
  exact ⟨congrArg (fun b => Ending.returned (.bool b)) hq.out, hB.out⟩

set_option maxHeartbeats 600000 in
set_option maxRecDepth 100000 in
theorem say10 (A1 : Option Addr) (c1 : Nat) (l1 : List ByteArray) (A2 : Option Addr) (c2 : Nat) (l2 : List ByteArray) (A3 : Option Addr) (c3 : Nat) (l3 : List ByteArray) (w : World) (hr1 : Kd.string.C w A1 l1.length l1) (hc1 : l1.length ≤ c1) (hr2 : Kd.string.C w A2 l2.length l2) (hc2 : l2.length ≤ c2) (hr3 : Kd.string.C w A3 l3.length l3) (hc3 : l3.length ≤ c3) (hn : l1.length ≤ 2147483647 ∧ l2.length ≤ 2147483647 ∧ l3.length ≤ 2147483647) :
    Calls Try.prog 19 #[.int .i64 10, .slice A1 l1.length c1, .slice A2 l2.length c2, .slice A3 l3.length c3] w (TestPost w (sayB 10 l1 l2 l3)) := by
  obtain ⟨k1, h1⟩ := (keys_ev l1 (by omega)).rounds
  obtain ⟨k2, h2⟩ := (keys_ev l2 (by omega)).rounds
  obtain ⟨r1, e1⟩ : ∃ r, r = canon l1 := ⟨_, rfl⟩
  obtain ⟨r2, e2⟩ : ∃ r, r = canon l2 := ⟨_, rfl⟩
  have lr1 : r1.length ≤ 8589934592 := by rw [e1]; have := canon_length l1; omega
  obtain ⟨k3, h3⟩ := (same_ev r1 r2 lr1).rounds
  obtain ⟨res, hres⟩ : ∃ r, r = sayB 10 l1 l2 l3 := ⟨_, rfl⟩
  rw [← hres]
  have hq : decide (r1 = r2) = res := by rw [hres, e1, e2]; rfl
  rw [hq] at h3
  rw [← e1] at h1
  rw [← e2] at h2
  clear hq hres e1 e2 lr1 hn
  have h1 := Aside0.mk h1
  have h2 := Aside0.mk h2
  have h3 := Aside0.mk h3
  have hr1 := Aside0.mk hr1
  have hc1 := Aside0.mk hc1
  have hr2 := Aside0.mk hr2
  have hc2 := Aside0.mk hc2
  have hr3 := Aside0.mk hr3
  have hc3 := Aside0.mk hc3
  go_enter Try.func19, Try.ntmps19
  go_wp2_with fail
  refine (spec_Keys_string.calls k1 _ _ l1 r1 _ hr1.out hc1.out h1.out).mono ?_
  rintro e w1 ⟨v, rfl, hR, hB⟩
  obtain ⟨A, c, rfl, hc, hC⟩ := Kd.R_reads hR
  have hB := Aside0.mk hB
  have hca := Aside0.mk hc
  have hCa := Aside0.mk hC
  clear hR hc hC
  go_wp2_with fail
  refine (spec_Keys_string.calls k2 _ _ l2 r2 _ (Kd.C_below hr2.out hB.out) hc2.out h2.out).mono ?_
  rintro e w2 ⟨v, rfl, hR, hBn⟩
  obtain ⟨A', c', rfl, hc, hC⟩ := Kd.R_reads hR
  have hCa := Aside0.mk (Kd.C_below hCa.out hBn)
  have hcb := Aside0.mk hc
  have hCb := Aside0.mk hC
  have hB := Aside0.mk (below_then hB.out hB.out.size hBn)
  clear hR hc hC hBn
  go_wp2_with fail
  refine (spec_KeysSame_string.calls k3 _ _ r1 _ _ r2 res _ hCa.out hca.out hCb.out hcb.out h3.out).mono ?_
  rintro e w3 ⟨rfl, hd⟩
  have hBn := hd.below
  have hB := Aside0.mk (below_then hB.out hB.out.size hBn)
  clear hBn hd
  go_wp2_with fail
  go_ret
  exact ⟨rfl, hB.out⟩

set_option maxHeartbeats 600000 in
set_option maxRecDepth 100000 in
theorem say11 (A1 : Option Addr) (c1 : Nat) (l1 : List ByteArray) (A2 : Option Addr) (c2 : Nat) (l2 : List ByteArray) (A3 : Option Addr) (c3 : Nat) (l3 : List ByteArray) (w : World) (hr1 : Kd.string.C w A1 l1.length l1) (hc1 : l1.length ≤ c1) (hr2 : Kd.string.C w A2 l2.length l2) (hc2 : l2.length ≤ c2) (hr3 : Kd.string.C w A3 l3.length l3) (hc3 : l3.length ≤ c3) (hn : l1.length ≤ 2147483647 ∧ l2.length ≤ 2147483647 ∧ l3.length ≤ 2147483647) (hpos : 0 < l3.length) :
    Calls Try.prog 19 #[.int .i64 11, .slice A1 l1.length c1, .slice A2 l2.length c2, .slice A3 l3.length c3] w (TestPost w (sayB 11 l1 l2 l3)) := by
  obtain ⟨x, hx⟩ : ∃ x, x = l3.getD 0 ByteArray.empty := ⟨_, rfl⟩
  obtain ⟨k1, h1⟩ := (in_ev l1 x (by omega)).rounds
  obtain ⟨res, hres⟩ : ∃ r, r = sayB 11 l1 l2 l3 := ⟨_, rfl⟩
  rw [← hres]
  have hq : decide (x ∈ l1) = res := by rw [hres, hx]; rfl
  rw [hq] at h1
  obtain ⟨ad, e1, hcell⟩ := Kd.at_string hr3 (0 : Int) (Int.le_refl _) (by omega)
  have hx0 : rdOf ByteArray.empty l3 (0 : Int) = x := hx.symm
  rw [hx0] at hcell
  replace hcell : w.cell? (ad.add 0) = some (.string x) := hcell
  have hcell' : w.cell? ad = some (.string x) := by rw [← hcell]; cases ad; rfl
  subst e1
  clear hq hres hx hx0 hn
  have h1 := Aside0.mk h1
  have hr1 := Aside0.mk hr1
  have hc1 := Aside0.mk hc1
  have hr2 := Aside0.mk hr2
  have hc2 := Aside0.mk hc2
  have hr3 := Aside0.mk hr3
  have hc3 := Aside0.mk hc3
  go_enter Try.func19, Try.ntmps19
  go_wp2_with fail
  refine (spec_keyIn_string.calls k1 _ _ l1 x res _ (Kd.C_below hr1.out ?_) hc1.out h1.out).mono ?_
  · exact Below.refl _ _
  rintro e w1 ⟨rfl, hd⟩
  have hB := Aside0.mk hd.below
  clear hd
  go_wp2_with fail
  go_ret
  exact ⟨rfl, hB.out⟩

theorem say_any (k : Int) (A1 : Option Addr) (c1 : Nat) (l1 : List ByteArray) (A2 : Option Addr) (c2 : Nat) (l2 : List ByteArray) (A3 : Option Addr) (c3 : Nat) (l3 : List ByteArray) (w : World) (hr1 : Kd.string.C w A1 l1.length l1) (hc1 : l1.length ≤ c1) (hr2 : Kd.string.C w A2 l2.length l2) (hc2 : l2.length ≤ c2) (hr3 : Kd.string.C w A3 l3.length l3) (hc3 : l3.length ≤ c3) (hn : l1.length ≤ 2147483647 ∧ l2.length ≤ 2147483647 ∧ l3.length ≤ 2147483647) (hk : SayOk k l3) :
    Calls Try.prog 19 #[.int .i64 k, .slice A1 l1.length c1, .slice A2 l2.length c2, .slice A3 l3.length c3] w (TestPost w (sayB k l1 l2 l3)) := by
  rcases hk with rfl | rfl | rfl | rfl | ⟨rfl, hpos⟩
  · exact say7 A1 c1 l1 A2 c2 l2 A3 c3 l3 w hr1 hc1 hr2 hc2 hr3 hc3 hn
  · exact say8 A1 c1 l1 A2 c2 l2 A3 c3 l3 w hr1 hc1 hr2 hc2 hr3 hc3 hn
  · exact say9 A1 c1 l1 A2 c2 l2 A3 c3 l3 w hr1 hc1 hr2 hc2 hr3 hc3 hn
  · exact say10 A1 c1 l1 A2 c2 l2 A3 c3 l3 w hr1 hc1 hr2 hc2 hr3 hc3 hn
  · exact say11 A1 c1 l1 A2 c2 l2 A3 c3 l3 w hr1 hc1 hr2 hc2 hr3 hc3 hn hpos

theorem asks_any (k : Int) (A1 : Option Addr) (c1 : Nat) (l1 : List ByteArray) (A2 : Option Addr) (c2 : Nat) (l2 : List ByteArray) (A3 : Option Addr) (c3 : Nat) (l3 : List ByteArray) (w : World) (hr1 : Kd.string.C w A1 l1.length l1) (hc1 : l1.length ≤ c1) (hr2 : Kd.string.C w A2 l2.length l2) (hc2 : l2.length ≤ c2) (hr3 : Kd.string.C w A3 l3.length l3) (hc3 : l3.length ≤ c3) (hn : l1.length ≤ 2147483647 ∧ l2.length ≤ 2147483647 ∧ l3.length ≤ 2147483647) (hok1 : ∀ x ∈ l1, x.size ≤ maxLen) (hok2 : ∀ x ∈ l2, x.size ≤ maxLen) (hok3 : ∀ x ∈ l3, x.size ≤ maxLen) (hk : SayOk k l3) :
    Calls Try.prog 16 #[.int .i64 k, .slice A1 l1.length c1, .slice A2 l2.length c2, .slice A3 l3.length c3] w (OpsPost w (canon []) (canon l1) (canon l2) (sayB k l1 l2 l3)) := by
  rcases hk with rfl | rfl | rfl | rfl | ⟨rfl, hpos⟩
  · exact wrap_calls (ops7 A1 c1 l1 A2 c2 l2 A3 c3 l3 w hr1 hc1 hr2 hc2 hr3 hc3 hn hok1 hok2 hok3)
  · exact wrap_calls (ops8 A1 c1 l1 A2 c2 l2 A3 c3 l3 w hr1 hc1 hr2 hc2 hr3 hc3 hn hok1 hok2 hok3)
  · exact wrap_calls (ops9 A1 c1 l1 A2 c2 l2 A3 c3 l3 w hr1 hc1 hr2 hc2 hr3 hc3 hn hok1 hok2 hok3)
  · have h := wrap_calls (ops10 A1 c1 l1 A2 c2 l2 A3 c3 l3 w hr1 hc1 hr2 hc2 hr3 hc3 hn hok1 hok2 hok3)
    rw [same_iff] at h
    exact h
  · have h := wrap_calls (ops11 (l3.getD 0 ByteArray.empty) A1 c1 l1 A2 c2 l2 A3 c3 l3 w hr1 hc1 hr2 hc2 hr3 hc3 hn hok1 hok2 hok3 (by rw [List.getD_eq_getElem?_getD, List.getElem?_eq_getElem hpos]; rfl))
    exact h

set_option maxHeartbeats 2000000 in
set_option maxRecDepth 100000 in
theorem says_trueA (a0 : Int) (A1 : Option Addr) (c1 : Nat) (l1 : List ByteArray) (A2 : Option Addr) (c2 : Nat) (l2 : List ByteArray) (A3 : Option Addr) (c3 : Nat) (l3 : List ByteArray) (w : World) (hr1 : Kd.string.C w A1 l1.length l1) (hc1 : l1.length ≤ c1) (hr2 : Kd.string.C w A2 l2.length l2) (hc2 : l2.length ≤ c2) (hr3 : Kd.string.C w A3 l3.length l3) (hc3 : l3.length ≤ c3) (ha : 0 ≤ a0) (ha2 : a0 ≤ 255) (hok1 : ∀ x ∈ l1, x.size ≤ maxLen) (hok2 : ∀ x ∈ l2, x.size ≤ maxLen) (hok3 : ∀ x ∈ l3, x.size ≤ maxLen) (hz : ((l3.length : Int) == 0) = true) (h4 : (a0 % 5 == 4) = true) :
    Calls Try.prog 5 #[.int .u8 a0, .slice A1 l1.length c1, .slice A2 l2.length c2, .slice A3 l3.length c3] w (Post w) := by
  obtain ⟨k1, b1, f1, g1⟩ := fits_ev l1
  obtain ⟨k2, b2, f2, g2⟩ := fits_ev l2
  obtain ⟨k3, b3, f3, g3⟩ := fits_ev l3
  obtain ⟨sb, esb⟩ : ∃ r, r = sayB (7 + a0 % 5) l1 l2 [(⟨#[97]⟩ : ByteArray)] := ⟨_, rfl⟩
  obtain ⟨ra, era⟩ : ∃ r, r = canon l1 := ⟨_, rfl⟩
  obtain ⟨rb, erb⟩ : ∃ r, r = canon l2 := ⟨_, rfl⟩
  have hso : SayOk (7 + a0 % 5) [(⟨#[97]⟩ : ByteArray)] := (.inr (.inr (.inr (.inr ⟨by simp at h4; omega, by simp⟩))))
  have hsx := Aside0.mk hso
  have esx := Aside0.mk esb
  have erax := Aside0.mk era
  have erbx := Aside0.mk erb
  clear hso esb era erb
  have f1 := Aside0.mk f1
  have g1 := Aside0.mk g1
  have f2 := Aside0.mk f2
  have g2 := Aside0.mk g2
  have f3 := Aside0.mk f3
  have g3 := Aside0.mk g3
  have hr1 := Aside0.mk hr1
  have hc1 := Aside0.mk hc1
  have hr2 := Aside0.mk hr2
  have hc2 := Aside0.mk hc2
  have hr3 := Aside0.mk hr3
  have hc3 := Aside0.mk hc3
  have hok1 := Aside0.mk hok1
  have hok2 := Aside0.mk hok2
  have hok3 := Aside0.mk hok3
  go_enter Try.func5, Try.ntmps5
  go_wp2_with fail
  refine (laws_zzFits4.calls k1 _ _ l1 b1 _ hr1.out hc1.out f1.out).mono ?_
  rintro e w1 ⟨rfl, hd⟩
  have hB := Aside0.mk (hd.below)
  clear hd
  rcases b1 with _ | _
  · go_wp2_with fail
    go_ret
    exact ⟨rfl, hB.out⟩
  go_wp2_with fail
  refine (laws_zzFits4.calls k2 _ _ l2 b2 _ (Kd.C_below hr2.out hB.out) hc2.out f2.out).mono ?_
  rintro e w2 ⟨rfl, hd⟩
  have hB := Aside0.mk (below_then hB.out hB.out.size hd.below)
  clear hd
  rcases b2 with _ | _
  · go_wp2_with fail
    go_ret
    exact ⟨rfl, hB.out⟩
  go_wp2_with fail
  refine (laws_zzFits4.calls k3 _ _ l3 b3 _ (Kd.C_below hr3.out hB.out) hc3.out f3.out).mono ?_
  rintro e w3 ⟨rfl, hd⟩
  have hB := Aside0.mk (below_then hB.out hB.out.size hd.below)
  clear hd
  rcases b3 with _ | _
  · go_wp2_with fail
    go_ret
    exact ⟨rfl, hB.out⟩
  have hn := Aside0.mk (show l1.length ≤ 2147483647 ∧ l2.length ≤ 2147483647 ∧ l3.length ≤ 2147483647 from ⟨by have := g1.out; simpa using this, by have := g2.out; simpa using this, by have := g3.out; simpa using this⟩)
  clear g1 g2 g3 f1 f2 f3
  have lra := Aside0.mk (show ra.length ≤ 8589934592 by rw [erax.out]; have := canon_length l1; have := hn.out; omega)
  have lrb := Aside0.mk (show rb.length ≤ 8589934592 by rw [erbx.out]; have := canon_length l2; have := hn.out; omega)
  obtain ⟨q1, s1⟩ := (same_ev ra ra lra.out).rounds
  obtain ⟨q2, s2⟩ := (same_ev rb rb lrb.out).rounds
  obtain ⟨q3, s3⟩ := (keys_ev l1 (by have := hn.out; omega)).rounds
  obtain ⟨q4, s4⟩ := (keys_ev l2 (by have := hn.out; omega)).rounds
  simp only [decide_true] at s1 s2
  rw [← erax.out] at s3
  rw [← erbx.out] at s4
  have s1 := Aside0.mk s1
  have s2 := Aside0.mk s2
  have s3 := Aside0.mk s3
  have s4 := Aside0.mk s4
  have t1 := Aside0.mk (fun w' (g : Nat) h1 h2 h3 => asks_any (7 + a0 % 5) A1 c1 l1 A2 c2 l2 (some ⟨g, 0, none⟩) 1 [(⟨#[97]⟩ : ByteArray)] w' h1 hc1.out h2 hc2.out h3 (by simp) ⟨hn.out.1, hn.out.2.1, by simp⟩ hok1.out hok2.out (by intro x hx; rw [List.mem_singleton.1 hx]; decide) hsx.out)
  have t2 := Aside0.mk (fun w' h1 => asks_any 10 A1 c1 l1 A1 c1 l1 none 0 [] w' h1 hc1.out h1 hc1.out (C_nil _) (Nat.le_refl _) ⟨hn.out.1, hn.out.1, by simp⟩ hok1.out hok1.out (by simp) (.inr (.inr (.inr (.inl rfl)))))
  have t3 := Aside0.mk (fun w' (g : Nat) h1 h2 h3 => say_any (7 + a0 % 5) A1 c1 l1 A2 c2 l2 (some ⟨g, 0, none⟩) 1 [(⟨#[97]⟩ : ByteArray)] w' h1 hc1.out h2 hc2.out h3 (by simp) ⟨hn.out.1, hn.out.2.1, by simp⟩ hsx.out)
  rw [← esx.out, ← erax.out, ← erbx.out] at t1
  rw [← esx.out] at t3
  rw [show sayB 10 l1 l1 [] = true from decide_eq_true rfl, ← erax.out] at t2
  go_wp2_with fail
  have hCw := Aside0.mk (C_one (cell_new w3 (.string ⟨#[97]⟩) 9))
  have hBn := (Below.refl w3.heap.size w3).alloc (Nat.le_refl _) (.cells #[.string ⟨#[97]⟩] 9)
  have hB := Aside0.mk (below_then hB.out hB.out.size hBn)
  clear hBn
  refine (t1.out _ _ (Kd.C_below hr1.out hB.out) (Kd.C_below hr2.out hB.out) hCw.out).mono ?_
  rintro e w5 ⟨v0, v1, v2, rfl, _, hR1, hR2, hBn⟩
  obtain ⟨B1, d1, rfl, hd1, hD1⟩ := Kd.R_reads hR1
  obtain ⟨B2, d2, rfl, hd2, hD2⟩ := Kd.R_reads hR2
  clear hR1 hR2
  have hd1 := Aside0.mk hd1
  have hD1 := Aside0.mk hD1
  have hd2 := Aside0.mk hd2
  have hD2 := Aside0.mk hD2
  have hCw := Aside0.mk (Kd.C_below hCw.out hBn)
  have hB := Aside0.mk (below_then hB.out hB.out.size hBn)
  clear hBn
  go_wp2_with fail
  refine (t2.out _ (Kd.C_below hr1.out hB.out)).mono ?_
  rintro e w6 ⟨v3, v4, v5, rfl, _, _, _, hBn⟩
  have hCw := Aside0.mk (Kd.C_below hCw.out hBn)
  have hD1 := Aside0.mk (Kd.C_below hD1.out hBn)
  have hD2 := Aside0.mk (Kd.C_below hD2.out hBn)
  have hB := Aside0.mk (below_then hB.out hB.out.size hBn)
  clear hBn
  go_wp2_with fail
  refine (t3.out _ _ (Kd.C_below hr1.out hB.out) (Kd.C_below hr2.out hB.out) hCw.out).mono ?_
  rintro e w7 ⟨rfl, hBn⟩
  have hD1 := Aside0.mk (Kd.C_below hD1.out hBn)
  have hD2 := Aside0.mk (Kd.C_below hD2.out hBn)
  have hB := Aside0.mk (below_then hB.out hB.out.size hBn)
  clear hBn
  go_wp2_with fail
  refine (spec_Keys_string.calls q3 _ _ l1 ra _ (Kd.C_below hr1.out hB.out) hc1.out s3.out).mono ?_
  rintro e w8 ⟨v, rfl, hR, hBn⟩
  obtain ⟨B4, d4, rfl, hd4, hD4⟩ := Kd.R_reads hR
  clear hR
  have hd4 := Aside0.mk hd4
  have hD4 := Aside0.mk hD4
  have hD1 := Aside0.mk (Kd.C_below hD1.out hBn)
  have hD2 := Aside0.mk (Kd.C_below hD2.out hBn)
  have hB := Aside0.mk (below_then hB.out hB.out.size hBn)
  clear hBn
  go_wp2_with fail
  refine (spec_KeysSame_string.calls q1 _ _ ra _ _ ra true _ hD1.out hd1.out hD4.out hd4.out s1.out).mono ?_
  rintro e w9 ⟨rfl, hd⟩
  have hBn := hd.below
  have hD2 := Aside0.mk (Kd.C_below hD2.out hBn)
  have hB := Aside0.mk (below_then hB.out hB.out.size hBn)
  clear hBn hd
  go_wp2_with fail
  refine (spec_Keys_string.calls q4 _ _ l2 rb _ (Kd.C_below hr2.out hB.out) hc2.out s4.out).mono ?_
  rintro e w10 ⟨v, rfl, hR, hBn⟩
  obtain ⟨B5, d5, rfl, hd5, hD5⟩ := Kd.R_reads hR
  clear hR
  have hd5 := Aside0.mk hd5
  have hD5 := Aside0.mk hD5
  have hD2 := Aside0.mk (Kd.C_below hD2.out hBn)
  have hB := Aside0.mk (below_then hB.out hB.out.size hBn)
  clear hBn
  go_wp2_with fail
  refine (spec_KeysSame_string.calls q2 _ _ rb _ _ rb true _ hD2.out hd2.out hD5.out hd5.out s2.out).mono ?_
  rintro e w11 ⟨rfl, hd⟩
  have hBn := hd.below
  have hB := Aside0.mk (below_then hB.out hB.out.size hBn)
  clear hBn hd
  go_wp2_with fail
  go_ret
  exact ⟨rfl, hB.out⟩

set_option maxHeartbeats 2000000 in
set_option maxRecDepth 100000 in
theorem says_trueB (a0 : Int) (A1 : Option Addr) (c1 : Nat) (l1 : List ByteArray) (A2 : Option Addr) (c2 : Nat) (l2 : List ByteArray) (A3 : Option Addr) (c3 : Nat) (l3 : List ByteArray) (w : World) (hr1 : Kd.string.C w A1 l1.length l1) (hc1 : l1.length ≤ c1) (hr2 : Kd.string.C w A2 l2.length l2) (hc2 : l2.length ≤ c2) (hr3 : Kd.string.C w A3 l3.length l3) (hc3 : l3.length ≤ c3) (ha : 0 ≤ a0) (ha2 : a0 ≤ 255) (hok1 : ∀ x ∈ l1, x.size ≤ maxLen) (hok2 : ∀ x ∈ l2, x.size ≤ maxLen) (hok3 : ∀ x ∈ l3, x.size ≤ maxLen) (hz : ((l3.length : Int) == 0) = false) :
    Calls Try.prog 5 #[.int .u8 a0, .slice A1 l1.length c1, .slice A2 l2.length c2, .slice A3 l3.length c3] w (Post w) := by
  obtain ⟨k1, b1, f1, g1⟩ := fits_ev l1
  obtain ⟨k2, b2, f2, g2⟩ := fits_ev l2
  obtain ⟨k3, b3, f3, g3⟩ := fits_ev l3
  obtain ⟨sb, esb⟩ : ∃ r, r = sayB (7 + a0 % 5) l1 l2 l3 := ⟨_, rfl⟩
  obtain ⟨ra, era⟩ : ∃ r, r = canon l1 := ⟨_, rfl⟩
  obtain ⟨rb, erb⟩ : ∃ r, r = canon l2 := ⟨_, rfl⟩
  have hso : SayOk (7 + a0 % 5) l3 := (by unfold SayOk; simp at hz; have h1 := List.length_pos_iff.2 hz; have h2 : 0 ≤ a0 % 5 := (by omega); have h3 : a0 % 5 < 5 := (by omega); omega)
  have hsx := Aside0.mk hso
  have esx := Aside0.mk esb
  have erax := Aside0.mk era
  have erbx := Aside0.mk erb
  clear hso esb era erb
  have f1 := Aside0.mk f1
  have g1 := Aside0.mk g1
  have f2 := Aside0.mk f2
  have g2 := Aside0.mk g2
  have f3 := Aside0.mk f3
  have g3 := Aside0.mk g3
  have hr1 := Aside0.mk hr1
  have hc1 := Aside0.mk hc1
  have hr2 := Aside0.mk hr2
  have hc2 := Aside0.mk hc2
  have hr3 := Aside0.mk hr3
  have hc3 := Aside0.mk hc3
  have hok1 := Aside0.mk hok1
  have hok2 := Aside0.mk hok2
  have hok3 := Aside0.mk hok3
  go_enter Try.func5, Try.ntmps5
  go_wp2_with fail
  refine (laws_zzFits4.calls k1 _ _ l1 b1 _ hr1.out hc1.out f1.out).mono ?_
  rintro e w1 ⟨rfl, hd⟩
  have hB := Aside0.mk (hd.below)
  clear hd
  rcases b1 with _ | _
  · go_wp2_with fail
    go_ret
    exact ⟨rfl, hB.out⟩
  go_wp2_with fail
  refine (laws_zzFits4.calls k2 _ _ l2 b2 _ (Kd.C_below hr2.out hB.out) hc2.out f2.out).mono ?_
  rintro e w2 ⟨rfl, hd⟩
  have hB := Aside0.mk (below_then hB.out hB.out.size hd.below)
  clear hd
  rcases b2 with _ | _
  · go_wp2_with fail
    go_ret
    exact ⟨rfl, hB.out⟩
  go_wp2_with fail
  refine (laws_zzFits4.calls k3 _ _ l3 b3 _ (Kd.C_below hr3.out hB.out) hc3.out f3.out).mono ?_
  rintro e w3 ⟨rfl, hd⟩
  have hB := Aside0.mk (below_then hB.out hB.out.size hd.below)
  clear hd
  rcases b3 with _ | _
  · go_wp2_with fail
    go_ret
    exact ⟨rfl, hB.out⟩
  have hn := Aside0.mk (show l1.length ≤ 2147483647 ∧ l2.length ≤ 2147483647 ∧ l3.length ≤ 2147483647 from ⟨by have := g1.out; simpa using this, by have := g2.out; simpa using this, by have := g3.out; simpa using this⟩)
  clear g1 g2 g3 f1 f2 f3
  have lra := Aside0.mk (show ra.length ≤ 8589934592 by rw [erax.out]; have := canon_length l1; have := hn.out; omega)
  have lrb := Aside0.mk (show rb.length ≤ 8589934592 by rw [erbx.out]; have := canon_length l2; have := hn.out; omega)
  obtain ⟨q1, s1⟩ := (same_ev ra ra lra.out).rounds
  obtain ⟨q2, s2⟩ := (same_ev rb rb lrb.out).rounds
  obtain ⟨q3, s3⟩ := (keys_ev l1 (by have := hn.out; omega)).rounds
  obtain ⟨q4, s4⟩ := (keys_ev l2 (by have := hn.out; omega)).rounds
  simp only [decide_true] at s1 s2
  rw [← erax.out] at s3
  rw [← erbx.out] at s4
  have s1 := Aside0.mk s1
  have s2 := Aside0.mk s2
  have s3 := Aside0.mk s3
  have s4 := Aside0.mk s4
  have t1 := Aside0.mk (fun w' h1 h2 h3 => asks_any (7 + a0 % 5) A1 c1 l1 A2 c2 l2 A3 c3 l3 w' h1 hc1.out h2 hc2.out h3 hc3.out hn.out hok1.out hok2.out hok3.out hsx.out)
  have t2 := Aside0.mk (fun w' h1 => asks_any 10 A1 c1 l1 A1 c1 l1 none 0 [] w' h1 hc1.out h1 hc1.out (C_nil _) (Nat.le_refl _) ⟨hn.out.1, hn.out.1, by simp⟩ hok1.out hok1.out (by simp) (.inr (.inr (.inr (.inl rfl)))))
  have t3 := Aside0.mk (fun w' h1 h2 h3 => say_any (7 + a0 % 5) A1 c1 l1 A2 c2 l2 A3 c3 l3 w' h1 hc1.out h2 hc2.out h3 hc3.out hn.out hsx.out)
  rw [← esx.out, ← erax.out, ← erbx.out] at t1
  rw [← esx.out] at t3
  rw [show sayB 10 l1 l1 [] = true from decide_eq_true rfl, ← erax.out] at t2
  go_wp2_with fail
  refine (t1.out _ (Kd.C_below hr1.out hB.out) (Kd.C_below hr2.out hB.out) (Kd.C_below hr3.out hB.out)).mono ?_
  rintro e w5 ⟨v0, v1, v2, rfl, _, hR1, hR2, hBn⟩
  obtain ⟨B1, d1, rfl, hd1, hD1⟩ := Kd.R_reads hR1
  obtain ⟨B2, d2, rfl, hd2, hD2⟩ := Kd.R_reads hR2
  clear hR1 hR2
  have hd1 := Aside0.mk hd1
  have hD1 := Aside0.mk hD1
  have hd2 := Aside0.mk hd2
  have hD2 := Aside0.mk hD2
  have hB := Aside0.mk (below_then hB.out hB.out.size hBn)
  clear hBn
  go_wp2_with fail
  refine (t2.out _ (Kd.C_below hr1.out hB.out)).mono ?_
  rintro e w6 ⟨v3, v4, v5, rfl, _, _, _, hBn⟩
  have hD1 := Aside0.mk (Kd.C_below hD1.out hBn)
  have hD2 := Aside0.mk (Kd.C_below hD2.out hBn)
  have hB := Aside0.mk (below_then hB.out hB.out.size hBn)
  clear hBn
  go_wp2_with fail
  refine (t3.out _ (Kd.C_below hr1.out hB.out) (Kd.C_below hr2.out hB.out) (Kd.C_below hr3.out hB.out)).mono ?_
  rintro e w7 ⟨rfl, hBn⟩
  have hD1 := Aside0.mk (Kd.C_below hD1.out hBn)
  have hD2 := Aside0.mk (Kd.C_below hD2.out hBn)
  have hB := Aside0.mk (below_then hB.out hB.out.size hBn)
  clear hBn
  go_wp2_with fail
  refine (spec_Keys_string.calls q3 _ _ l1 ra _ (Kd.C_below hr1.out hB.out) hc1.out s3.out).mono ?_
  rintro e w8 ⟨v, rfl, hR, hBn⟩
  obtain ⟨B4, d4, rfl, hd4, hD4⟩ := Kd.R_reads hR
  clear hR
  have hd4 := Aside0.mk hd4
  have hD4 := Aside0.mk hD4
  have hD1 := Aside0.mk (Kd.C_below hD1.out hBn)
  have hD2 := Aside0.mk (Kd.C_below hD2.out hBn)
  have hB := Aside0.mk (below_then hB.out hB.out.size hBn)
  clear hBn
  go_wp2_with fail
  refine (spec_KeysSame_string.calls q1 _ _ ra _ _ ra true _ hD1.out hd1.out hD4.out hd4.out s1.out).mono ?_
  rintro e w9 ⟨rfl, hd⟩
  have hBn := hd.below
  have hD2 := Aside0.mk (Kd.C_below hD2.out hBn)
  have hB := Aside0.mk (below_then hB.out hB.out.size hBn)
  clear hBn hd
  go_wp2_with fail
  refine (spec_Keys_string.calls q4 _ _ l2 rb _ (Kd.C_below hr2.out hB.out) hc2.out s4.out).mono ?_
  rintro e w10 ⟨v, rfl, hR, hBn⟩
  obtain ⟨B5, d5, rfl, hd5, hD5⟩ := Kd.R_reads hR
  clear hR
  have hd5 := Aside0.mk hd5
  have hD5 := Aside0.mk hD5
  have hD2 := Aside0.mk (Kd.C_below hD2.out hBn)
  have hB := Aside0.mk (below_then hB.out hB.out.size hBn)
  clear hBn
  go_wp2_with fail
  refine (spec_KeysSame_string.calls q2 _ _ rb _ _ rb true _ hD2.out hd2.out hD5.out hd5.out s2.out).mono ?_
  rintro e w11 ⟨rfl, hd⟩
  have hBn := hd.below
  have hB := Aside0.mk (below_then hB.out hB.out.size hBn)
  clear hBn hd
  go_wp2_with fail
  go_ret
  exact ⟨rfl, hB.out⟩

set_option maxHeartbeats 2000000 in
set_option maxRecDepth 100000 in
theorem says_trueC (a0 : Int) (A1 : Option Addr) (c1 : Nat) (l1 : List ByteArray) (A2 : Option Addr) (c2 : Nat) (l2 : List ByteArray) (A3 : Option Addr) (c3 : Nat) (l3 : List ByteArray) (w : World) (hr1 : Kd.string.C w A1 l1.length l1) (hc1 : l1.length ≤ c1) (hr2 : Kd.string.C w A2 l2.length l2) (hc2 : l2.length ≤ c2) (hr3 : Kd.string.C w A3 l3.length l3) (hc3 : l3.length ≤ c3) (ha : 0 ≤ a0) (ha2 : a0 ≤ 255) (hok1 : ∀ x ∈ l1, x.size ≤ maxLen) (hok2 : ∀ x ∈ l2, x.size ≤ maxLen) (hok3 : ∀ x ∈ l3, x.size ≤ maxLen) (hz : ((l3.length : Int) == 0) = true) (h4 : (a0 % 5 == 4) = false) :
    Calls Try.prog 5 #[.int .u8 a0, .slice A1 l1.length c1, .slice A2 l2.length c2, .slice A3 l3.length c3] w (Post w) := by
  obtain ⟨k1, b1, f1, g1⟩ := fits_ev l1
  obtain ⟨k2, b2, f2, g2⟩ := fits_ev l2
  obtain ⟨k3, b3, f3, g3⟩ := fits_ev l3
  obtain ⟨sb, esb⟩ : ∃ r, r = sayB (7 + a0 % 5) l1 l2 l3 := ⟨_, rfl⟩
  obtain ⟨ra, era⟩ : ∃ r, r = canon l1 := ⟨_, rfl⟩
  obtain ⟨rb, erb⟩ : ∃ r, r = canon l2 := ⟨_, rfl⟩
  have hso : SayOk (7 + a0 % 5) l3 := (by unfold SayOk; simp at h4; have h2 : 0 ≤ a0 % 5 := (by omega); have h3 : a0 % 5 < 5 := (by omega); omega)
  have hsx := Aside0.mk hso
  have esx := Aside0.mk esb
  have erax := Aside0.mk era
  have erbx := Aside0.mk erb
  clear hso esb era erb
  have f1 := Aside0.mk f1
  have g1 := Aside0.mk g1
  have f2 := Aside0.mk f2
  have g2 := Aside0.mk g2
  have f3 := Aside0.mk f3
  have g3 := Aside0.mk g3
  have hr1 := Aside0.mk hr1
  have hc1 := Aside0.mk hc1
  have hr2 := Aside0.mk hr2
  have hc2 := Aside0.mk hc2
  have hr3 := Aside0.mk hr3
  have hc3 := Aside0.mk hc3
  have hok1 := Aside0.mk hok1
  have hok2 := Aside0.mk hok2
  have hok3 := Aside0.mk hok3
  go_enter Try.func5, Try.ntmps5
  go_wp2_with fail
  refine (laws_zzFits4.calls k1 _ _ l1 b1 _ hr1.out hc1.out f1.out).mono ?_
  rintro e w1 ⟨rfl, hd⟩
  have hB := Aside0.mk (hd.below)
  clear hd
  rcases b1 with _ | _
  · go_wp2_with fail
    go_ret
    exact ⟨rfl, hB.out⟩
  go_wp2_with fail
  refine (laws_zzFits4.calls k2 _ _ l2 b2 _ (Kd.C_below hr2.out hB.out) hc2.out f2.out).mono ?_
  rintro e w2 ⟨rfl, hd⟩
  have hB := Aside0.mk (below_then hB.out hB.out.size hd.below)
  clear hd
  rcases b2 with _ | _
  · go_wp2_with fail
    go_ret
    exact ⟨rfl, hB.out⟩
  go_wp2_with fail
  refine (laws_zzFits4.calls k3 _ _ l3 b3 _ (Kd.C_below hr3.out hB.out) hc3.out f3.out).mono ?_
  rintro e w3 ⟨rfl, hd⟩
  have hB := Aside0.mk (below_then hB.out hB.out.size hd.below)
  clear hd
  rcases b3 with _ | _
  · go_wp2_with fail
    go_ret
    exact ⟨rfl, hB.out⟩
  have hn := Aside0.mk (show l1.length ≤ 2147483647 ∧ l2.length ≤ 2147483647 ∧ l3.length ≤ 2147483647 from ⟨by have := g1.out; simpa using this, by have := g2.out; simpa using this, by have := g3.out; simpa using this⟩)
  clear g1 g2 g3 f1 f2 f3
  have lra := Aside0.mk (show ra.length ≤ 8589934592 by rw [erax.out]; have := canon_length l1; have := hn.out; omega)
  have lrb := Aside0.mk (show rb.length ≤ 8589934592 by rw [erbx.out]; have := canon_length l2; have := hn.out; omega)
  obtain ⟨q1, s1⟩ := (same_ev ra ra lra.out).rounds
  obtain ⟨q2, s2⟩ := (same_ev rb rb lrb.out).rounds
  obtain ⟨q3, s3⟩ := (keys_ev l1 (by have := hn.out; omega)).rounds
  obtain ⟨q4, s4⟩ := (keys_ev l2 (by have := hn.out; omega)).rounds
  simp only [decide_true] at s1 s2
  rw [← erax.out] at s3
  rw [← erbx.out] at s4
  have s1 := Aside0.mk s1
  have s2 := Aside0.mk s2
  have s3 := Aside0.mk s3
  have s4 := Aside0.mk s4
  have t1 := Aside0.mk (fun w' h1 h2 h3 => asks_any (7 + a0 % 5) A1 c1 l1 A2 c2 l2 A3 c3 l3 w' h1 hc1.out h2 hc2.out h3 hc3.out hn.out hok1.out hok2.out hok3.out hsx.out)
  have t2 := Aside0.mk (fun w' h1 => asks_any 10 A1 c1 l1 A1 c1 l1 none 0 [] w' h1 hc1.out h1 hc1.out (C_nil _) (Nat.le_refl _) ⟨hn.out.1, hn.out.1, by simp⟩ hok1.out hok1.out (by simp) (.inr (.inr (.inr (.inl rfl)))))
  have t3 := Aside0.mk (fun w' h1 h2 h3 => say_any (7 + a0 % 5) A1 c1 l1 A2 c2 l2 A3 c3 l3 w' h1 hc1.out h2 hc2.out h3 hc3.out hn.out hsx.out)
  rw [← esx.out, ← erax.out, ← erbx.out] at t1
  rw [← esx.out] at t3
  rw [show sayB 10 l1 l1 [] = true from decide_eq_true rfl, ← erax.out] at t2
  go_wp2_with fail
  refine (t1.out _ (Kd.C_below hr1.out hB.out) (Kd.C_below hr2.out hB.out) (Kd.C_below hr3.out hB.out)).mono ?_
  rintro e w5 ⟨v0, v1, v2, rfl, _, hR1, hR2, hBn⟩
  obtain ⟨B1, d1, rfl, hd1, hD1⟩ := Kd.R_reads hR1
  obtain ⟨B2, d2, rfl, hd2, hD2⟩ := Kd.R_reads hR2
  clear hR1 hR2
  have hd1 := Aside0.mk hd1
  have hD1 := Aside0.mk hD1
  have hd2 := Aside0.mk hd2
  have hD2 := Aside0.mk hD2
  have hB := Aside0.mk (below_then hB.out hB.out.size hBn)
  clear hBn
  go_wp2_with fail
  refine (t2.out _ (Kd.C_below hr1.out hB.out)).mono ?_
  rintro e w6 ⟨v3, v4, v5, rfl, _, _, _, hBn⟩
  have hD1 := Aside0.mk (Kd.C_below hD1.out hBn)
  have hD2 := Aside0.mk (Kd.C_below hD2.out hBn)
  have hB := Aside0.mk (below_then hB.out hB.out.size hBn)
  clear hBn
  go_wp2_with fail
  refine (t3.out _ (Kd.C_below hr1.out hB.out) (Kd.C_below hr2.out hB.out) (Kd.C_below hr3.out hB.out)).mono ?_
  rintro e w7 ⟨rfl, hBn⟩
  have hD1 := Aside0.mk (Kd.C_below hD1.out hBn)
  have hD2 := Aside0.mk (Kd.C_below hD2.out hBn)
  have hB := Aside0.mk (below_then hB.out hB.out.size hBn)
  clear hBn
  go_wp2_with fail
  refine (spec_Keys_string.calls q3 _ _ l1 ra _ (Kd.C_below hr1.out hB.out) hc1.out s3.out).mono ?_
  rintro e w8 ⟨v, rfl, hR, hBn⟩
  obtain ⟨B4, d4, rfl, hd4, hD4⟩ := Kd.R_reads hR
  clear hR
  have hd4 := Aside0.mk hd4
  have hD4 := Aside0.mk hD4
  have hD1 := Aside0.mk (Kd.C_below hD1.out hBn)
  have hD2 := Aside0.mk (Kd.C_below hD2.out hBn)
  have hB := Aside0.mk (below_then hB.out hB.out.size hBn)
  clear hBn
  go_wp2_with fail
  refine (spec_KeysSame_string.calls q1 _ _ ra _ _ ra true _ hD1.out hd1.out hD4.out hd4.out s1.out).mono ?_
  rintro e w9 ⟨rfl, hd⟩
  have hBn := hd.below
  have hD2 := Aside0.mk (Kd.C_below hD2.out hBn)
  have hB := Aside0.mk (below_then hB.out hB.out.size hBn)
  clear hBn hd
  go_wp2_with fail
  refine (spec_Keys_string.calls q4 _ _ l2 rb _ (Kd.C_below hr2.out hB.out) hc2.out s4.out).mono ?_
  rintro e w10 ⟨v, rfl, hR, hBn⟩
  obtain ⟨B5, d5, rfl, hd5, hD5⟩ := Kd.R_reads hR
  clear hR
  have hd5 := Aside0.mk hd5
  have hD5 := Aside0.mk hD5
  have hD2 := Aside0.mk (Kd.C_below hD2.out hBn)
  have hB := Aside0.mk (below_then hB.out hB.out.size hBn)
  clear hBn
  go_wp2_with fail
  refine (spec_KeysSame_string.calls q2 _ _ rb _ _ rb true _ hD2.out hd2.out hD5.out hd5.out s2.out).mono ?_
  rintro e w11 ⟨rfl, hd⟩
  have hBn := hd.below
  have hB := Aside0.mk (below_then hB.out hB.out.size hBn)
  clear hBn hd
  go_wp2_with fail
  go_ret
  exact ⟨rfl, hB.out⟩

def laws_FnStringSetSays.f (a0 : Int) (l1 l2 l3 : List ByteArray) : Option Bool := if 0 ≤ a0 ∧ a0 ≤ 255 ∧ (∀ x ∈ l1, x.size ≤ maxLen) ∧ (∀ x ∈ l2, x.size ≤ maxLen) ∧ (∀ x ∈ l3, x.size ≤ maxLen) then some true else none
theorem laws_FnStringSetSays.calls (a0 : Int) (A1 : Option Addr) (c1 : Nat) (l1 : List ByteArray) (A2 : Option Addr) (c2 : Nat) (l2 : List ByteArray) (A3 : Option Addr) (c3 : Nat) (l3 : List ByteArray) (r : Bool) (w : World) (hr1 : Kd.C Kd.string w A1 l1.length l1) (hc1 : l1.length ≤ c1) (hr2 : Kd.C Kd.string w A2 l2.length l2) (hc2 : l2.length ≤ c2) (hr3 : Kd.C Kd.string w A3 l3.length l3) (hc3 : l3.length ≤ c3) (h : laws_FnStringSetSays.f a0 l1 l2 l3 = some r) :
    Calls Try.prog 5 #[.int .u8 a0, .slice A1 l1.length c1, .slice A2 l2.length c2, .slice A3 l3.length c3] w fun e w' => e = .returned (.bool r) ∧ Below w.heap.size w w' := by
  unfold laws_FnStringSetSays.f at h
  split at h
  · rename_i hq
    obtain rfl : true = r := by simpa using h
    rcases hz : ((l3.length : Int) == 0) with _ | _
    · exact (says_trueB a0 A1 c1 l1 A2 c2 l2 A3 c3 l3 w hr1 hc1 hr2 hc2 hr3 hc3 hq.1 hq.2.1 hq.2.2.1 hq.2.2.2.1 hq.2.2.2.2 hz).mono (fun _ _ h => h)
    · rcases h4 : (a0 % 5 == 4) with _ | _
      · exact (says_trueC a0 A1 c1 l1 A2 c2 l2 A3 c3 l3 w hr1 hc1 hr2 hc2 hr3 hc3 hq.1 hq.2.1 hq.2.2.1 hq.2.2.2.1 hq.2.2.2.2 hz h4).mono (fun _ _ h => h)
      · exact (says_trueA a0 A1 c1 l1 A2 c2 l2 A3 c3 l3 w hr1 hc1 hr2 hc2 hr3 hc3 hq.1 hq.2.1 hq.2.2.1 hq.2.2.2.1 hq.2.2.2.2 hz h4).mono (fun _ _ h => h)
  · cases h
end Go.Proofs.Ytmipenoiodjbhaa.SayLaw
