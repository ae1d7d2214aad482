/- A text of this session: the functions of the law FnKindTo, by a program that calls the kit's print and lays this session's own contracts of single functions beside. -/
import Derived.Test.YtehgokciafpnbabXFnKindTox0
import Derived.Test.YtehgokciafpnbabXFnKindTox2
namespace Go.Proofs.Ytehgokciafpnbab.XFnKindTo
open Go.RowKit Go.Proofs.YtehgokciafpnbabW.PrintWords Go.Proofs.YtehgokciafpnbabW.PrintLast Go.Proofs.YtehgokciafpnbabW.PrintMore
attribute [local go_sem] max2_int min2_int max_two min_two max_three min_three max_four min_four   -- for this text's walks alone
set_option linter.unusedVariables false
set_option linter.unusedSimpArgs false

/-! ### schema_FromAPIVersionAndKind: function 23 -/
theorem parse_empty (s : ByteArray) (w : World) (h : ((s.size : Int) == 0) = true) :
    Calls Try.prog 30 #[.string s] w fun e w' => e = .returned (.tuple #[.agg #[.string ⟨#[]⟩, .string ⟨#[]⟩], .nilIface]) ∧ Below w.heap.size w w' := by
  go_enter Try.func30, Try.ntmps30
  go_wp2_with fail
  refine bodyPost_ret (results_ct rfl _ _ w.heap.size 62 #[.string ⟨#[]⟩, .string ⟨#[]⟩] (0, 0) _ rfl (by simpa using heap_alloc_new w _) Try.underlying62 rfl (by kernel_rfl)) rfl ?_
  exact ⟨rfl, (Below.refl _ _).alloc (Nat.le_refl _) _⟩
theorem parse_slash (s : ByteArray) (w : World) (h0 : ((s.size : Int) == 0) = false) (h : (s.toList == ([47] : List UInt8)) = true) :
    Calls Try.prog 30 #[.string s] w fun e w' => e = .returned (.tuple #[.agg #[.string ⟨#[]⟩, .string ⟨#[]⟩], .nilIface]) ∧ Below w.heap.size w w' := by
  go_enter Try.func30, Try.ntmps30
  go_wp2_with fail
  refine bodyPost_ret (results_ct rfl _ _ w.heap.size 62 #[.string ⟨#[]⟩, .string ⟨#[]⟩] (0, 0) _ rfl (by simpa using heap_alloc_new w _) Try.underlying62 rfl (by kernel_rfl)) rfl ?_
  exact ⟨rfl, (Below.refl _ _).alloc (Nat.le_refl _) _⟩
theorem parse_none (k : Nat) (s : ByteArray) (w : World) (h1 : ((s.size : Int) == 0) = false) (h2 : (s.toList == ([47] : List UInt8)) = false) (hc : Aside0 (schema_zzCount.f k s (⟨#[47]⟩ : ByteArray) = some 0)) :
    Calls Try.prog 30 #[.string s] w fun e w' => e = .returned (.tuple #[.agg #[.string ⟨#[]⟩, .string s], .nilIface]) ∧ Below w.heap.size w w' := by
  go_enter Try.func30, Try.ntmps30
  go_wp2_with fail
  (with_reducible refine (schema_zzCount.calls k _ _ _ _ hc.out).mono ?_)
  rintro e w1 ⟨rfl, ⟨m, rfl⟩⟩
  go_wp2_with fail
  refine bodyPost_ret (results_ct rfl _ _ w.heap.size 62 #[.string ⟨#[]⟩, .string s] (0, 0) _ rfl (blk_put (cs := #[.string ⟨#[]⟩, .string ⟨#[]⟩]) (blk_put (cs := #[.string ⟨#[]⟩, .string ⟨#[]⟩]) (blk_drewN (by simpa using heap_alloc_new w _) m) 0 _ rfl) 1 _ rfl) Try.underlying62 rfl (by kernel_rfl)) rfl ?_
  exact ⟨rfl, below_set (below_set (pw_below_drewN ((Below.refl _ _).alloc (Nat.le_refl _) _) _) (Nat.le_refl _)) (Nat.le_refl _)⟩
theorem parse_one (k : Nat) (s : ByteArray) (i : Int) (w : World) (h1 : ((s.size : Int) == 0) = false) (h2 : (s.toList == ([47] : List UInt8)) = false) (hc : Aside0 (schema_zzCount.f k s (⟨#[47]⟩ : ByteArray) = some 1))
    (hi : Aside0 (schema_zzIndex.f k s (⟨#[47]⟩ : ByteArray) = some i)) (i0 : 0 ≤ i) (i1 : i + 1 ≤ s.size) (hs : s.size ≤ 9223372036854775807) :
    Calls Try.prog 30 #[.string s] w fun e w' => e = .returned (.tuple #[.agg #[.string (s.extract 0 i.toNat), .string (s.extract (i + 1).toNat s.size)], .nilIface]) ∧ Below w.heap.size w w' := by
  go_enter Try.func30, Try.ntmps30
  go_wp2_with fail
  (with_reducible refine (schema_zzCount.calls k _ _ _ _ hc.out).mono ?_)
  rintro e w1 ⟨rfl, ⟨m, rfl⟩⟩
  go_wp2_with fail
  (with_reducible refine (schema_zzIndex.calls k _ _ _ _ hi.out).mono ?_)
  rintro e w1 ⟨rfl, ⟨m2, rfl⟩⟩
  go_wp2_with fail
  go_region
  go_wp2_with fail
  refine bodyPost_ret (results_ct rfl _ _ w.heap.size 62 #[.string (s.extract 0 i.toNat), .string (s.extract (i + 1).toNat s.size)] (0, 0) _ rfl (blk_put (cs := #[.string (s.extract 0 i.toNat), .string ⟨#[]⟩]) (blk_put (cs := #[.string ⟨#[]⟩, .string ⟨#[]⟩]) (blk_drewN (by simpa using heap_alloc_new w _) _) 0 _ rfl) 1 _ rfl) Try.underlying62 rfl (by kernel_rfl)) rfl ?_
  exact ⟨rfl, below_set (below_set (pw_below_drewN ((Below.refl _ _).alloc (Nat.le_refl _) _) _) (Nat.le_refl _)) (Nat.le_refl _)⟩
theorem parse_many (k : Nat) (s : ByteArray) (w : World) (n : Int) (h1 : ((s.size : Int) == 0) = false) (h2 : (s.toList == ([47] : List UInt8)) = false) (hc : Aside0 (schema_zzCount.f k s (⟨#[47]⟩ : ByteArray) = some n)) (hn0 : (n == 0) = false) (hn1 : (n == 1) = false) :
    Calls Try.prog 30 #[.string s] w fun e w' => ∃ t p, e = .returned (.tuple #[.agg #[.string ⟨#[]⟩, .string ⟨#[]⟩], .iface t p]) ∧ Below w.heap.size w w' := by
  go_enter Try.func30, Try.ntmps30
  go_wp2_with fail
  (with_reducible refine (schema_zzCount.calls k _ _ _ _ hc.out).mono ?_)
  rintro e w1 ⟨rfl, ⟨m, rfl⟩⟩
  go_wp2
  refine bodyPost_ret (results_ct rfl _ _ w.heap.size 62 #[.string ⟨#[]⟩, .string ⟨#[]⟩] (0, 0) _ rfl (blk_alloc (blk_put (cs := #[.string ⟨#[]⟩, .string ⟨#[]⟩]) (blk_put (cs := #[.string ⟨#[]⟩, .string ⟨#[]⟩]) (blk_drewN (by simpa using heap_alloc_new w _) m) 0 _ rfl) 1 _ rfl) _) Try.underlying62 rfl (by kernel_rfl)) rfl ?_
  exact ⟨_, _, rfl, below_alloc (below_set (below_set (pw_below_drewN ((Below.refl _ _).alloc (Nat.le_refl _) _) _) (Nat.le_refl _)) (Nat.le_refl _)) _⟩
/-- What ParseGroupVersion tells: the group, the version, and whether there is no error. -/
def gvp (k : Nat) (s : ByteArray) : Option (ByteArray × ByteArray × Bool) :=
  if (s.size : Int) = 0 then some (⟨#[]⟩, ⟨#[]⟩, true) else if s.toList = ([47] : List UInt8) then some (⟨#[]⟩, ⟨#[]⟩, true) else
    (schema_zzCount.f k s (⟨#[47]⟩ : ByteArray)).bind fun n => if n = 0 then some (⟨#[]⟩, s, true) else if n = 1 then
      (schema_zzIndex.f k s (⟨#[47]⟩ : ByteArray)).bind fun i => if 0 ≤ i ∧ i + 1 ≤ s.size ∧ s.size ≤ 9223372036854775807 then some (s.extract 0 i.toNat, s.extract (i + 1).toNat s.size, true) else none
    else some (⟨#[]⟩, ⟨#[]⟩, false)
def ErrV (ok : Bool) (v : Value) : Prop := if ok = true then v = .nilIface else ∃ t x, v = .iface t x
theorem gvp_mono (s : ByteArray) (k : Nat) : LeO (gvp k s) (gvp (k + 1) s) := by
  unfold gvp
  refine LeO.ite (LeO.refl _) (LeO.ite (LeO.refl _) (LeO.bind (schema_zzCount.mono _ _ _) (fun _ => LeO.ite (LeO.refl _) (LeO.ite (LeO.bind (schema_zzIndex.mono _ _ _) (fun _ => LeO.refl _)) (LeO.refl _)))))
theorem gvp_calls (k : Nat) (s : ByteArray) (g v : ByteArray) (ok : Bool) (w : World) (h : gvp k s = some (g, v, ok)) :
    Calls Try.prog 30 #[.string s] w fun e w' => ∃ ev, e = .returned (.tuple #[.agg #[.string g, .string v], ev]) ∧ ErrV ok ev ∧ Below w.heap.size w w' := by
  unfold gvp at h
  by_cases h0 : (s.size : Int) = 0
  · rw [if_pos h0] at h
    obtain ⟨rfl, rfl, rfl⟩ : (⟨#[]⟩ : ByteArray) = g ∧ (⟨#[]⟩ : ByteArray) = v ∧ true = ok := by simpa using h
    exact (parse_empty s w (by simpa using h0)).mono fun e w' ⟨he, hb⟩ => ⟨_, he, rfl, hb⟩
  · rw [if_neg h0] at h
    have b0 : ((s.size : Int) == 0) = false := beq_eq_false_iff_ne.mpr h0
    by_cases h1 : s.toList = ([47] : List UInt8)
    · rw [if_pos h1] at h
      obtain ⟨rfl, rfl, rfl⟩ : (⟨#[]⟩ : ByteArray) = g ∧ (⟨#[]⟩ : ByteArray) = v ∧ true = ok := by simpa using h
      exact (parse_slash s w b0 (beq_iff_eq.mpr h1)).mono fun e w' ⟨he, hb⟩ => ⟨_, he, rfl, hb⟩
    · rw [if_neg h1] at h
      have b1 : (s.toList == ([47] : List UInt8)) = false := beq_eq_false_iff_ne.mpr h1
      obtain ⟨n, hn, h⟩ := Option.bind_eq_some_iff.mp h
      by_cases n0 : n = 0
      · rw [if_pos n0] at h
        subst n0
        obtain ⟨rfl, rfl, rfl⟩ : (⟨#[]⟩ : ByteArray) = g ∧ s = v ∧ true = ok := by simpa using h
        exact (parse_none k s w b0 b1 ⟨hn⟩).mono fun e w' ⟨he, hb⟩ => ⟨_, he, rfl, hb⟩
      · rw [if_neg n0] at h
        by_cases n1 : n = 1
        · rw [if_pos n1] at h
          subst n1
          obtain ⟨i, hi, h⟩ := Option.bind_eq_some_iff.mp h
          by_cases hc : 0 ≤ i ∧ i + 1 ≤ s.size ∧ s.size ≤ 9223372036854775807
          · rw [if_pos hc] at h
            obtain ⟨rfl, rfl, rfl⟩ : s.extract 0 i.toNat = g ∧ s.extract (i + 1).toNat s.size = v ∧ true = ok := by simpa using h
            exact (parse_one k s i w b0 b1 ⟨hn⟩ ⟨hi⟩ hc.1 hc.2.1 hc.2.2).mono fun e w' ⟨he, hb⟩ => ⟨_, he, rfl, hb⟩
          · rw [if_neg hc] at h; cases h
        · rw [if_neg n1] at h
          obtain ⟨rfl, rfl, rfl⟩ : (⟨#[]⟩ : ByteArray) = g ∧ (⟨#[]⟩ : ByteArray) = v ∧ false = ok := by simpa using h
          exact (parse_many k s w n b0 b1 ⟨hn⟩ (beq_eq_false_iff_ne.mpr n0) (beq_eq_false_iff_ne.mpr n1)).mono fun e w' ⟨t, p, he, hb⟩ => ⟨_, he, ⟨t, p, rfl⟩, hb⟩

def schema_FromAPIVersionAndKind.f (k : Nat) (a0 a1 : ByteArray) : Option (ByteArray × ByteArray × ByteArray) := (gvp k a0).bind fun t => if t.2.2 = true then some (t.1, t.2.1, a1) else some ((⟨#[]⟩ : ByteArray), (⟨#[]⟩ : ByteArray), a1)
theorem schema_FromAPIVersionAndKind.mono : ∀ a0 a1 k, LeO (schema_FromAPIVersionAndKind.f k a0 a1) (schema_FromAPIVersionAndKind.f (k + 1) a0 a1) := by
  intro a0 a1 k
  unfold schema_FromAPIVersionAndKind.f
  exact LeO.bind (gvp_mono _ _) (fun _ => LeO.refl _)
theorem schema_FromAPIVersionAndKind.walk_ (k : Nat) (s kd g v : ByteArray) (ok : Bool) (w : World) (h : Aside0 (gvp k s = some (g, v, ok))) :
    Calls Try.prog 23 #[.string s, .string kd] w fun e w' => e = .returned (.agg #[.string (if ok = true then g else ⟨#[]⟩), .string (if ok = true then v else ⟨#[]⟩), .string kd]) ∧ Below w.heap.size w w' := by
  cases ok with
  | true =>
    go_enter Try.func23, Try.ntmps23
    go_wp2_with fail
    (with_reducible refine (gvp_calls k _ _ _ _ _ h.out).mono ?_)
    rintro e w1 ⟨ev, rfl, hE, hb⟩
    obtain rfl : ev = .nilIface := hE
    have hz := hb.size
    simp at hz
    have hy : w.heap.size < w1.heap.size := by omega
    have R0 : w1.heap[w.heap.size]? = some (.cells #[.string ⟨#[]⟩, .string ⟨#[]⟩, .string ⟨#[]⟩] 41 (0, 0)) := blk_below (by simpa using heap_alloc_new w (.cells #[.string ⟨#[]⟩, .string ⟨#[]⟩, .string ⟨#[]⟩] 41)) hb
    have HB : Below w.heap.size w w1 := (below_alloc (Below.refl _ _) _).trans (hb.mono (by simp))
    have f0 : w1.cell? ⟨w.heap.size, 0, none⟩ = some (.string ⟨#[]⟩) := (blk_cell R0 0).trans rfl
    have f1 : w1.cell? ⟨w.heap.size, 1, none⟩ = some (.string ⟨#[]⟩) := (blk_cell R0 1).trans rfl
    have f2 : w1.cell? ⟨w.heap.size, 2, none⟩ = some (.string ⟨#[]⟩) := (blk_cell R0 2).trans rfl
    have f3 := blk_frozen R0 0
    have f4 := blk_frozen R0 1
    have f5 := blk_frozen R0 2
    have HR := Aside0.mk R0
    have HB1 := Aside0.mk HB
    clear hb hz R0 HB
    go_wp2_with fail
    refine bodyPost_ret (results_cell_row rfl _ _ w.heap.size 41 #[.string g, .string v, .string kd] (0, 0) _ rfl (blk_alloc (blk_put (cs := #[.string g, .string v, .string ⟨#[]⟩]) (blk_put (cs := #[.string g, .string ⟨#[]⟩, .string ⟨#[]⟩]) (blk_put (cs := #[.string ⟨#[]⟩, .string ⟨#[]⟩, .string ⟨#[]⟩]) (HR.out) 0 _ rfl) 1 _ rfl) 2 _ rfl) _) Try.underlying41 rfl (by kernel_rfl)) rfl ?_
    exact ⟨rfl, below_alloc (below_set (below_set (below_set HB1.out (Nat.le_refl _)) (Nat.le_refl _)) (Nat.le_refl _)) _⟩
  | false =>
    go_enter Try.func23, Try.ntmps23
    go_wp2_with fail
    (with_reducible refine (gvp_calls k _ _ _ _ _ h.out).mono ?_)
    rintro e w1 ⟨ev, rfl, ⟨t, x, rfl⟩, hb⟩
    have hz := hb.size
    simp at hz
    have hy : w.heap.size < w1.heap.size := by omega
    have R0 : w1.heap[w.heap.size]? = some (.cells #[.string ⟨#[]⟩, .string ⟨#[]⟩, .string ⟨#[]⟩] 41 (0, 0)) := blk_below (by simpa using heap_alloc_new w (.cells #[.string ⟨#[]⟩, .string ⟨#[]⟩, .string ⟨#[]⟩] 41)) hb
    have HB : Below w.heap.size w w1 := (below_alloc (Below.refl _ _) _).trans (hb.mono (by simp))
    have f0 : w1.cell? ⟨w.heap.size, 0, none⟩ = some (.string ⟨#[]⟩) := (blk_cell R0 0).trans rfl
    have f1 : w1.cell? ⟨w.heap.size, 1, none⟩ = some (.string ⟨#[]⟩) := (blk_cell R0 1).trans rfl
    have f2 : w1.cell? ⟨w.heap.size, 2, none⟩ = some (.string ⟨#[]⟩) := (blk_cell R0 2).trans rfl
    have f3 := blk_frozen R0 0
    have f4 := blk_frozen R0 1
    have f5 := blk_frozen R0 2
    have HR := Aside0.mk R0
    have HB1 := Aside0.mk HB
    clear hb hz R0 HB
    go_wp2_with fail
    refine bodyPost_ret (results_cell_row rfl _ _ w.heap.size 41 #[.string ⟨#[]⟩, .string ⟨#[]⟩, .string kd] (0, 0) _ rfl (blk_alloc (blk_put (cs := #[.string ⟨#[]⟩, .string ⟨#[]⟩, .string ⟨#[]⟩]) (blk_put (cs := #[.string ⟨#[]⟩, .string ⟨#[]⟩, .string ⟨#[]⟩]) (blk_put (cs := #[.string ⟨#[]⟩, .string ⟨#[]⟩, .string ⟨#[]⟩]) (HR.out) 0 _ rfl) 1 _ rfl) 2 _ rfl) _) Try.underlying41 rfl (by kernel_rfl)) rfl ?_
    exact ⟨rfl, below_alloc (below_set (below_set (below_set HB1.out (Nat.le_refl _)) (Nat.le_refl _)) (Nat.le_refl _)) _⟩
theorem schema_FromAPIVersionAndKind.calls (k : Nat) (a0 a1 : ByteArray) (r1 r2 r3 : ByteArray) (w : World) (h : schema_FromAPIVersionAndKind.f k a0 a1 = some (r1, r2, r3)) :
    Calls Try.prog 23 #[.string a0, .string a1] w fun e w' => e = .returned (.agg #[.string r1, .string r2, .string r3]) ∧ Below w.heap.size w w' := by
  unfold schema_FromAPIVersionAndKind.f at h
  obtain ⟨⟨t1, t2, t3⟩, ht, he⟩ := Option.bind_eq_some_iff.1 h
  cases t3 with
  | true =>
    simp only [if_true, Option.some.injEq, Prod.mk.injEq] at he
    obtain ⟨rfl, rfl, rfl⟩ := he
    exact schema_FromAPIVersionAndKind.walk_ k _ _ _ _ _ w ⟨ht⟩
  | false =>
    simp only [Bool.false_eq_true, if_false, Option.some.injEq, Prod.mk.injEq] at he
    obtain ⟨rfl, rfl, rfl⟩ := he
    exact schema_FromAPIVersionAndKind.walk_ k _ _ _ _ _ w ⟨ht⟩

/-! ### impl_KindOf: function 13 -/
def impl_KindOf.f (k : Nat) (a0 : ByteArray) (a1 : ByteArray) : Option (ByteArray × ByteArray × ByteArray) := (schema_FromAPIVersionAndKind.f k a0 a1).bind fun bt125 => (some (bt125.1, bt125.2.1, bt125.2.2))
theorem impl_KindOf.mono : ∀ a0 a1 k, LeO (impl_KindOf.f k a0 a1) (impl_KindOf.f (k + 1) a0 a1) := by
  intro a0 a1 k
  unfold impl_KindOf.f
  repeat' first
      | (with_reducible exact schema_FromAPIVersionAndKind.mono _ _ _)
      | (with_reducible exact LeO.refl _)
      | (with_reducible exact LeO.none _)
      | (with_reducible refine LeO.ite ?_ ?_)
      | (with_reducible refine LeO.bind ?_ (fun _ => ?_))
      | exact schema_FromAPIVersionAndKind.mono _ _ _
      | exact LeO.none _
      | refine LeO.ite ?_ ?_
      | refine LeO.bind ?_ (fun _ => ?_)
set_option maxHeartbeats 8000000 in
set_option maxRecDepth 100000 in
theorem impl_KindOf.calls (k : Nat) (a0 : ByteArray) (a1 : ByteArray) (r1 : ByteArray) (r2 : ByteArray) (r3 : ByteArray) (w : World) (h : impl_KindOf.f k a0 a1 = some (r1, r2, r3)) :
    Calls Try.prog 13 #[.string a0, .string a1] w fun e w' => e = .returned (.agg #[.string r1, .string r2, .string r3]) ∧ Below w.heap.size w w' := by
  have hu29 := Try.underlying29
  have hu41 := Try.underlying41
  have HB := Aside0.mk (Below.refl w.heap.size w)
  have H : ((schema_FromAPIVersionAndKind.f k a0 a1).bind fun bt125 => (some (bt125.1, bt125.2.1, bt125.2.2))) = some (r1, r2, r3) := h
  clear h
  replace H := Option.bind_eq_some_iff.mp H
  obtain ⟨⟨t125, t126, t127⟩, A30, H⟩ := H
  replace H : (some (t125, t126, t127)) = some (r1, r2, r3) := H
  have A3 := Aside0.mk A30
  clear A30
  simp only [Option.some.injEq, Prod.mk.injEq] at H
  obtain ⟨rfl, rfl, rfl⟩ := H
  go_enter Try.func13, Try.ntmps13
  go_wp2_with (first | ((with_reducible refine gate_dst (N := 4) rfl ?_); refine box_event ?hg (N := 4) ?hd (cs := #[.string (⟨#[]⟩ : ByteArray), .string (⟨#[]⟩ : ByteArray), .string (⟨#[]⟩ : ByteArray)]) (t := 29) ?hr ?_; (case hd => rfl); (case hg => rfl); (case hr => first | (go_simp; done) | (go_simp; rfl)); intro gb124 hg w4 hbox hb; have n0_ := Aside0.mk (below_step (by repeat (first | (with_reducible first | exact HB.out | apply below_alloc | apply pw_below_drewN | apply below_drew1) | exact HB.out)) hb); have n1_ := Aside0.mk (hbox); have n2_ := Aside0.mk ((by rw [hg]; exact (below_size (by repeat (first | (with_reducible first | exact HB.out | apply below_alloc | apply pw_below_drewN | apply below_drew1) | exact HB.out))) : w.heap.size ≤ gb124)); have n3_ := Aside0.mk ((by rw [hg]; exact (below_size (by repeat (first | (with_reducible first | exact HB.out | apply below_alloc | apply pw_below_drewN | apply below_drew1) | exact HB.out))) : w.heap.size ≤ gb124)); clear HB; have HB := n0_; have BK124 := n1_; have GW124 := n2_; have GE124 := n3_; clear n0_ n1_ n2_ n3_; clear hb hbox hg) | ((with_reducible refine gate_callee (f := 23) rfl ?_); refine goesL_ (some 8) rfl rfl Try.func23 (by kernel_rfl) rfl #[.string a0, .string a1] rfl (by (try simp only [List.map_toArray, List.map_cons, List.map_nil]); first | done | rfl | (simp only [List.length_drop, List.length_take]; rfl)) ?_; (with_reducible refine (schema_FromAPIVersionAndKind.calls k a0 a1 t125 t126 t127 _ A3.out).mono ?_); rintro e w5 ⟨rfl, hb⟩; refine ⟨_, rfl, ?_⟩; have n0_ := Aside0.mk (blk_below (g := gb124) (o := .cells #[.string (⟨#[]⟩ : ByteArray), .string (⟨#[]⟩ : ByteArray), .string (⟨#[]⟩ : ByteArray)] 29 (0, 0)) (by (with_reducible repeat (first | refine blk_drewN ?_ _ | refine blk_drew ?_ | refine blk_alloc ?_ _)); exact BK124.out) hb); have n1_ := Aside0.mk (below_step (by repeat (first | (with_reducible first | exact HB.out | apply below_alloc | apply pw_below_drewN | apply below_drew1 | refine below_set ?_ GE124.out) | exact HB.out)) hb); clear BK124; clear HB; have BK124 := n0_; have HB := n1_; clear n0_ n1_; (try clear hb); (try clear hb2); (try clear hk); (try clear hi)) | ((with_reducible refine gate_dst (N := 5) rfl ?_); refine box_event ?hg (N := 5) ?hd (cs := #[.string (⟨#[]⟩ : ByteArray), .string (⟨#[]⟩ : ByteArray), .string (⟨#[]⟩ : ByteArray)]) (t := 41) ?hr ?_; (case hd => rfl); (case hg => rfl); (case hr => first | (go_simp; done) | (go_simp; rfl)); intro gb128 hg w6 hbox hb; have n0_ := Aside0.mk (blk_below (g := gb124) (o := .cells #[.string (⟨#[]⟩ : ByteArray), .string (⟨#[]⟩ : ByteArray), .string (⟨#[]⟩ : ByteArray)] 29 (0, 0)) (by (with_reducible repeat (first | refine blk_drewN ?_ _ | refine blk_drew ?_ | refine blk_alloc ?_ _)); exact BK124.out) hb); have n1_ := Aside0.mk (below_step (by repeat (first | (with_reducible first | exact HB.out | apply below_alloc | apply pw_below_drewN | apply below_drew1 | refine below_set ?_ GE124.out) | exact HB.out)) hb); have n2_ := Aside0.mk (hbox); have n3_ := Aside0.mk ((by rw [hg]; exact (below_size (by repeat (first | (with_reducible first | exact HB.out | apply below_alloc | apply pw_below_drewN | apply below_drew1 | refine below_set ?_ GE124.out) | exact HB.out))) : w.heap.size ≤ gb128)); have n4_ := Aside0.mk ((by rw [hg]; exact (below_size (by repeat (first | (with_reducible first | exact HB.out | apply below_alloc | apply pw_below_drewN | apply below_drew1 | refine below_set ?_ GE124.out) | exact HB.out))) : w.heap.size ≤ gb128)); have n5_ := Aside0.mk ((by rw [hg]; exact Nat.ne_of_lt (blk_lt (g := gb124) (o := .cells #[.string (⟨#[]⟩ : ByteArray), .string (⟨#[]⟩ : ByteArray), .string (⟨#[]⟩ : ByteArray)] 29 (0, 0)) (by (with_reducible repeat (first | refine blk_drewN ?_ _ | refine blk_drew ?_ | refine blk_alloc ?_ _)); exact BK124.out)) : gb124 ≠ gb128)); have n6_ := Aside0.mk ((by rw [hg]; exact Nat.ne_of_gt (blk_lt (g := gb124) (o := .cells #[.string (⟨#[]⟩ : ByteArray), .string (⟨#[]⟩ : ByteArray), .string (⟨#[]⟩ : ByteArray)] 29 (0, 0)) (by (with_reducible repeat (first | refine blk_drewN ?_ _ | refine blk_drew ?_ | refine blk_alloc ?_ _)); exact BK124.out)) : gb128 ≠ gb124)); clear BK124; clear HB; have BK124 := n0_; have HB := n1_; have BK128 := n2_; have GW128 := n3_; have GE128 := n4_; have NB124_128 := n5_; have NB128_124 := n6_; clear n0_ n1_ n2_ n3_ n4_ n5_ n6_; clear hb hbox hg; have hnb7 := NB128_124.out; have hnc7 := NB124_128.out; have hcz8_0 : w6.cell? ⟨gb128, 0, none⟩ = some (.string (⟨#[]⟩ : ByteArray)) := (blk_cell BK128.out 0).trans rfl; have hcz8_1 : w6.cell? ⟨gb128, 1, none⟩ = some (.string (⟨#[]⟩ : ByteArray)) := (blk_cell BK128.out 1).trans rfl; have hcz8_2 : w6.cell? ⟨gb128, 2, none⟩ = some (.string (⟨#[]⟩ : ByteArray)) := (blk_cell BK128.out 2).trans rfl; have hfz8_0 := blk_frozen BK128.out 0; have hfz8_1 := blk_frozen BK128.out 1; have hfz8_2 := blk_frozen BK128.out 2; have hcz9_0 : w6.cell? ⟨gb124, 0, none⟩ = some (.string (⟨#[]⟩ : ByteArray)) := (blk_cell BK124.out 0).trans rfl; have hcz9_1 : w6.cell? ⟨gb124, 1, none⟩ = some (.string (⟨#[]⟩ : ByteArray)) := (blk_cell BK124.out 1).trans rfl; have hcz9_2 : w6.cell? ⟨gb124, 2, none⟩ = some (.string (⟨#[]⟩ : ByteArray)) := (blk_cell BK124.out 2).trans rfl; have hfz9_0 := blk_frozen BK124.out 0; have hfz9_1 := blk_frozen BK124.out 1; have hfz9_2 := blk_frozen BK124.out 2))
  refine bodyPost_ret (results_cell_row rfl _ _ gb124 29 #[.string t125, .string t126, .string t127] (0, 0) _ rfl (by (with_reducible repeat (first | refine blk_drewN ?_ _ | refine blk_drew ?_ | refine blk_alloc ?_ _)); refine blk_put (cs := #[.string t125, .string t126, .string (⟨#[]⟩ : ByteArray)]) ?_ 2 _ rfl; (with_reducible repeat (first | refine blk_drewN ?_ _ | refine blk_drew ?_ | refine blk_alloc ?_ _)); refine blk_put (cs := #[.string t125, .string (⟨#[]⟩ : ByteArray), .string (⟨#[]⟩ : ByteArray)]) ?_ 1 _ rfl; (with_reducible repeat (first | refine blk_drewN ?_ _ | refine blk_drew ?_ | refine blk_alloc ?_ _)); refine blk_put (cs := #[.string (⟨#[]⟩ : ByteArray), .string (⟨#[]⟩ : ByteArray), .string (⟨#[]⟩ : ByteArray)]) ?_ 0 _ rfl; (with_reducible repeat (first | refine blk_drewN ?_ _ | refine blk_drew ?_ | refine blk_alloc ?_ _)); refine blk_far ?_ NB124_128.out _; (with_reducible repeat (first | refine blk_drewN ?_ _ | refine blk_drew ?_ | refine blk_alloc ?_ _)); refine blk_far ?_ NB124_128.out _; (with_reducible repeat (first | refine blk_drewN ?_ _ | refine blk_drew ?_ | refine blk_alloc ?_ _)); refine blk_far ?_ NB124_128.out _; (with_reducible repeat (first | refine blk_drewN ?_ _ | refine blk_drew ?_ | refine blk_alloc ?_ _)); exact BK124.out) Try.underlying29 rfl (by kernel_rfl)) rfl ?_
  exact ⟨by first | rfl | (simp [errW_none, errW_some] <;> rfl) | (simp [*, errW_none, errW_some] <;> rfl), by repeat (first | (with_reducible first | exact HB.out | apply below_alloc | apply pw_below_drewN | apply below_drew1 | refine below_set ?_ GE124.out | refine below_set ?_ GE128.out) | exact HB.out)⟩

end Go.Proofs.Ytehgokciafpnbab.XFnKindTo
