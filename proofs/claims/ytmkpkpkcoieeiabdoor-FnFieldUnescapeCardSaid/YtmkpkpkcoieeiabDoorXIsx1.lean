/- A text of this session: the functions of the law FnIntStrBytes, by a program that calls the kit's print and lays this session's own contracts of single functions beside. -/
import Derived.Test.YtmkpkpkcoieeiabDoorXIsx0
namespace Go.Proofs.YtmkpkpkcoieeiabDoor.XIs
open Go.RowKit Go.Proofs.YtmkpkpkcoieeiabDoorW.PrintWords Go.Proofs.YtmkpkpkcoieeiabDoorW.PrintLast Go.Proofs.YtmkpkpkcoieeiabDoorW.PrintMore
attribute [local go_sem] max2_int min2_int max_two min_two max_three min_three max_four min_four   -- for this text's walks alone
set_option linter.unusedVariables false
set_option linter.unusedSimpArgs false

/-! ### laws_zzFits5: function 14 -/
def laws_zzFits5.f (a0_0 : Int) (a0_1 : Int) (a0_2 : ByteArray) : Option (Bool) := if (a0_2.size : Int) > 2147483647 then (some false) else (some true)
set_option maxHeartbeats 8000000 in
set_option maxRecDepth 100000 in
theorem laws_zzFits5.calls (a0_0 : Int) (a0_1 : Int) (a0_2 : ByteArray) (r : Bool) (w : World) (h : laws_zzFits5.f a0_0 a0_1 a0_2 = some r) :
    Calls Tryd.prog 14 #[.agg #[.int .i64 a0_0, .int .i32 a0_1, .string a0_2]] w fun e w' => e = .returned (.bool r) ∧ Below w.heap.size w w' := by
  have hu34 := Tryd.underlying34
  have HB := Aside0.mk (Below.refl w.heap.size w)
  have H : (if (a0_2.size : Int) > 2147483647 then (some false) else (some true)) = some r := h
  clear h
  by_cases c2 : (a0_2.size : Int) > 2147483647
  · rw [if_pos c2] at H
    have c2b0 : decide (2147483647 < (a0_2.size : Int)) = true := decide_eq_true c2
    have c2b1 : decide (2147483647 < a0_2.size) = true := decide_eq_true (by omega)
    clear c2
    obtain rfl := Option.some.inj H
    go_enter Tryd.func14, Tryd.ntmps14
    go_wp2_with (first | ((with_reducible refine gate_dst (N := 1) rfl ?_); refine box_event ?hg (N := 1) ?hd (cs := #[.int .i64 a0_0, .int .i32 a0_1, .string a0_2]) (t := 34) ?hr ?_; (case hd => rfl); (case hg => rfl); (case hr => first | (go_simp; done) | (go_simp; rfl)); intro gb101 hg w3 hbox hb; have n0_ := Aside0.mk (below_step (by repeat (first | (with_reducible first | exact HB.out | apply below_alloc | apply pw_below_drewN | apply below_drew1) | exact HB.out)) hb); have n1_ := Aside0.mk (hbox); have n2_ := Aside0.mk ((by rw [hg]; exact (below_size (by repeat (first | (with_reducible first | exact HB.out | apply below_alloc | apply pw_below_drewN | apply below_drew1) | exact HB.out))) : w.heap.size ≤ gb101)); have n3_ := Aside0.mk ((by rw [hg]; exact (below_size (by repeat (first | (with_reducible first | exact HB.out | apply below_alloc | apply pw_below_drewN | apply below_drew1) | exact HB.out))) : w.heap.size ≤ gb101)); clear HB; have HB := n0_; have BK101 := n1_; have GW101 := n2_; have GE101 := n3_; clear n0_ n1_ n2_ n3_; clear hb hbox hg; have hcz4_0 : w3.cell? ⟨gb101, 0, none⟩ = some (.int .i64 a0_0) := (blk_cell BK101.out 0).trans rfl; have hcz4_1 : w3.cell? ⟨gb101, 1, none⟩ = some (.int .i32 a0_1) := (blk_cell BK101.out 1).trans rfl; have hcz4_2 : w3.cell? ⟨gb101, 2, none⟩ = some (.string a0_2) := (blk_cell BK101.out 2).trans rfl; have hfz4_0 := blk_frozen BK101.out 0; have hfz4_1 := blk_frozen BK101.out 1; have hfz4_2 := blk_frozen BK101.out 2))
    go_ret
    exact ⟨by first | rfl | (simp [errW_none, errW_some] <;> rfl) | (simp [*, errW_none, errW_some] <;> rfl), by repeat (first | (with_reducible first | exact HB.out | apply below_alloc | apply pw_below_drewN | apply below_drew1 | refine below_set ?_ GE101.out) | exact HB.out)⟩
  · rw [if_neg c2] at H
    have c2b0 : decide (2147483647 < (a0_2.size : Int)) = false := decide_eq_false c2
    have c2b1 : decide (2147483647 < a0_2.size) = false := decide_eq_false (by omega)
    clear c2
    obtain rfl := Option.some.inj H
    go_enter Tryd.func14, Tryd.ntmps14
    go_wp2_with (first | ((with_reducible refine gate_dst (N := 1) rfl ?_); refine box_event ?hg (N := 1) ?hd (cs := #[.int .i64 a0_0, .int .i32 a0_1, .string a0_2]) (t := 34) ?hr ?_; (case hd => rfl); (case hg => rfl); (case hr => first | (go_simp; done) | (go_simp; rfl)); intro gb101 hg w5 hbox hb; have n0_ := Aside0.mk (below_step (by repeat (first | (with_reducible first | exact HB.out | apply below_alloc | apply pw_below_drewN | apply below_drew1) | exact HB.out)) hb); have n1_ := Aside0.mk (hbox); have n2_ := Aside0.mk ((by rw [hg]; exact (below_size (by repeat (first | (with_reducible first | exact HB.out | apply below_alloc | apply pw_below_drewN | apply below_drew1) | exact HB.out))) : w.heap.size ≤ gb101)); have n3_ := Aside0.mk ((by rw [hg]; exact (below_size (by repeat (first | (with_reducible first | exact HB.out | apply below_alloc | apply pw_below_drewN | apply below_drew1) | exact HB.out))) : w.heap.size ≤ gb101)); clear HB; have HB := n0_; have BK101 := n1_; have GW101 := n2_; have GE101 := n3_; clear n0_ n1_ n2_ n3_; clear hb hbox hg; have hcz6_0 : w5.cell? ⟨gb101, 0, none⟩ = some (.int .i64 a0_0) := (blk_cell BK101.out 0).trans rfl; have hcz6_1 : w5.cell? ⟨gb101, 1, none⟩ = some (.int .i32 a0_1) := (blk_cell BK101.out 1).trans rfl; have hcz6_2 : w5.cell? ⟨gb101, 2, none⟩ = some (.string a0_2) := (blk_cell BK101.out 2).trans rfl; have hfz6_0 := blk_frozen BK101.out 0; have hfz6_1 := blk_frozen BK101.out 1; have hfz6_2 := blk_frozen BK101.out 2))
    go_ret
    exact ⟨by first | rfl | (simp [errW_none, errW_some] <;> rfl) | (simp [*, errW_none, errW_some] <;> rfl), by repeat (first | (with_reducible first | exact HB.out | apply below_alloc | apply pw_below_drewN | apply below_drew1 | refine below_set ?_ GE101.out) | exact HB.out)⟩

/-- A state of type 63 at block g of W; what its slices lead to came in by w0. -/
def IsS63 (w0 W : World) (g : Nat) (f0 : Int) (f1 : Int) (f2 : ByteArray) : Prop := W.heap[g]? = some (.cells #[.int .i64 f0, .int .i32 f1, .string f2] 63 (0, 0)) ∧ w0.heap.size ≤ g
theorem IsS63.grown {w0 W : World} {g : Nat} {f0 : Int} {f1 : Int} {f2 : ByteArray} {W1 : World} {row : Option Nat} (h : IsS63 w0 W g f0 f1 f2) (hw : W.grownBy W1 row) (hne : some g ≠ row) : IsS63 w0 W1 g f0 f1 f2 := by
  obtain ⟨hb, hg⟩ := h
  exact ⟨blk_grown hb hw hne, hg⟩
theorem IsS63.own_neN {w0 W : World} {g : Nat} {f0 : Int} {f1 : Int} {f2 : ByteArray} {α : Type} {d : Kd α} {e : Nat} {base : Nat} {ok : Nat → Prop} {v : Value} {xs : List α} (h : IsS63 w0 W g f0 f1 f2) (ho : Kd.N d e W base ok v xs) (ht : e ≠ 63) : some g ≠ v.ownBlock := by
  obtain ⟨hb, hg⟩ := h
  exact Kd.N_ne ho hb ht
theorem IsS63.fresh {w0 W : World} {g : Nat} {f0 : Int} {f1 : Int} {f2 : ByteArray} (h : IsS63 w0 W g f0 f1 f2) : ∀ k, W.heap.size ≤ k → k ≠ g := by
  obtain ⟨hb, hg⟩ := h
  exact Kd.freshB hb
theorem IsS63.kept {w0 W : World} {g : Nat} {f0 : Int} {f1 : Int} {f2 : ByteArray} {W1 : World} {S : Nat → Prop} (h : IsS63 w0 W g f0 f1 f2) (hk : Kept W W1 S) (hne : ¬ S g) : IsS63 w0 W1 g f0 f1 f2 := by
  obtain ⟨hb, hg⟩ := h
  exact ⟨blk_kept hb hk hne, hg⟩
theorem IsS63.below {w0 W : World} {g : Nat} {f0 : Int} {f1 : Int} {f2 : ByteArray} {W1 : World} (h : IsS63 w0 W g f0 f1 f2) (hw : Below W.heap.size W W1) : IsS63 w0 W1 g f0 f1 f2 := h.grown (grown_of_below hw none) (by simp)
theorem IsS63.alloc {w0 W : World} {g : Nat} {f0 : Int} {f1 : Int} {f2 : ByteArray} (h : IsS63 w0 W g f0 f1 f2) (o : Obj) : IsS63 w0 (W.alloc o) g f0 f1 f2 := h.below (below_alloc (Below.refl _ _) o)
theorem IsS63.drewN {w0 W : World} {g : Nat} {f0 : Int} {f1 : Int} {f2 : ByteArray} (h : IsS63 w0 W g f0 f1 f2) (m : Nat) : IsS63 w0 (W.drewN m) g f0 f1 f2 := h
theorem IsS63.drew {w0 W : World} {g : Nat} {f0 : Int} {f1 : Int} {f2 : ByteArray} (h : IsS63 w0 W g f0 f1 f2) : IsS63 w0 W.drew g f0 f1 f2 := h
theorem IsS63.at_ {w0 W : World} {g : Nat} {f0 : Int} {f1 : Int} {f2 : ByteArray} {w' : World} {m : Nat} (hq : W.drewN m = w') (h : IsS63 w0 W g f0 f1 f2) : IsS63 w0 w' g f0 f1 f2 := by subst hq; exact IsS63.drewN h m
theorem IsS63.apart {w0 W : World} {g : Nat} {f0 : Int} {f1 : Int} {f2 : ByteArray} {α : Type} {d : Kd α} {e : Nat} {base : Nat} {ok : Nat → Prop} {v : Value} {xs : List α} (h : IsS63 w0 W g f0 f1 f2) (ho : d.R e W base ok v xs) (ht : ∀ q, q ∈ e :: d.E → q ≠ 63) : d.R e W base (fun k => ok k ∧ k ≠ g) v xs := by
  obtain ⟨hb, hg⟩ := h
  exact Kd.R_types ho hb ht
theorem IsS63.own_ne {w0 W : World} {g : Nat} {f0 : Int} {f1 : Int} {f2 : ByteArray} {α : Type} {d : Kd α} {e : Nat} {base : Nat} {ok : Nat → Prop} {v : Value} {xs : List α} (h : IsS63 w0 W g f0 f1 f2) (ho : d.R e W base ok v xs) (ht : e ≠ 63) : some g ≠ v.ownBlock := by
  obtain ⟨hb, hg⟩ := h
  exact Kd.R_ne ho hb ht
theorem IsS63.apartQ {w0 W : World} {g : Nat} {f0 : Int} {f1 : Int} {f2 : ByteArray} {α : Type} {d : Kd α} {e : Nat} {base : Nat} {ok : Nat → Prop} {v : Value} {xs : List α} (h : IsS63 w0 W g f0 f1 f2) (ho : d.Q e W base ok v xs) (ht : ∀ q, q ∈ e :: d.E → q ≠ 63) : d.Q e W base (fun k => ok k ∧ k ≠ g) v xs := by
  obtain ⟨hb, hg⟩ := h
  exact Kd.Q_types ho hb ht
theorem IsS63.own_neQ {w0 W : World} {g : Nat} {f0 : Int} {f1 : Int} {f2 : ByteArray} {α : Type} {d : Kd α} {e : Nat} {base : Nat} {ok : Nat → Prop} {v : Value} {xs : List α} (h : IsS63 w0 W g f0 f1 f2) (ho : d.Q e W base ok v xs) (ht : e ≠ 63) : some g ≠ v.ownBlock := by
  obtain ⟨hb, hg⟩ := h
  exact Kd.Q_ne ho hb ht
theorem IsS63.apartS {w0 W : World} {g : Nat} {f0 : Int} {f1 : Int} {f2 : ByteArray} {α : Type} {d : Kd α} {e : Nat} {base : Nat} {ok : Nat → Prop} {v : Value} {xs : List α} (h : IsS63 w0 W g f0 f1 f2) (ho : d.S e W base ok v xs) (ht : ∀ q, q ∈ e :: d.E → q ≠ 63) : d.S e W base (fun k => ok k ∧ k ≠ g) v xs := by
  obtain ⟨hb, hg⟩ := h
  exact Kd.S_types ho hb ht
theorem IsS63.own_neS {w0 W : World} {g : Nat} {f0 : Int} {f1 : Int} {f2 : ByteArray} {α : Type} {d : Kd α} {e : Nat} {base : Nat} {ok : Nat → Prop} {v : Value} {xs : List α} (h : IsS63 w0 W g f0 f1 f2) (ho : d.S e W base ok v xs) (ht : e ≠ 63) : some g ≠ v.ownBlock := by
  obtain ⟨hb, hg⟩ := h
  exact Kd.S_ne ho hb ht
theorem IsS63.lt {w0 W : World} {g : Nat} {f0 : Int} {f1 : Int} {f2 : ByteArray} (h : IsS63 w0 W g f0 f1 f2) : g < W.heap.size := by
  obtain ⟨hb, hg⟩ := h
  exact blk_lt hb
theorem IsS63.ge {w0 W : World} {g : Nat} {f0 : Int} {f1 : Int} {f2 : ByteArray} (h : IsS63 w0 W g f0 f1 f2) : w0.heap.size ≤ g := by
  obtain ⟨hb, hg⟩ := h
  exact hg
theorem IsS63.ne_blk {w0 W : World} {g : Nat} {f0 : Int} {f1 : Int} {f2 : ByteArray} {a : Nat} {cs : Array Value} {t : TypeId} {fr : Nat × Nat} (h : IsS63 w0 W g f0 f1 f2) (hb2 : W.heap[a]? = some (.cells cs t fr)) (ht : t ≠ 63) : g ≠ a := by
  obtain ⟨hb, hg⟩ := h
  rintro rfl
  rw [hb] at hb2
  injection hb2 with hb2
  injection hb2 with _ ht2
  exact ht ht2.symm
theorem IsS63.far {w0 W : World} {g : Nat} {f0 : Int} {f1 : Int} {f2 : ByteArray} {p : Addr} (h : IsS63 w0 W g f0 f1 f2) (hne : g ≠ p.block) (u : Value) : IsS63 w0 (W.setCell p u) g f0 f1 f2 := by
  obtain ⟨hb, hg⟩ := h
  exact ⟨blk_far hb hne u, hg⟩
theorem cellS63_0 {W : World} {g : Nat} {f0 : Int} {f1 : Int} {f2 : ByteArray} (h : W.heap[g]? = some (.cells #[.int .i64 f0, .int .i32 f1, .string f2] 63 (0, 0))) : W.cell? ⟨g, 0, none⟩ = some (.int .i64 f0) := (blk_cell h 0).trans rfl
theorem IsS63.set_0 {w0 W : World} {g : Nat} {f0 : Int} {f1 : Int} {f2 : ByteArray} (h : IsS63 w0 W g f0 f1 f2) (x : Int) : IsS63 w0 (W.setCell ⟨g, 0, none⟩ (.int .i64 x)) g x f1 f2 := by
  obtain ⟨hb, hg⟩ := h
  exact ⟨by simpa using blk_set hb 0 (.int .i64 x), hg⟩
theorem cellS63_1 {W : World} {g : Nat} {f0 : Int} {f1 : Int} {f2 : ByteArray} (h : W.heap[g]? = some (.cells #[.int .i64 f0, .int .i32 f1, .string f2] 63 (0, 0))) : W.cell? ⟨g, 1, none⟩ = some (.int .i32 f1) := (blk_cell h 1).trans rfl
theorem IsS63.set_1 {w0 W : World} {g : Nat} {f0 : Int} {f1 : Int} {f2 : ByteArray} (h : IsS63 w0 W g f0 f1 f2) (x : Int) : IsS63 w0 (W.setCell ⟨g, 1, none⟩ (.int .i32 x)) g f0 x f2 := by
  obtain ⟨hb, hg⟩ := h
  exact ⟨by simpa using blk_set hb 1 (.int .i32 x), hg⟩
theorem cellS63_2 {W : World} {g : Nat} {f0 : Int} {f1 : Int} {f2 : ByteArray} (h : W.heap[g]? = some (.cells #[.int .i64 f0, .int .i32 f1, .string f2] 63 (0, 0))) : W.cell? ⟨g, 2, none⟩ = some (.string f2) := (blk_cell h 2).trans rfl
theorem IsS63.set_2 {w0 W : World} {g : Nat} {f0 : Int} {f1 : Int} {f2 : ByteArray} (h : IsS63 w0 W g f0 f1 f2) (x : ByteArray) : IsS63 w0 (W.setCell ⟨g, 2, none⟩ (.string x)) g f0 f1 x := by
  obtain ⟨hb, hg⟩ := h
  exact ⟨by simpa using blk_set hb 2 (.string x), hg⟩
theorem IsS63.new (w0 W : World) (f0 : Int) (f1 : Int) (f2 : ByteArray) (hB : Below w0.heap.size w0 W) : IsS63 w0 (W.alloc (.cells #[.int .i64 f0, .int .i32 f1, .string f2] 63)) W.heap.size f0 f1 f2 := ⟨by simpa using heap_alloc_new W _, hB.size⟩

/-! ### impl_intStr: function 25 -/
def impl_intStr.f (a0_0 : Int) (a0_1 : Int) (a0_2 : ByteArray) : Option (Int × Int × ByteArray) := some (a0_0, a0_1, a0_2)
set_option maxHeartbeats 8000000 in
set_option maxRecDepth 100000 in
theorem impl_intStr.calls (a0_0 : Int) (a0_1 : Int) (a0_2 : ByteArray) (r1 : Int) (r2 : Int) (r3 : ByteArray) (w0 w : World) (hB : Below w0.heap.size w0 w) (h : impl_intStr.f a0_0 a0_1 a0_2 = some (r1, r2, r3)) :
    Calls Tryd.prog 25 #[.agg #[.int .i64 a0_0, .int .i32 a0_1, .string a0_2]] w fun e w' => ∃ g_ : Nat, e = .returned (.pointer (some ⟨g_, 0, none⟩)) ∧ IsS63 w0 w' g_ r1 r2 r3 ∧ Below w0.heap.size w0 w' ∧ Below w.heap.size w w' := by
  have hu34 := Tryd.underlying34
  have hu63 := Tryd.underlying63
  have HBW := Aside0.mk (Below.refl w.heap.size w)
  have HW0 := Aside0.mk hB.size
  have HB := Aside0.mk hB
  clear hB
  have H : (some (a0_0, a0_1, a0_2)) = some (r1, r2, r3) := h
  clear h
  simp only [Option.some.injEq, Prod.mk.injEq] at H
  obtain ⟨rfl, rfl, rfl⟩ := H
  go_enter Tryd.func25, Tryd.ntmps25
  go_wp2_with (first | ((with_reducible refine gate_dst (N := 1) rfl ?_); refine box_event ?hg (N := 1) ?hd (cs := #[.int .i64 a0_0, .int .i32 a0_1, .string a0_2]) (t := 34) ?hr ?_; (case hd => rfl); (case hg => rfl); (case hr => first | (go_simp; done) | (go_simp; rfl)); intro gb102 hg w2 hbox hb; have n0_ := Aside0.mk (below_step HBW.out hb); have n1_ := Aside0.mk (below_step (by repeat (first | (with_reducible first | exact HB.out | apply below_alloc | apply pw_below_drewN | apply below_drew1) | exact HB.out)) hb); have n2_ := Aside0.mk (hbox); have n3_ := Aside0.mk ((by rw [hg]; exact (below_size (by repeat (first | (with_reducible first | exact HBW.out | apply below_alloc | apply pw_below_drewN | apply below_drew1) | exact HBW.out))) : w.heap.size ≤ gb102)); have n4_ := Aside0.mk ((Nat.le_trans HW0.out (by rw [hg]; exact (below_size (by repeat (first | (with_reducible first | exact HBW.out | apply below_alloc | apply pw_below_drewN | apply below_drew1) | exact HBW.out))) : w.heap.size ≤ gb102) : w0.heap.size ≤ gb102)); clear HBW; clear HB; have HBW := n0_; have HB := n1_; have BK102 := n2_; have GW102 := n3_; have GE102 := n4_; clear n0_ n1_ n2_ n3_ n4_; clear hb hbox hg; have hcz3_0 : w2.cell? ⟨gb102, 0, none⟩ = some (.int .i64 a0_0) := (blk_cell BK102.out 0).trans rfl; have hcz3_1 : w2.cell? ⟨gb102, 1, none⟩ = some (.int .i32 a0_1) := (blk_cell BK102.out 1).trans rfl; have hcz3_2 : w2.cell? ⟨gb102, 2, none⟩ = some (.string a0_2) := (blk_cell BK102.out 2).trans rfl; have hfz3_0 := blk_frozen BK102.out 0; have hfz3_1 := blk_frozen BK102.out 1; have hfz3_2 := blk_frozen BK102.out 2) | ((with_reducible refine gate_dst (N := 10) rfl ?_); refine box_event ?hg (N := 10) ?hd (cs := #[.int .i64 a0_0, .int .i32 a0_1, .string a0_2]) (t := 63) ?hr ?_; (case hd => rfl); (case hg => rfl); (case hr => first | (go_simp; done) | (go_simp; rfl)); intro gb103 hg w4 hbox hb; have n0_ := Aside0.mk (blk_below (g := gb102) (o := .cells #[.int .i64 a0_0, .int .i32 a0_1, .string a0_2] 34 (0, 0)) (by (with_reducible repeat (first | refine blk_drewN ?_ _ | refine blk_drew ?_ | refine blk_alloc ?_ _)); exact BK102.out) hb); have n1_ := Aside0.mk (below_step HBW.out hb); have n2_ := Aside0.mk (below_step (by repeat (first | (with_reducible first | exact HB.out | apply below_alloc | apply pw_below_drewN | apply below_drew1 | refine below_set ?_ GE102.out) | exact HB.out)) hb); have n3_ := Aside0.mk (hbox); have n4_ := Aside0.mk ((by rw [hg]; exact (below_size (by repeat (first | (with_reducible first | exact HBW.out | apply below_alloc | apply pw_below_drewN | apply below_drew1 | refine below_set ?_ GW102.out) | exact HBW.out))) : w.heap.size ≤ gb103)); have n5_ := Aside0.mk ((Nat.le_trans HW0.out (by rw [hg]; exact (below_size (by repeat (first | (with_reducible first | exact HBW.out | apply below_alloc | apply pw_below_drewN | apply below_drew1 | refine below_set ?_ GW102.out) | exact HBW.out))) : w.heap.size ≤ gb103) : w0.heap.size ≤ gb103)); have n6_ := Aside0.mk ((by rw [hg]; exact Nat.ne_of_lt (blk_lt (g := gb102) (o := .cells #[.int .i64 a0_0, .int .i32 a0_1, .string a0_2] 34 (0, 0)) (by (with_reducible repeat (first | refine blk_drewN ?_ _ | refine blk_drew ?_ | refine blk_alloc ?_ _)); exact BK102.out)) : gb102 ≠ gb103)); have n7_ := Aside0.mk ((by rw [hg]; exact Nat.ne_of_gt (blk_lt (g := gb102) (o := .cells #[.int .i64 a0_0, .int .i32 a0_1, .string a0_2] 34 (0, 0)) (by (with_reducible repeat (first | refine blk_drewN ?_ _ | refine blk_drew ?_ | refine blk_alloc ?_ _)); exact BK102.out)) : gb103 ≠ gb102)); clear BK102; clear HBW; clear HB; have BK102 := n0_; have HBW := n1_; have HB := n2_; have BK103 := n3_; have GW103 := n4_; have GE103 := n5_; have NB102_103 := n6_; have NB103_102 := n7_; clear n0_ n1_ n2_ n3_ n4_ n5_ n6_ n7_; clear hb hbox hg))
  go_ret
  exact ⟨_, rfl, (show IsS63 w0 _ gb103 a0_0 a0_1 a0_2 from ⟨by (with_reducible repeat (first | refine blk_drewN ?_ _ | refine blk_drew ?_ | refine blk_alloc ?_ _)); exact BK103.out, GE103.out⟩), by repeat (first | (with_reducible first | exact HB.out | apply below_alloc | apply pw_below_drewN | apply below_drew1 | refine below_set ?_ GE102.out | refine below_set ?_ GE103.out) | exact HB.out), by repeat (first | (with_reducible first | exact HBW.out | apply below_alloc | apply pw_below_drewN | apply below_drew1 | refine below_set ?_ GW102.out | refine below_set ?_ GW103.out) | exact HBW.out)⟩

/-! ### bits_Len64: function 48 -/
def bits_Len64.f (_ : Nat) (a0 : Int) : Option Int := if 0 ≤ a0 ∧ a0 ≤ 18446744073709551615 then some (Lib.bitLen a0.toNat : Int) else none
theorem bits_Len64.mono : ∀ a0 k, LeO (bits_Len64.f k a0) (bits_Len64.f (k + 1) a0) := by
  intro a0 k
  exact LeO.refl _
theorem bits_Len64.calls (k : Nat) (a0 : Int) (r : Int) (w : World) (h : bits_Len64.f k a0 = some r) :
    Calls Tryd.prog 48 #[.int .u64 a0] w fun e w' => e = .returned (.int .i64 r) ∧ Below w.heap.size w w' := by
  unfold bits_Len64.f at h
  split at h
  · rename_i hb
    obtain rfl := Option.some.inj h
    refine (Tryd.bits_Len64 a0 w hb.1 hb.2).mono ?_
    rintro e w' ⟨rfl, rfl⟩
    exact ⟨rfl, Below.refl _ _⟩
  · cases h

/-! ### intstr_sovGenerated: function 38 -/
def intstr_sovGenerated.f (k : Nat) (a0 : Int) : Option (Int) := (bits_Len64.f k (Go.bits .or .u64 a0 1)).bind fun t104 => (some (wrap64 (Int.tdiv (wrap64 (t104 + 6)) 7)))
theorem intstr_sovGenerated.mono : ∀ a0 k, LeO (intstr_sovGenerated.f k a0) (intstr_sovGenerated.f (k + 1) a0) := by
  intro a0 k
  unfold intstr_sovGenerated.f
  repeat' first
      | (with_reducible exact bits_Len64.mono _ _)
      | (with_reducible exact LeO.refl _)
      | (with_reducible exact LeO.none _)
      | (with_reducible refine LeO.ite ?_ ?_)
      | (with_reducible refine LeO.bind ?_ (fun _ => ?_))
      | exact bits_Len64.mono _ _
      | exact LeO.none _
      | refine LeO.ite ?_ ?_
      | refine LeO.bind ?_ (fun _ => ?_)
set_option maxHeartbeats 8000000 in
set_option maxRecDepth 100000 in
theorem intstr_sovGenerated.calls (k : Nat) (a0 : Int) (r : Int) (w : World) (h : intstr_sovGenerated.f k a0 = some r) :
    Calls Tryd.prog 38 #[.int .u64 a0] w fun e w' => e = .returned (.int .i64 r) ∧ Below w.heap.size w w' := by
  have HB := Aside0.mk (Below.refl w.heap.size w)
  have H : ((bits_Len64.f k (Go.bits .or .u64 a0 1)).bind fun t104 => (some (wrap64 (Int.tdiv (wrap64 (t104 + 6)) 7)))) = some r := h
  clear h
  replace H := Option.bind_eq_some_iff.mp H
  obtain ⟨t104, A20, H⟩ := H
  replace H : (some (wrap64 (Int.tdiv (wrap64 (t104 + 6)) 7))) = some r := H
  have A2 := Aside0.mk A20
  clear A20
  obtain rfl := Option.some.inj H
  go_enter Tryd.func38, Tryd.ntmps38
  go_wp2_with (first | ((with_reducible refine gate_callee (f := 48) rfl ?_); refine goesL_ (some 5) rfl rfl Tryd.func48 (by kernel_rfl) rfl #[.int .u64 (Go.bits .or .u64 a0 1)] rfl (by (try simp only [List.map_toArray, List.map_cons, List.map_nil]); first | done | rfl | (simp only [List.length_drop, List.length_take]; rfl)) ?_; (with_reducible refine (bits_Len64.calls k (Go.bits .or .u64 a0 1) t104 _ A2.out).mono ?_); rintro e w3 ⟨rfl, hb⟩; refine ⟨_, rfl, ?_⟩; have n0_ := Aside0.mk (below_step (by repeat (first | (with_reducible first | exact HB.out | apply below_alloc | apply pw_below_drewN | apply below_drew1) | exact HB.out)) hb); clear HB; have HB := n0_; clear n0_; (try clear hb); (try clear hb2); (try clear hk); (try clear hi)))
  go_ret
  exact ⟨by first | rfl | (simp [errW_none, errW_some] <;> rfl) | (simp [*, errW_none, errW_some] <;> rfl), by repeat (first | (with_reducible first | exact HB.out | apply below_alloc | apply pw_below_drewN | apply below_drew1) | exact HB.out)⟩

-- NOT PRINTED: function 28 (intstr_IntOrString_Size)

/-! ### intstr_encodeVarintGenerated: function 47 -/
def intstr_encodeVarintGenerated.l0 : Nat → List Int → Int → Int → Int → Option (Int × List Int)
  | 0, _, _, _, _ => none
  | k + 1, x0, x1, x2, x7 => if x2 ≥ 128 then (if 0 ≤ x1 then (if x1 < (x0.length : Int) then (intstr_encodeVarintGenerated.l0 k (x0.set (x1 : Int).toNat ((Go.bits .or .u64 (Go.bits .and .u64 x2 127) 128) % 256)) (wrap64 (x1 + 1)) (x2 / 128) x7) else (none)) else (none)) else (if 0 ≤ x1 then (if x1 < (x0.length : Int) then (some (x7, (x0.set (x1 : Int).toNat ((x2) % 256)))) else (none)) else (none))
def intstr_encodeVarintGenerated.f (k : Nat) (l0 : List Int) (a1 : Int) (a2 : Int) : Option (Int × List Int) := (intstr_sovGenerated.f k a2).bind fun t105 => (intstr_encodeVarintGenerated.l0 k l0 (wrap64 (a1 - t105)) a2 (wrap64 (a1 - t105)))
theorem intstr_encodeVarintGenerated.mono_l : ∀ k, (∀ y0 y1 y2 y3, LeO (intstr_encodeVarintGenerated.l0 k y0 y1 y2 y3) (intstr_encodeVarintGenerated.l0 (k + 1) y0 y1 y2 y3))
  | 0 => fun _ _ _ _ r h => by simp [intstr_encodeVarintGenerated.l0] at h
  | k + 1 => by
    have ih0 := intstr_encodeVarintGenerated.mono_l k
    · intro y0 y1 y2 y3
      unfold intstr_encodeVarintGenerated.l0
      repeat' first
      | (with_reducible exact ih0 _ _ _ _)
      | (with_reducible exact intstr_sovGenerated.mono _ _)
      | (with_reducible exact LeO.refl _)
      | (with_reducible exact LeO.none _)
      | (with_reducible refine LeO.ite ?_ ?_)
      | (with_reducible refine LeO.bind ?_ (fun _ => ?_))
      | exact ih0 _ _ _ _
      | exact intstr_sovGenerated.mono _ _
      | exact LeO.none _
      | refine LeO.ite ?_ ?_
      | refine LeO.bind ?_ (fun _ => ?_)
theorem intstr_encodeVarintGenerated.mono : ∀ a0 a1 a2 k, LeO (intstr_encodeVarintGenerated.f k a0 a1 a2) (intstr_encodeVarintGenerated.f (k + 1) a0 a1 a2) := by
  intro a0 a1 a2 k
  have ih0 := intstr_encodeVarintGenerated.mono_l k
  unfold intstr_encodeVarintGenerated.f
  repeat' first
      | (with_reducible exact ih0 _ _ _ _)
      | (with_reducible exact intstr_sovGenerated.mono _ _)
      | (with_reducible exact LeO.refl _)
      | (with_reducible exact LeO.none _)
      | (with_reducible refine LeO.ite ?_ ?_)
      | (with_reducible refine LeO.bind ?_ (fun _ => ?_))
      | exact ih0 _ _ _ _
      | exact intstr_sovGenerated.mono _ _
      | exact LeO.none _
      | refine LeO.ite ?_ ?_
      | refine LeO.bind ?_ (fun _ => ?_)
set_option maxHeartbeats 8000000 in
set_option maxRecDepth 100000 in
theorem intstr_encodeVarintGenerated.calls (k : Nat) (P0_ : Nat → Prop) (u9000_ : Value) (l0 : List Int) (a1 : Int) (a2 : Int) (r1 : Int) (r2 : List Int) (w0 w : World) (hB : Below w0.heap.size w0 w) (ho0 : Kd.R (Kd.int .u8) 5 w w0.heap.size P0_ u9000_ l0) (h : intstr_encodeVarintGenerated.f k l0 a1 a2 = some (r1, r2)) :
    Calls Tryd.prog 47 #[u9000_, .int .i64 a1, .int .u64 a2] w fun e w' => e = .returned (.int .i64 r1) ∧ Kd.R (Kd.int .u8) 5 w' w0.heap.size (fun k_ => (P0_ k_ ∨ w.heap.size ≤ k_)) u9000_ r2 ∧ Below w0.heap.size w0 w' ∧ Kept w w' (fun k_ => P0_ k_) := by
  have HO0 := Aside0.mk (show Kd.R (Kd.int .u8) 5 w w0.heap.size (fun k_ => (P0_ k_ ∨ w.heap.size ≤ k_)) u9000_ l0 from Kd.R_mono ho0 (fun k_ hk => (.inl hk)))
  have HK := Aside0.mk (Kept.refl w (fun k_ => P0_ k_))
  have HW0 := Aside0.mk hB.size
  have HB := Aside0.mk hB
  clear hB
  have H : ((intstr_sovGenerated.f k a2).bind fun t105 => (intstr_encodeVarintGenerated.l0 k l0 (wrap64 (a1 - t105)) a2 (wrap64 (a1 - t105)))) = some (r1, r2) := h
  clear h
  replace H := Option.bind_eq_some_iff.mp H
  obtain ⟨t105, A40, H⟩ := H
  replace H : (intstr_encodeVarintGenerated.l0 k l0 (wrap64 (a1 - t105)) a2 (wrap64 (a1 - t105))) = some (r1, r2) := H
  have A4 := Aside0.mk A40
  clear A40
  have H' := Aside0.mk H
  clear H
  go_enter Tryd.func47, Tryd.ntmps47
  go_wp2_with (first | ((with_reducible refine gate_callee (f := 38) rfl ?_); refine goesL_ (some 10) rfl rfl Tryd.func38 (by kernel_rfl) rfl #[.int .u64 a2] rfl (by (try simp only [List.map_toArray, List.map_cons, List.map_nil]); first | done | rfl | (simp only [List.length_drop, List.length_take]; rfl)) ?_; (with_reducible refine (intstr_sovGenerated.calls k a2 t105 _ A4.out).mono ?_); rintro e w5 ⟨rfl, hb⟩; refine ⟨_, rfl, ?_⟩; have n0_ := Aside0.mk (Kd.R_below (by (with_reducible repeat (first | apply Kd.R_alloc | apply Kd.R_drewN | apply Kd.R_drew)); exact HO0.out) hb); have n1_ := Aside0.mk (Kept.below (S := (fun k_ => P0_ k_)) (by repeat (first | (with_reducible first | exact HK.out | apply Kept.alloc | apply Kept.drewN | apply Kept.drew) | exact HK.out)) hb); have n2_ := Aside0.mk (below_step (by repeat (first | (with_reducible first | exact HB.out | apply below_alloc | apply pw_below_drewN | apply below_drew1) | exact HB.out)) hb); clear HO0; clear HK; clear HB; have HO0 := n0_; have HK := n1_; have HB := n2_; clear n0_ n1_ n2_; (try clear hb); (try clear hb2); (try clear hk); (try clear hi)))
  go_loopg [1, 2] k (fun kq v1 v2 w' => ∃ (x0_1 : List Int) (x1_1 : Int) (x2_1 : Int), v1 = .int .i64 x1_1 ∧ v2 = .int .u64 x2_1 ∧ Aside0 (intstr_encodeVarintGenerated.l0 kq x0_1 x1_1 x2_1 (wrap64 (a1 - t105)) = some (r1, r2)) ∧ Aside0 (kq ≤ k) ∧ Aside0 (Kd.R (Kd.int .u8) 5 w' w0.heap.size (fun k_ => (P0_ k_ ∨ w.heap.size ≤ k_)) u9000_ x0_1) ∧ Aside0 (Kept w w' (fun k_ => P0_ k_)) ∧ Aside0 (Below w0.heap.size w0 w'))
  case atStart => exact ⟨(l0), (wrap64 (a1 - t105)), (a2), (by first | rfl | (simp; done) | (simp [*]; done)), (by first | rfl | (simp; done) | (simp [*]; done)), H', ⟨Nat.le_refl _⟩, ⟨by (with_reducible repeat (first | apply Kd.R_alloc | apply Kd.R_drewN | apply Kd.R_drew)); exact HO0.out⟩, ⟨by repeat (first | (with_reducible first | exact HK.out | apply Kept.alloc | apply Kept.drewN | apply Kept.drew) | exact HK.out)⟩, ⟨by repeat (first | (with_reducible first | exact HB.out | apply below_alloc | apply pw_below_drewN | apply below_drew1) | exact HB.out)⟩⟩
  case round =>
    clear H'
    try clear p2
    try clear c3
    try clear c4
    obtain ⟨x0_1, x1_1, x2_1, rfl, rfl, HA, HK1, HO_0, HK, HB⟩ := hrel
    cases gk with
    | zero => exact absurd HA.out (by simp [intstr_encodeVarintGenerated.l0])
    | succ k1 =>
      have H := HA.out
      clear HA
      simp only [intstr_encodeVarintGenerated.l0] at H
      by_cases c6 : x2_1 ≥ 128
      · rw [if_pos c6] at H
        have c6b0 : decide (128 ≤ x2_1) = true := decide_eq_true c6
        clear c6
        by_cases c7 : 0 ≤ x1_1
        · rw [if_pos c7] at H
          have c7b0 : decide (0 ≤ x1_1) = true := decide_eq_true c7
          clear c7
          by_cases c8 : x1_1 < (x0_1.length : Int)
          · rw [if_pos c8] at H
            have c8b0 : decide (x1_1 < (x0_1.length : Int)) = true := decide_eq_true c8
            clear c8
            obtain ⟨y106, hy106⟩ : ∃ y_ : List Int, y_ = (x0_1.set (x1_1 : Int).toNat ((Go.bits .or .u64 (Go.bits .and .u64 x2_1 127) 128) % 256)) := ⟨_, rfl⟩
            replace H : (intstr_encodeVarintGenerated.l0 k1 y106 (wrap64 (x1_1 + 1)) (x2_1 / 128) (wrap64 (a1 - t105))) = some (r1, r2) := by first | (rw [hy106]; with_reducible exact H) | (have H2_ := (Option.bind_some _ _).symm.trans H; rw [hy106]; with_reducible exact H2_) | (have H2_ := (Option.bind_some _ _).symm.trans H; with_reducible exact H2_) | with_reducible exact H | (rw [hy106]; exact H) | exact H
            have Ny106 := Aside0.mk hy106
            clear hy106
            have H' := Aside0.mk H
            clear H
            have p9 : 0 ≤ (x1_1 : Int) := of_decide_eq_true (by first | (with_reducible assumption) | assumption)
            have q9 : (x1_1 : Int) < ((x0_1.length : Int) : Int) := of_decide_eq_true (by first | (with_reducible assumption) | assumption)
            obtain ⟨go9, co9, eo9, gb9, gl9, cl9, HG9⟩ := Kd.R_form HO_0.out (by omega)
            (first | cases eo9 | (injection eo9 with ea_ en_ ec_; (first | subst ea_ | (injection ea_ with ea_; subst ea_)); subst ec_; clear en_))
            have GB9 := Aside0.mk gb9
            have GG9 := Aside0.mk HG9
            clear gb9 gl9 HG9
            have HMgo9 := Aside0.mk (show (P0_ go9 ∨ w.heap.size ≤ go9) from (HO_0.out.1 _ rfl))
            obtain ⟨hx9_0, hf9_0⟩ := Kd.R_celln 0 HO_0.out (x1_1 : Int) p9 q9
            replace p9 := eq_true p9
            replace q9 := eq_true q9
            have HP10 := Kd.R_putg HO_0.out (x1_1 : Int) ((Go.bits .or .u64 (Go.bits .and .u64 x2_1 127) 128) % 256)
            go_wp2_with (first | ((with_reducible refine gate_store (t := 5) (p := 21) rfl ?_); refine store_event (t := 5) (p := 21) (v := ?vo_w11) (w1 := (wr.setCell ⟨go9, (x1_1 : Int).toNat, none⟩ (.int .u8 ((Go.bits .or .u64 (Go.bits .and .u64 x2_1 127) 128) % 256)))) ?hg ?ho ?hn ?hr ?_; (case ho => rfl); (case hg => rfl); (case hn => rfl); (case hr => first | (go_simp; done) | (go_simp; rfl)); intro w11 hw; have hg : wr.grownBy w11 (some go9) := (by rw [hw]; exact HP10.2); have hp_ : Kd.R (Kd.int .u8) 5 w11 w0.heap.size (fun k_ => (P0_ k_ ∨ w.heap.size ≤ k_)) (.slice (some ⟨go9, 0, none⟩) x0_1.length co9) y106 := (by rw [hw, Ny106.out]; exact HP10.1); clear HP10; have n0_ := Aside0.mk (hp_); have n1_ := Aside0.mk ((by rw [hw]; exact below_set (HB.out) GB9.out : Below w0.heap.size w0 w11)); have n2_ := Aside0.mk (Kept.of_grown (S := (fun k_ => P0_ k_)) hg (by repeat (first | (with_reducible first | exact HK.out | apply Kept.alloc | apply Kept.drewN | apply Kept.drew) | exact HK.out)) (fun k_ e_ => (HO_0.out.1 k_ e_))); clear HO_0; clear HB; clear HK; have HO_0 := n0_; have HB := n1_; have HK := n2_; clear n0_ n1_ n2_; clear hg hw hp_))
            go_roundg k1
            case measure => have := HK1.out; omega
            case rel => exact ⟨(y106), (wrap64 (x1_1 + 1)), (x2_1 / 128), (by first | rfl | (simp; done) | (simp [*]; done)), (by first | rfl | (simp; done) | (simp [*]; done)), H', ⟨by have := HK1.out; omega⟩, ⟨by (with_reducible repeat (first | apply Kd.R_alloc | apply Kd.R_drewN | apply Kd.R_drew)); exact HO_0.out⟩, ⟨by repeat (first | (with_reducible first | exact HK.out | apply Kept.alloc | apply Kept.drewN | apply Kept.drew) | exact HK.out)⟩, ⟨by repeat (first | (with_reducible first | exact HB.out | apply below_alloc | apply pw_below_drewN | apply below_drew1) | exact HB.out)⟩⟩
          · rw [if_neg c8] at H
            exact absurd H (by simp)
        · rw [if_neg c7] at H
          exact absurd H (by simp)
      · rw [if_neg c6] at H
        have c6b0 : decide (128 ≤ x2_1) = false := decide_eq_false c6
        clear c6
        by_cases c12 : 0 ≤ x1_1
        · rw [if_pos c12] at H
          have c12b0 : decide (0 ≤ x1_1) = true := decide_eq_true c12
          clear c12
          by_cases c13 : x1_1 < (x0_1.length : Int)
          · rw [if_pos c13] at H
            have c13b0 : decide (x1_1 < (x0_1.length : Int)) = true := decide_eq_true c13
            clear c13
            obtain ⟨y107, hy107⟩ : ∃ y_ : List Int, y_ = (x0_1.set (x1_1 : Int).toNat ((x2_1) % 256)) := ⟨_, rfl⟩
            replace H : (some ((wrap64 (a1 - t105)), y107)) = some (r1, r2) := by first | (rw [hy107]; with_reducible exact H) | (have H2_ := (Option.bind_some _ _).symm.trans H; rw [hy107]; with_reducible exact H2_) | (have H2_ := (Option.bind_some _ _).symm.trans H; with_reducible exact H2_) | with_reducible exact H | (rw [hy107]; exact H) | exact H
            have Ny107 := Aside0.mk hy107
            clear hy107
            simp only [Option.some.injEq, Prod.mk.injEq] at H
            obtain ⟨rfl, rfl⟩ := H
            have p14 : 0 ≤ (x1_1 : Int) := of_decide_eq_true (by first | (with_reducible assumption) | assumption)
            have q14 : (x1_1 : Int) < ((x0_1.length : Int) : Int) := of_decide_eq_true (by first | (with_reducible assumption) | assumption)
            obtain ⟨go14, co14, eo14, gb14, gl14, cl14, HG14⟩ := Kd.R_form HO_0.out (by omega)
            (first | cases eo14 | (injection eo14 with ea_ en_ ec_; (first | subst ea_ | (injection ea_ with ea_; subst ea_)); subst ec_; clear en_))
            have GB14 := Aside0.mk gb14
            have GG14 := Aside0.mk HG14
            clear gb14 gl14 HG14
            have HMgo14 := Aside0.mk (show (P0_ go14 ∨ w.heap.size ≤ go14) from (HO_0.out.1 _ rfl))
            obtain ⟨hx14_0, hf14_0⟩ := Kd.R_celln 0 HO_0.out (x1_1 : Int) p14 q14
            replace p14 := eq_true p14
            replace q14 := eq_true q14
            have HP15 := Kd.R_putg HO_0.out (x1_1 : Int) ((x2_1) % 256)
            go_wp2_with (first | ((with_reducible refine gate_store (t := 5) (p := 30) rfl ?_); refine store_event (t := 5) (p := 30) (v := ?vo_w16) (w1 := (wr.setCell ⟨go14, (x1_1 : Int).toNat, none⟩ (.int .u8 ((x2_1) % 256)))) ?hg ?ho ?hn ?hr ?_; (case ho => rfl); (case hg => rfl); (case hn => rfl); (case hr => first | (go_simp; done) | (go_simp; rfl)); intro w16 hw; have hg : wr.grownBy w16 (some go14) := (by rw [hw]; exact HP15.2); have hp_ : Kd.R (Kd.int .u8) 5 w16 w0.heap.size (fun k_ => (P0_ k_ ∨ w.heap.size ≤ k_)) (.slice (some ⟨go14, 0, none⟩) x0_1.length co14) y107 := (by rw [hw, Ny107.out]; exact HP15.1); clear HP15; have n0_ := Aside0.mk (hp_); have n1_ := Aside0.mk ((by rw [hw]; exact below_set (HB.out) GB14.out : Below w0.heap.size w0 w16)); have n2_ := Aside0.mk (Kept.of_grown (S := (fun k_ => P0_ k_)) hg (by repeat (first | (with_reducible first | exact HK.out | apply Kept.alloc | apply Kept.drewN | apply Kept.drew) | exact HK.out)) (fun k_ e_ => (HO_0.out.1 k_ e_))); clear HO_0; clear HB; clear HK; have HO_0 := n0_; have HB := n1_; have HK := n2_; clear n0_ n1_ n2_; clear hg hw hp_))
            go_ret
            exact ⟨by first | rfl | (simp [errW_none, errW_some] <;> rfl) | (simp [*, errW_none, errW_some] <;> rfl), by (with_reducible repeat (first | apply Kd.R_alloc | apply Kd.R_drewN | apply Kd.R_drew)); exact HO_0.out, by repeat (first | (with_reducible first | exact HB.out | apply below_alloc | apply pw_below_drewN | apply below_drew1) | exact HB.out), by repeat (first | (with_reducible first | exact HK.out | apply Kept.alloc | apply Kept.drewN | apply Kept.drew) | exact HK.out)⟩
          · rw [if_neg c13] at H
            exact absurd H (by simp)
        · rw [if_neg c12] at H
          exact absurd H (by simp)

-- NOT PRINTED: function 35 (intstr_IntOrString_MarshalToSizedBuffer)

-- NOT PRINTED: function 26 (intstr_IntOrString_Marshal)

-- NOT PRINTED: function 15 (impl_IntStrMarshal)

-- NOT PRINTED: function 36 (errors_New)

-- NOT PRINTED: function 37 (intstr_skipGenerated)

-- NOT PRINTED: function 27 (intstr_IntOrString_Unmarshal)

-- NOT PRINTED: function 16 (impl_IntStrUnmarshal)

-- NOT PRINTED: function 17 (impl_IntStrSize)

/-! ### spec_Varint: function 19 -/
def spec_Varint.l0 : Nat → Int → List Int → Option (List Int)
  | 0, _, _ => none
  | k + 1, x0, x3 => if x0 ≥ 128 then (if x3.length < 140737488355328 then (spec_Varint.l0 k (IntKind.u64.wrap (Int.tdiv x0 128)) (x3 ++ [(Int.tmod x0 128 + 128) % 256])) else (none)) else (if x3.length < 140737488355328 then (some (x3 ++ [(x0) % 256])) else (none))
def spec_Varint.f (k : Nat) (a0 : Int) : Option (List Int) := spec_Varint.l0 k a0 ([] : List Int)
theorem spec_Varint.mono_l : ∀ k, (∀ y0 y1, LeO (spec_Varint.l0 k y0 y1) (spec_Varint.l0 (k + 1) y0 y1))
  | 0 => fun _ _ r h => by simp [spec_Varint.l0] at h
  | k + 1 => by
    have ih0 := spec_Varint.mono_l k
    · intro y0 y1
      unfold spec_Varint.l0
      repeat' first
      | (with_reducible exact ih0 _ _)
      | (with_reducible exact LeO.refl _)
      | (with_reducible exact LeO.none _)
      | (with_reducible refine LeO.ite ?_ ?_)
      | (with_reducible refine LeO.bind ?_ (fun _ => ?_))
      | exact ih0 _ _
      | exact LeO.none _
      | refine LeO.ite ?_ ?_
      | refine LeO.bind ?_ (fun _ => ?_)
theorem spec_Varint.mono : ∀ a0 k, LeO (spec_Varint.f k a0) (spec_Varint.f (k + 1) a0) := by
  intro a0 k
  have ih0 := spec_Varint.mono_l k
  unfold spec_Varint.f
  repeat' first
      | (with_reducible exact ih0 _ _)
      | (with_reducible exact LeO.refl _)
      | (with_reducible exact LeO.none _)
      | (with_reducible refine LeO.ite ?_ ?_)
      | (with_reducible refine LeO.bind ?_ (fun _ => ?_))
      | exact ih0 _ _
      | exact LeO.none _
      | refine LeO.ite ?_ ?_
      | refine LeO.bind ?_ (fun _ => ?_)
set_option maxHeartbeats 8000000 in
set_option maxRecDepth 100000 in
theorem spec_Varint.calls (k : Nat) (a0 : Int) (r : List Int) (w : World) (h : spec_Varint.f k a0 = some r) :
    Calls Tryd.prog 19 #[.int .u64 a0] w fun e w' => ∃ v0_ : Value, e = .returned (v0_) ∧ Kd.R (Kd.int .u8) 5 w' w.heap.size (fun _ => True) v0_ r ∧ Below w.heap.size w w' := by
  have HB := Aside0.mk (Below.refl w.heap.size w)
  have H : (spec_Varint.l0 k a0 ([] : List Int)) = some r := h
  clear h
  have H' := Aside0.mk H
  clear H
  go_enter Tryd.func19, Tryd.ntmps19
  go_wp2
  go_loopg [0, 3] k (fun kq v0 v3 w' => ∃ (x0_1 : Int) (x3_1 : List Int), v0 = .int .u64 x0_1 ∧ Aside0 (spec_Varint.l0 kq x0_1 x3_1 = some r) ∧ Aside0 (kq ≤ k) ∧ Aside0 (Kd.R (Kd.int .u8) 5 w' w.heap.size (fun _ => True) v3 x3_1) ∧ Aside0 (Below w.heap.size w w'))
  case atStart => exact ⟨(a0), (([] : List Int)), (by first | rfl | (simp; done) | (simp [*]; done)), H', ⟨Nat.le_refl _⟩, ⟨by first | exact Kd.R_nil _ _ _ _ _ | exact Kd.N_nil _ _ _ _ _ | exact Kd.V_nil _ _ _ _ _ | exact Kd.Q_nil _ _ _ _ _ | exact Kd.S_nil _ _ _ _ _⟩, ⟨by repeat (first | (with_reducible first | exact HB.out | apply below_alloc | apply pw_below_drewN | apply below_drew1) | exact HB.out)⟩⟩
  case round =>
    clear H'
    try clear c1
    obtain ⟨x0_1, x3_1, rfl, HA, HK1, HO_3, HB⟩ := hrel
    cases gk with
    | zero => exact absurd HA.out (by simp [spec_Varint.l0])
    | succ k1 =>
      have H := HA.out
      clear HA
      simp only [spec_Varint.l0] at H
      by_cases c2 : x0_1 ≥ 128
      · rw [if_pos c2] at H
        have c2b0 : decide (128 ≤ x0_1) = true := decide_eq_true c2
        clear c2
        by_cases c3 : x3_1.length < 140737488355328
        · rw [if_pos c3] at H
          have LMc3 := Aside0.mk c3
          clear c3
          obtain ⟨y127, hy127⟩ : ∃ y_ : List Int, y_ = (x3_1 ++ [(Int.tmod x0_1 128 + 128) % 256]) := ⟨_, rfl⟩
          replace H : (spec_Varint.l0 k1 (IntKind.u64.wrap (Int.tdiv x0_1 128)) y127) = some r := by first | (rw [hy127]; with_reducible exact H) | (have H2_ := (Option.bind_some _ _).symm.trans H; rw [hy127]; with_reducible exact H2_) | (have H2_ := (Option.bind_some _ _).symm.trans H; with_reducible exact H2_) | with_reducible exact H | (rw [hy127]; exact H) | exact H
          have Ny127 := Aside0.mk hy127
          clear hy127
          have H' := Aside0.mk H
          clear H
          go_wp2_with (first | ((with_reducible refine gate_builtin (b := .append) (xs := #[.tmp 6, .tmp 11]) rfl ?_); at_builtin; refine Kd.R_append (Kd.int .u8) (w0 := w) w.heap.size rfl (.tmp 6) (.tmp 11) 27 5 (.int .u8 0) 1 rfl Tryd.underlying27 info5 rfl (by decide) (by omega) u3 x3_1 ((Int.tmod x0_1 128 + 128) % 256) [.int .u8 ((Int.tmod x0_1 128 + 128) % 256)] (fun _ => True) (fun _ => False) rfl rfl ?aP (fun _ hk => hk.elim) ?aF ?aO ?aB ?aS ?aL ?_; (case aP => exact rfl); (case aB => exact (by repeat (first | (with_reducible first | exact HB.out | apply below_alloc | apply pw_below_drewN | apply below_drew1) | exact HB.out))); (case aF => exact (fun _ _ => trivial)); (case aO => exact (by (with_reducible repeat (first | apply Kd.R_alloc | apply Kd.R_drewN | apply Kd.R_drew)); exact HO_3.out)); (case aS => exact (below_size (by repeat (first | (with_reducible first | exact HB.out | apply below_alloc | apply pw_below_drewN | apply below_drew1) | exact HB.out)))); (case aL => have := LMc3.out; omega); intro v128 w4 ho hb hg hat; rw [← Ny127.out] at ho; have n0_ := Aside0.mk (hb); have n1_ := Aside0.mk (ho); clear HB; clear HO_3; have HB := n0_; have HO129 := n1_; clear n0_ n1_; clear ho hb hg hat))
          go_roundg k1
          case measure => have := HK1.out; omega
          case rel => exact ⟨(IntKind.u64.wrap (Int.tdiv x0_1 128)), (y127), (by first | rfl | (simp; done) | (simp [*]; done)), H', ⟨by have := HK1.out; omega⟩, ⟨by (with_reducible repeat (first | apply Kd.R_alloc | apply Kd.R_drewN | apply Kd.R_drew)); exact HO129.out⟩, ⟨by repeat (first | (with_reducible first | exact HB.out | apply below_alloc | apply pw_below_drewN | apply below_drew1) | exact HB.out)⟩⟩
        · rw [if_neg c3] at H
          exact absurd H (by simp)
      · rw [if_neg c2] at H
        have c2b0 : decide (128 ≤ x0_1) = false := decide_eq_false c2
        clear c2
        by_cases c5 : x3_1.length < 140737488355328
        · rw [if_pos c5] at H
          have LMc5 := Aside0.mk c5
          clear c5
          obtain ⟨y130, hy130⟩ : ∃ y_ : List Int, y_ = (x3_1 ++ [(x0_1) % 256]) := ⟨_, rfl⟩
          replace H : (some y130) = some r := by first | (rw [hy130]; with_reducible exact H) | (have H2_ := (Option.bind_some _ _).symm.trans H; rw [hy130]; with_reducible exact H2_) | (have H2_ := (Option.bind_some _ _).symm.trans H; with_reducible exact H2_) | with_reducible exact H | (rw [hy130]; exact H) | exact H
          have Ny130 := Aside0.mk hy130
          clear hy130
          obtain rfl := Option.some.inj H
          go_wp2_with (first | ((with_reducible refine gate_builtin (b := .append) (xs := #[.tmp 15, .tmp 18]) rfl ?_); at_builtin; refine Kd.R_append (Kd.int .u8) (w0 := w) w.heap.size rfl (.tmp 15) (.tmp 18) 27 5 (.int .u8 0) 1 rfl Tryd.underlying27 info5 rfl (by decide) (by omega) u3 x3_1 ((x0_1) % 256) [.int .u8 ((x0_1) % 256)] (fun _ => True) (fun _ => False) rfl rfl ?aP (fun _ hk => hk.elim) ?aF ?aO ?aB ?aS ?aL ?_; (case aP => exact rfl); (case aB => exact (by repeat (first | (with_reducible first | exact HB.out | apply below_alloc | apply pw_below_drewN | apply below_drew1) | exact HB.out))); (case aF => exact (fun _ _ => trivial)); (case aO => exact (by (with_reducible repeat (first | apply Kd.R_alloc | apply Kd.R_drewN | apply Kd.R_drew)); exact HO_3.out)); (case aS => exact (below_size (by repeat (first | (with_reducible first | exact HB.out | apply below_alloc | apply pw_below_drewN | apply below_drew1) | exact HB.out)))); (case aL => have := LMc5.out; omega); intro v131 w6 ho hb hg hat; rw [← Ny130.out] at ho; have n0_ := Aside0.mk (hb); have n1_ := Aside0.mk (ho); clear HB; clear HO_3; have HB := n0_; have HO132 := n1_; clear n0_ n1_; clear ho hb hg hat))
          go_ret
          exact ⟨_, by first | rfl | (simp [errW_none, errW_some] <;> rfl) | (simp [*, errW_none, errW_some] <;> rfl), by (with_reducible repeat (first | apply Kd.R_alloc | apply Kd.R_drewN | apply Kd.R_drew)); exact HO132.out, by repeat (first | (with_reducible first | exact HB.out | apply below_alloc | apply pw_below_drewN | apply below_drew1) | exact HB.out)⟩
        · rw [if_neg c5] at H
          exact absurd H (by simp)

-- NOT PRINTED: function 18 (spec_IntStrWire)

-- NOT PRINTED: function 6 (laws_FnIntStrBytes)

end Go.Proofs.YtmkpkpkcoieeiabDoor.XIs
