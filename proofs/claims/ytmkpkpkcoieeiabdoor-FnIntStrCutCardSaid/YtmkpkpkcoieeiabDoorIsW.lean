/- The reference's bytes of a value walked. -/
import Derived.Test.YtmkpkpkcoieeiabDoorIsF
set_option linter.unusedSimpArgs false
set_option linter.unusedVariables false
namespace Go.Proofs.YtmkpkpkcoieeiabDoor.IsW
open Go.RowKit Go.Proofs.YtmkpkpkcoieeiabDoorW.PrintWords Go.Proofs.YtmkpkpkcoieeiabDoorW.PrintLast Go.Proofs.YtmkpkpkcoieeiabDoor.IsM Go.Proofs.YtmkpkpkcoieeiabDoor.IsB Go.Proofs.YtmkpkpkcoieeiabDoor.IsP Go.Proofs.YtmkpkpkcoieeiabDoor.IsU Go.Proofs.YtmkpkpkcoieeiabDoor.XIs Go.Proofs.YtmkpkpkcoieeiabDoor.IsE Go.Proofs.YtmkpkpkcoieeiabDoor.IsF
/-- A row of bytes of the call's own. -/
def Own (w : World) (base : Nat) (v : Value) (l : List Int) : Prop := w.ownsRow base 5 1 v l.length (nums .u8 l)
theorem reads_lit (W : World) (b : Int) : ReadsInt (W.alloc (.cells #[.int .u8 b] 5)) .u8 (some ⟨W.heap.size, 0, none⟩) 1 [b] := by
  have h := own_lit W W.heap.size 5 .u8 [b] (Nat.le_refl _) (by simp)
  obtain ⟨A, c, e, hr⟩ := own_reads h
  injection e with e1 e2 e3
  subst e1
  exact hr
theorem own_lit1 (W : World) (base : Nat) (b : Int) (hb : base ≤ W.heap.size) : Own (W.alloc (.cells #[.int .u8 b] 5)) base (.slice (some ⟨W.heap.size, 0, none⟩) 1 1) [b] := own_lit W base 5 .u8 [b] hb (by simp)
theorem Own.below {w w1 : World} {base : Nat} {v : Value} {l : List Int} (h : Own w base v l) (hb : Below w.heap.size w w1) : Own w1 base v l := pw_own_below h hb
/-- A number's bytes, from the reference. -/
theorem varint (v : Nat) (hv : v < 18446744073709551616) (w : World) : Calls Tryd.prog 19 #[.int .u64 (v : Int)] w fun e w' => ∃ A c, e = .returned (.slice A (vl v) c) ∧ ReadsInt w' .u8 A (vl v) (vi v) ∧ Below w.heap.size w w' := by
  obtain ⟨k, hk⟩ := var_ev v hv
  refine (spec_Varint.calls k (v : Int) (vi v) w hk).mono ?_
  rintro e w1 ⟨v0, rfl, hR, hB⟩
  obtain ⟨A, c, rfl, hc, hC⟩ := Kd.R_reads hR
  rw [vi_length] at *
  exact ⟨A, c, rfl, Kd.reads_of_C (h1 := fun _ => rfl) hC, hB⟩
theorem info5' : (Tryd.prog.info? 5).map (fun i => (i.zero, i.size, i.bytes)) = some (some (.int .u8 0), 1, 1) := by kernel_rfl
set_option maxHeartbeats 600000 in
set_option maxRecDepth 100000 in
theorem wire_calls (t i : Int) (S : ByteArray) (w : World) (h : VIn t i S) :
    Calls Tryd.prog 18 #[.agg #[.int .i64 t, .int .i32 i, .string S]] w fun e w' => ∃ v, e = .returned v ∧ Own w' w.heap.size v (WL (nx t) (nx i) S) ∧ Below w.heap.size w w' := by
  have hN := nums_of h
  obtain ⟨n1, n2, n3, n4, n5⟩ := hN
  obtain ⟨h1, h2, h3, h4, h5⟩ := h
  obtain ⟨x, hx⟩ : ∃ x, x = nx t := ⟨_, rfl⟩
  obtain ⟨y, hy⟩ : ∃ y, y = nx i := ⟨_, rfl⟩
  rw [← hx] at n1 n3
  rw [← hy] at n2 n4
  rw [← hx, ← hy]
  clear hx hy
  have s1 := Aside0.mk (varint x n3)
  have s2 := Aside0.mk (varint y n4)
  have s3 := Aside0.mk (varint S.size (lt_u _ n5))
  have b1 := Aside0.mk (vl_10 n3)
  have b2 := Aside0.mk (vl_10 n4)
  have b3 := Aside0.mk (vl_10 (lt_u _ n5))
  clear n3 n4
  have uz : IntKind.u64.wrap (S.size : Int) = (S.size : Int) := by rw [IntKind.wrap_u64]; omega
  obtain ⟨wb, hwb⟩ : ∃ wb, wb = w.alloc (.cells #[.int .i64 t, .int .i32 i, .string S] 34) := ⟨_, rfl⟩
  have hbox : wb.heap[w.heap.size]? = some (.cells #[.int .i64 t, .int .i32 i, .string S] 34 (0, 0)) := by rw [hwb]; exact heap_alloc_new w _
  have hwz : wb.heap.size = w.heap.size + 1 := by rw [hwb, World.size_alloc]
  have hBb : Below w.heap.size w wb := by rw [hwb]; exact below_alloc (Below.refl _ _) _
  have hO0 := Aside0.mk (own_lit1 wb wb.heap.size 8 (Nat.le_refl _))
  have hB0 := Aside0.mk (below_alloc (Below.refl wb.heap.size wb) (.cells #[.int .u8 8] 5))
  have c0 : ∀ W, Below wb.heap.size wb W → W.heap[w.heap.size]? = some (.cells #[.int .i64 t, .int .i32 i, .string S] 34 (0, 0)) := fun W hW => (hW.block w.heap.size (by omega)).trans hbox
  replace c0 := Aside0.mk c0
  replace hBb := Aside0.mk hBb
  have k0 : wb.cell? ⟨w.heap.size, 0, none⟩ = some (.int .i64 t) := (blk_cell hbox 0).trans rfl
  replace hbox := Aside0.mk hbox
  replace hwb := Aside0.mk hwb
  replace hwz := Aside0.mk hwz
  obtain ⟨wb, hwb⟩ : ∃ wb, wb = w.alloc (.cells #[.int .i64 t, .int .i32 i, .string S] 34) := ⟨_, rfl⟩
  have hbox : wb.heap[w.heap.size]? = some (.cells #[.int .i64 t, .int .i32 i, .string S] 34 (0, 0)) := by rw [hwb]; exact heap_alloc_new w _
  have hwz : wb.heap.size = w.heap.size + 1 := by rw [hwb, World.size_alloc]
  have hBb : Below w.heap.size w wb := by rw [hwb]; exact below_alloc (Below.refl _ _) _
  have hO0 := Aside0.mk (own_lit1 wb wb.heap.size 8 (Nat.le_refl _))
  have hB0 := Aside0.mk (below_alloc (Below.refl wb.heap.size wb) (.cells #[.int .u8 8] 5))
  have c0 : ∀ W, Below wb.heap.size wb W → W.heap[w.heap.size]? = some (.cells #[.int .i64 t, .int .i32 i, .string S] 34 (0, 0)) := fun W hW => (hW.block w.heap.size (by omega)).trans hbox
  replace c0 := Aside0.mk c0
  replace hBb := Aside0.mk hBb
  have k0 : wb.cell? ⟨w.heap.size, 0, none⟩ = some (.int .i64 t) := (blk_cell hbox 0).trans rfl
  replace hbox := Aside0.mk hbox
  replace hwb := Aside0.mk hwb
  replace hwz := Aside0.mk hwz
  obtain ⟨wb, hwb⟩ : ∃ wb, wb = w.alloc (.cells #[.int .i64 t, .int .i32 i, .string S] 34) := ⟨_, rfl⟩
  have hbox : wb.heap[w.heap.size]? = some (.cells #[.int .i64 t, .int .i32 i, .string S] 34 (0, 0)) := by rw [hwb]; exact heap_alloc_new w _
  have hwz : wb.heap.size = w.heap.size + 1 := by rw [hwb, World.size_alloc]
  have hBb : Below w.heap.size w wb := by rw [hwb]; exact below_alloc (Below.refl _ _) _
  have hO0 := Aside0.mk (own_lit1 wb wb.heap.size 8 (Nat.le_refl _))
  have hB0 := Aside0.mk (below_alloc (Below.refl wb.heap.size wb) (.cells #[.int .u8 8] 5))
  have c0 : ∀ W, Below wb.heap.size wb W → W.heap[w.heap.size]? = some (.cells #[.int .i64 t, .int .i32 i, .string S] 34 (0, 0)) := fun W hW => (hW.block w.heap.size (by omega)).trans hbox
  replace c0 := Aside0.mk c0
  replace hBb := Aside0.mk hBb
  have k0 : wb.cell? ⟨w.heap.size, 0, none⟩ = some (.int .i64 t) := (blk_cell hbox 0).trans rfl
  replace hbox := Aside0.mk hbox
  replace hwb := Aside0.mk hwb
  replace hwz := Aside0.mk hwz
  obtain ⟨wb, hwb⟩ : ∃ wb, wb = w.alloc (.cells #[.int .i64 t, .int .i32 i, .string S] 34) := ⟨_, rfl⟩
  have hbox : wb.heap[w.heap.size]? = some (.cells #[.int .i64 t, .int .i32 i, .string S] 34 (0, 0)) := by rw [hwb]; exact heap_alloc_new w _
  have hwz : wb.heap.size = w.heap.size + 1 := by rw [hwb, World.size_alloc]
  have hBb : Below w.heap.size w wb := by rw [hwb]; exact below_alloc (Below.refl _ _) _
  have hO0 := Aside0.mk (own_lit1 wb wb.heap.size 8 (Nat.le_refl _))
  have hB0 := Aside0.mk (below_alloc (Below.refl wb.heap.size wb) (.cells #[.int .u8 8] 5))
  have c0 : ∀ W, Below wb.heap.size wb W → W.heap[w.heap.size]? = some (.cells #[.int .i64 t, .int .i32 i, .string S] 34 (0, 0)) := fun W hW => (hW.block w.heap.size (by omega)).trans hbox
  replace c0 := Aside0.mk c0
  replace hBb := Aside0.mk hBb
  have k0 : wb.cell? ⟨w.heap.size, 0, none⟩ = some (.int .i64 t) := (blk_cell hbox 0).trans rfl
  replace hbox := Aside0.mk hbox
  replace hwb := Aside0.mk hwb
  replace hwz := Aside0.mk hwz
  obtain ⟨wb, hwb⟩ : ∃ wb, wb = w.alloc (.cells #[.int .i64 t, .int .i32 i, .string S] 34) := ⟨_, rfl⟩
  have hbox : wb.heap[w.heap.size]? = some (.cells #[.int .i64 t, .int .i32 i, .string S] 34 (0, 0)) := by rw [hwb]; exact heap_alloc_new w _
  have hwz : wb.heap.size = w.heap.size + 1 := by rw [hwb, World.size_alloc]
  have hBb : Below w.heap.size w wb := by rw [hwb]; exact below_alloc (Below.refl _ _) _
  have hO0 := Aside0.mk (own_lit1 wb wb.heap.size 8 (Nat.le_refl _))
  have hB0 := Aside0.mk (below_alloc (Below.refl wb.heap.size wb) (.cells #[.int .u8 8] 5))
  have c0 : ∀ W, Below wb.heap.size wb W → W.heap[w.heap.size]? = some (.cells #[.int .i64 t, .int .i32 i, .string S] 34 (0, 0)) := fun W hW => (hW.block w.heap.size (by omega)).trans hbox
  replace c0 := Aside0.mk c0
  replace hBb := Aside0.mk hBb
  have k0 : wb.cell? ⟨w.heap.size, 0, none⟩ = some (.int .i64 t) := (blk_cell hbox 0).trans rfl
  replace hbox := Aside0.mk hbox
  replace hwb := Aside0.mk hwb
  replace hwz := Aside0.mk hwz
  obtain ⟨wb, hwb⟩ : ∃ wb, wb = w.alloc (.cells #[.int .i64 t, .int .i32 i, .string S] 34) := ⟨_, rfl⟩
  have hbox : wb.heap[w.heap.size]? = some (.cells #[.int .i64 t, .int .i32 i, .string S] 34 (0, 0)) := by rw [hwb]; exact heap_alloc_new w _
  have hwz : wb.heap.size = w.heap.size + 1 := by rw [hwb, World.size_alloc]
  have hBb : Below w.heap.size w wb := by rw [hwb]; exact below_alloc (Below.refl _ _) _
  have hO0 := Aside0.mk (own_lit1 wb wb.heap.size 8 (Nat.le_refl _))
  have hB0 := Aside0.mk (below_alloc (Below.refl wb.heap.size wb) (.cells #[.int .u8 8] 5))
  have c0 : ∀ W, Below wb.heap.size wb W → W.heap[w.heap.size]? = some (.cells #[.int .i64 t, .int .i32 i, .string S] 34 (0, 0)) := fun W hW => (hW.block w.heap.size (by omega)).trans hbox
  replace c0 := Aside0.mk c0
  replace hBb := Aside0.mk hBb
  have k0 : wb.cell? ⟨w.heap.size, 0, none⟩ = some (.int .i64 t) := (blk_cell hbox 0).trans rfl
  replace hbox := Aside0.mk hbox
  replace hwb := Aside0.mk hwb
  replace hwz := Aside0.mk hwz
  obtain ⟨wb, hwb⟩ : ∃ wb, wb = w.alloc (.cells #[.int .i64 t, .int .i32 i, .string S] 34) := ⟨_, rfl⟩
  have hbox : wb.heap[w.heap.size]? = some (.cells #[.int .i64 t, .int .i32 i, .string S] 34 (0, 0)) := by rw [hwb]; exact heap_alloc_new w _
  have hwz : wb.heap.size = w.heap.size + 1 := by rw [hwb, World.size_alloc]
  have hBb : Below w.heap.size w wb := by rw [hwb]; exact below_alloc (Below.refl _ _) _
  have hO0 := Aside0.mk (own_lit1 wb wb.heap.size 8 (Nat.le_refl _))
  have hB0 := Aside0.mk (below_alloc (Below.refl wb.heap.size wb) (.cells #[.int .u8 8] 5))
  have c0 : ∀ W, Below wb.heap.size wb W → W.heap[w.heap.size]? = some (.cells #[.int .i64 t, .int .i32 i, .string S] 34 (0, 0)) := fun W hW => (hW.block w.heap.size (by omega)).trans hbox
  replace c0 := Aside0.mk c0
  replace hBb := Aside0.mk hBb
  have k0 : wb.cell? ⟨w.heap.size, 0, none⟩ = some (.int .i64 t) := (blk_cell hbox 0).trans rfl
  replace hbox := Aside0.mk hbox
  replace hwb := Aside0.mk hwb
  replace hwz := Aside0.mk hwz
  obtain ⟨wb, hwb⟩ : ∃ wb, wb = w.alloc (.cells #[.int .i64 t, .int .i32 i, .string S] 34) := ⟨_, rfl⟩
  have hbox : wb.heap[w.heap.size]? = some (.cells #[.int .i64 t, .int .i32 i, .string S] 34 (0, 0)) := by rw [hwb]; exact heap_alloc_new w _
  have hwz : wb.heap.size = w.heap.size + 1 := by rw [hwb, World.size_alloc]
  have hBb : Below w.heap.size w wb := by rw [hwb]; exact below_alloc (Below.refl _ _) _
  have hO0 := Aside0.mk (own_lit1 wb wb.heap.size 8 (Nat.le_refl _))
  have hB0 := Aside0.mk (below_alloc (Below.refl wb.heap.size wb) (.cells #[.int .u8 8] 5))
  have c0 : ∀ W, Below wb.heap.size wb W → W.heap[w.heap.size]? = some (.cells #[.int .i64 t, .int .i32 i, .string S] 34 (0, 0)) := fun W hW => (hW.block w.heap.size (by omega)).trans hbox
  replace c0 := Aside0.mk c0
  replace hBb := Aside0.mk hBb
  have k0 : wb.cell? ⟨w.heap.size, 0, none⟩ = some (.int .i64 t) := (blk_cell hbox 0).trans rfl
  replace hbox := Aside0.mk hbox
  replace hwb := Aside0.mk hwb
  replace hwz := Aside0.mk hwz
  obtain ⟨wb, hwb⟩ : ∃ wb, wb = w.alloc (.cells #[.int .i64 t, .int .i32 i, .string S] 34) := ⟨_, rfl⟩
  have hbox : wb.heap[w.heap.size]? = some (.cells #[.int .i64 t, .int .i32 i, .string S] 34 (0, 0)) := by rw [hwb]; exact heap_alloc_new w _
  have hwz : wb.heap.size = w.heap.size + 1 := by rw [hwb, World.size_alloc]
  have hBb : Below w.heap.size w wb := by rw [hwb]; exact below_alloc (Below.refl _ _) _
  have hO0 := Aside0.mk (own_lit1 wb wb.heap.size 8 (Nat.le_refl _))
  have hB0 := Aside0.mk (below_alloc (Below.refl wb.heap.size wb) (.cells #[.int .u8 8] 5))
  have c0 : ∀ W, Below wb.heap.size wb W → W.heap[w.heap.size]? = some (.cells #[.int .i64 t, .int .i32 i, .string S] 34 (0, 0)) := fun W hW => (hW.block w.heap.size (by omega)).trans hbox
  replace c0 := Aside0.mk c0
  replace hBb := Aside0.mk hBb
  have k0 : wb.cell? ⟨w.heap.size, 0, none⟩ = some (.int .i64 t) := (blk_cell hbox 0).trans rfl
  replace hbox := Aside0.mk hbox
  replace hwb := Aside0.mk hwb
  replace hwz := Aside0.mk hwz
  obtain ⟨wb, hwb⟩ : ∃ wb, wb = w.alloc (.cells #[.int .i64 t, .int .i32 i, .string S] 34) := ⟨_, rfl⟩
  have hbox : wb.heap[w.heap.size]? = some (.cells #[.int .i64 t, .int .i32 i, .string S] 34 (0, 0)) := by rw [hwb]; exact heap_alloc_new w _
  have hwz : wb.heap.size = w.heap.size + 1 := by rw [hwb, World.size_alloc]
  have hBb : Below w.heap.size w wb := by rw [hwb]; exact below_alloc (Below.refl _ _) _
  have hO0 := Aside0.mk (own_lit1 wb wb.heap.size 8 (Nat.le_refl _))
  have hB0 := Aside0.mk (below_alloc (Below.refl wb.heap.size wb) (.cells #[.int .u8 8] 5))
  have c0 : ∀ W, Below wb.heap.size wb W → W.heap[w.heap.size]? = some (.cells #[.int .i64 t, .int .i32 i, .string S] 34 (0, 0)) := fun W hW => (hW.block w.heap.size (by omega)).trans hbox
  replace c0 := Aside0.mk c0
  replace hBb := Aside0.mk hBb
  have k0 : wb.cell? ⟨w.heap.size, 0, none⟩ = some (.int .i64 t) := (blk_cell hbox 0).trans rfl
  replace hbox := Aside0.mk hbox
  replace hwb := Aside0.mk hwb
  replace hwz := Aside0.mk hwz
  go_enter Tryd.func18, Tryd.ntmps18
  go_wp2_with fail
  rw [← hwb.out]
  refine (s1.out _).mono ?_
  rintro e w1 ⟨A1, d1, rfl, hR1, hBx⟩
  have e1 := hwz.out
  have hO1 := Aside0.mk (show Own w1 wb.heap.size (.slice (some ⟨w.heap.size + 1, 0, none⟩) 1 1) [8] by rw [← e1]; exact Own.below hO0.out hBx)
  have hB1 := Aside0.mk (below_then hB0.out hB0.out.size hBx)
  replace hR1 := Aside0.mk hR1
  clear hBx k0
  go_wp2_with (first
    | (at_builtin; refine print_append_row (w0 := wb) wb.heap.size rfl (.tmp 4) (.tmp 8) 27 5 .u8 1 rfl Tryd.underlying27 info5' (by omega) (.slice (some ⟨w.heap.size + 1, 0, none⟩) 1 1) ([8]) (vi x) (A1) (vl x) (d1) rfl rfl hO1.out hR1.out hB1.out (Below.size hB1.out) (by simp only [List.length_append, List.length_cons, List.length_nil, vi_length]; have := b1.out; have := b2.out; have := b3.out; omega) ?_; intro v2 w2 ho hb hg _; have hO2 := Aside0.mk (show Own w2 wb.heap.size v2 (([8]) ++ (vi x)) from ho); have hB2 := Aside0.mk hb; clear ho hb hg)
    | (at_builtin; refine print_append_row (w0 := wb) wb.heap.size rfl (.tmp 10) (.tmp 11) 27 5 .u8 1 rfl Tryd.underlying27 info5' (by omega) (v2) ([8] ++ vi x) ([16]) (some ⟨w2.heap.size, 0, none⟩) (1) (1) rfl rfl (Own.below hO2.out (below_alloc (Below.refl _ _) _)) (reads_lit w2 16) (below_alloc hB2.out _) (Below.size (below_alloc hB2.out _)) (by simp only [List.length_append, List.length_cons, List.length_nil, vi_length]; have := b1.out; have := b2.out; have := b3.out; omega) ?_; intro v3 w3 ho hb hg _; have hO3 := Aside0.mk (show Own w3 wb.heap.size v3 (([8] ++ vi x) ++ ([16])) from ho); have hB3 := Aside0.mk hb; clear ho hb hg; have k3 : w3.cell? ⟨w.heap.size, 1, none⟩ = some (.int .i32 i) := (blk_cell (c0.out _ hB3.out) 1).trans rfl)
    | (go_at_call 19; (with_reducible refine (s2.out _).mono ?_); rintro e w4 ⟨A4, d4, rfl, hR, hBx⟩; have hO4 := Aside0.mk (Own.below hO3.out hBx); have hB4 := Aside0.mk (below_then hB3.out hB3.out.size hBx); have hR4 := Aside0.mk hR; clear hBx hR k3)
    | (at_builtin; refine print_append_row (w0 := wb) wb.heap.size rfl (.tmp 13) (.tmp 18) 27 5 .u8 1 rfl Tryd.underlying27 info5' (by omega) (v3) (([8] ++ vi x) ++ [16]) (vi y) (A4) (vl y) (d4) rfl rfl hO4.out hR4.out hB4.out (Below.size hB4.out) (by simp only [List.length_append, List.length_cons, List.length_nil, vi_length]; have := b1.out; have := b2.out; have := b3.out; omega) ?_; intro v5 w5 ho hb hg _; have hO5 := Aside0.mk (show Own w5 wb.heap.size v5 ((([8] ++ vi x) ++ [16]) ++ (vi y)) from ho); have hB5 := Aside0.mk hb; clear ho hb hg)
    | (at_builtin; refine print_append_row (w0 := wb) wb.heap.size rfl (.tmp 20) (.tmp 21) 27 5 .u8 1 rfl Tryd.underlying27 info5' (by omega) (v5) ((([8] ++ vi x) ++ [16]) ++ vi y) ([26]) (some ⟨w5.heap.size, 0, none⟩) (1) (1) rfl rfl (Own.below hO5.out (below_alloc (Below.refl _ _) _)) (reads_lit w5 26) (below_alloc hB5.out _) (Below.size (below_alloc hB5.out _)) (by simp only [List.length_append, List.length_cons, List.length_nil, vi_length]; have := b1.out; have := b2.out; have := b3.out; omega) ?_; intro v6 w6 ho hb hg _; have hO6 := Aside0.mk (show Own w6 wb.heap.size v6 (((([8] ++ vi x) ++ [16]) ++ vi y) ++ ([26])) from ho); have hB6 := Aside0.mk hb; clear ho hb hg; have k6 : w6.cell? ⟨w.heap.size, 2, none⟩ = some (.string S) := (blk_cell (c0.out _ hB6.out) 2).trans rfl)
    | (go_at_call 19; (with_reducible refine (s3.out _).mono ?_); rintro e w7 ⟨A7, d7, rfl, hR, hBx⟩; have hO7 := Aside0.mk (Own.below hO6.out hBx); have hB7 := Aside0.mk (below_then hB6.out hB6.out.size hBx); have hR7 := Aside0.mk hR; clear hBx hR k6)
    | (at_builtin; refine print_append_row (w0 := wb) wb.heap.size rfl (.tmp 23) (.tmp 28) 27 5 .u8 1 rfl Tryd.underlying27 info5' (by omega) (v6) (((([8] ++ vi x) ++ [16]) ++ vi y) ++ [26]) (vi S.size) (A7) (vl S.size) (d7) rfl rfl hO7.out hR7.out hB7.out (Below.size hB7.out) (by simp only [List.length_append, List.length_cons, List.length_nil, vi_length]; have := b1.out; have := b2.out; have := b3.out; omega) ?_; intro v8 w8 ho hb hg _; have hO8 := Aside0.mk (show Own w8 wb.heap.size v8 ((((([8] ++ vi x) ++ [16]) ++ vi y) ++ [26]) ++ (vi S.size)) from ho); have hB8 := Aside0.mk hb; clear ho hb hg; have k8 : w8.cell? ⟨w.heap.size, 2, none⟩ = some (.string S) := (blk_cell (c0.out _ hB8.out) 2).trans rfl)
    | (at_builtin; refine print_append_str (w0 := wb) wb.heap.size rfl (.tmp 30) (.tmp 32) 27 9 5 rfl Tryd.underlying27 Tryd.underlying9 info5' v8 ((((([8] ++ vi x) ++ [16]) ++ vi y) ++ [26]) ++ vi S.size) S rfl rfl hO8.out hB8.out hB8.out.size (by simp only [List.length_append, List.length_cons, List.length_nil, vi_length]; have := b1.out; have := b2.out; have := b3.out; omega) ?_; intro v9 w9 ho hb _; have hO9 := Aside0.mk (show Own w9 wb.heap.size v9 (((((([8] ++ vi x) ++ [16]) ++ vi y) ++ [26]) ++ vi S.size) ++ bytesOf S) from ho); have hB9 := Aside0.mk hb; clear ho hb k8))
  go_ret
  refine ⟨v9, rfl, ?_, below_then hBb.out hBb.out.size hB9.out⟩
  have e : ((((([8] ++ vi x) ++ [16]) ++ vi y) ++ [26]) ++ vi S.size) ++ bytesOf S = WL x y S := by simp [WL, wire, vi, bytesOf]
  have h := hO9.out
  rw [e] at h
  obtain ⟨g1, g2⟩ := h
  refine ⟨g1, ?_⟩
  rcases g2 with g2 | ⟨g, cap, cur, e2, hg, h4⟩
  · exact .inl g2
  · exact .inr ⟨g, cap, cur, e2, by omega, h4⟩
end Go.Proofs.YtmkpkpkcoieeiabDoor.IsW
